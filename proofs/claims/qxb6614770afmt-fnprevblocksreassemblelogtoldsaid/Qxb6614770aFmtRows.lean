/-
  NARROWER THAN 'FOR EVERY INPUT', by the rows' own cells (each row's printed sentence says how): FnPrevSmallLogRestThenFirstLine: laid · FnPrevBlocksReassembleLog: laid.
  DERIVED. THE GIVEN ROWS OF THIS SEAT. 2 by the template 'for every input the law returns true; each argument reads behind the call as it read before'; 0 by the template 'total and deterministic' (their statements: Qxb6614770aFmtTotals.lean).
  GIVEN WITH THE SEED: the statements are not yours to turn. If you find one false, say at which input.
  Laid BY PROGRAM, IN A SANDBOX (cutbox-rows.mjs): the forced cells as the released guide's own fill.sh prints them over the translation eb5a12a280745392… (all of the seat's roots in one cut). By AI agents, Wed Nov 11 2026. No macro, syntax, notation, axiom, sorry.
-/
import Derived.Test.Qxb6614770aFmtChecked
import GoSem.Claim
import GoSem.ClaimJoined
import GoSem.ClaimMapViews
import Derived.JoinedTies
import Derived.KernelRfl
namespace Go.Proofs.Qxb6614770aFmt
/- THE CELL 'sum', in the pinned program and in every row, IS THE sha256 OF THE DUMP (.gsa) THAT Qxb6614770aFmtProg.lean LOADS. Nothing in Lean hashes anything: it is a label: what it is worth is what the hold of that sum in a sandbox is worth. -/
noncomputable def Tryf.pinned : Pinned := { name := "qxb6614770afmt", sum := "eb5a12a2807453929d912a16cf1e196b83022ce26327cfde7cae0437148c282b", checked := Tryf.checked }
namespace Rows
def none {H : Type} : Left H := { results := [], args := [] }

/- WHAT THE LISTED PACKAGE-LEVEL VARIABLES READ AS WHEN THE CALL BEGINS. Each datum BY PROGRAM (the guide's laid-datum.mjs) off the statement by which the dump's own 'gosem.cut.vars' lays the variable. In a bare row this is a premise. The card (Qxb6614770aFmtCards.lean) ties it to the program's text. -/
def laid_io_EOF {H : Type} : DataW H := .iface "*errors.errorString" (.ptr (.agg [.lit (.string [69, 79, 70])]))
def laid_bufio_ErrTooLong {H : Type} : DataW H := .iface "*errors.errorString" (.ptr (.agg [.lit (.string [98, 117, 102, 105, 111, 46, 83, 99, 97, 110, 110, 101, 114, 58, 32, 116, 111, 107, 101, 110, 32, 116, 111, 111, 32, 108, 111, 110, 103])]))

/-- 'zzlaws_internal_pinglog_b1.FnPrevSmallLogRestThenFirstLine': WHATEVER THE INPUT: true; the input reads as it did. -/
def fnPrevSmallLogRestThenFirstLineSpec : ChangeSpec := { name := "fnPrevSmallLogRestThenFirstLine", fn := fun _ => fun
  | [d] => { results := [.lit (.bool true)], args := [d] }
  | _ => none }
def fnPrevSmallLogRestThenFirstLineRow : OpenClaim := { program := "qxb6614770afmt", sum := "eb5a12a2807453929d912a16cf1e196b83022ce26327cfde7cae0437148c282b", func := "example.com/leadline/leadline/zzlaws_internal_pinglog_b1.FnPrevSmallLogRestThenFirstLine", spec := "fnPrevSmallLogRestThenFirstLine", stops := ["fmt.errorf"], inPlace := ["fmt.errorf", "internal/bytealg.IndexByte"], unfollowed := true, recurses := true, named := ["io.EOF", "bufio.ErrTooLong"], apart := false, laid := [("io.EOF", laid_io_EOF), ("bufio.ErrTooLong", laid_bufio_ErrTooLong)] }
/-- NO THEOREM (fmt's text is open here; it may be false): for the released tool's asking of the row's closed facts alone. THE STATEMENT IS 'FnPrevSmallLogRestThenFirstLineToldSaid' (Qxb6614770aFmtCards.lean). -/
def FnPrevSmallLogRestThenFirstLineFormAsk : Prop := fnPrevSmallLogRestThenFirstLineRow.holds Tryf.pinned (OpenSpec.ofChange fnPrevSmallLogRestThenFirstLineSpec)

/-- ITS FALSE NEIGHBOUR: 'it returns false'. Refute it at one input. -/
def fnPrevSmallLogRestThenFirstLineWrong : ChangeSpec := { name := "fnPrevSmallLogRestThenFirstLine", fn := fun _ => fun
  | [d] => { results := [.lit (.bool false)], args := [d] }
  | _ => none }
def FnPrevSmallLogRestThenFirstLineWrongFormAsk : Prop := fnPrevSmallLogRestThenFirstLineRow.holds Tryf.pinned (OpenSpec.ofChange fnPrevSmallLogRestThenFirstLineWrong)

/-- 'zzlaws_internal_pinglog_b1.FnPrevBlocksReassembleLog': WHATEVER THE INPUT: true; the input reads as it did. -/
def fnPrevBlocksReassembleLogSpec : ChangeSpec := { name := "fnPrevBlocksReassembleLog", fn := fun _ => fun
  | [d] => { results := [.lit (.bool true)], args := [d] }
  | _ => none }
def fnPrevBlocksReassembleLogRow : OpenClaim := { program := "qxb6614770afmt", sum := "eb5a12a2807453929d912a16cf1e196b83022ce26327cfde7cae0437148c282b", func := "example.com/leadline/leadline/zzlaws_internal_pinglog_b1.FnPrevBlocksReassembleLog", spec := "fnPrevBlocksReassembleLog", stops := ["fmt.errorf"], inPlace := ["fmt.errorf", "internal/bytealg.IndexByte"], unfollowed := true, recurses := true, named := ["io.EOF", "bufio.ErrTooLong"], apart := false, laid := [("io.EOF", laid_io_EOF), ("bufio.ErrTooLong", laid_bufio_ErrTooLong)] }
/-- NO THEOREM (fmt's text is open here; it may be false): for the released tool's asking of the row's closed facts alone. THE STATEMENT IS 'FnPrevBlocksReassembleLogToldSaid' (Qxb6614770aFmtCards.lean). -/
def FnPrevBlocksReassembleLogFormAsk : Prop := fnPrevBlocksReassembleLogRow.holds Tryf.pinned (OpenSpec.ofChange fnPrevBlocksReassembleLogSpec)

/-- ITS FALSE NEIGHBOUR: 'it returns false'. Refute it at one input. -/
def fnPrevBlocksReassembleLogWrong : ChangeSpec := { name := "fnPrevBlocksReassembleLog", fn := fun _ => fun
  | [d] => { results := [.lit (.bool false)], args := [d] }
  | _ => none }
def FnPrevBlocksReassembleLogWrongFormAsk : Prop := fnPrevBlocksReassembleLogRow.holds Tryf.pinned (OpenSpec.ofChange fnPrevBlocksReassembleLogWrong)

end Rows
end Go.Proofs.Qxb6614770aFmt

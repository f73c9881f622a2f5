/-
  DERIVED. GIVEN WITH THE SEED: THE CARDS: each row of Qxb6614770aFmtRows.lean that lists a variable, with what it lists TIED to the program's text (the seventh form; the later family's looks); each row that meets fmt, with fmt's text TOLD by the authors' own Lean function (tested against real Go, not proved from fmt's source: count such statements apart). THE CARD IS WHAT COUNTS. Prove the row's statement (the work); the ties are given (Qxb6614770aFmtTie.lean); close each card by the builder's one call (the guide's Derived/Test/ToyasCard.lean, 'card_holds'). Laid BY PROGRAM, IN A SANDBOX (cutbox-door.mjs). By AI agents, Wed Nov 11 2026. No macro, syntax, notation, axiom, sorry.
-/
import Derived.Test.Qxb6614770aFmtRows
import GoSem.ClaimSeven
namespace Go.Proofs.Qxb6614770aFmt
namespace Rows

/-- THE TOLD AND TIED CARD OF 'zzlaws_internal_pinglog_b1.FnPrevSmallLogRestThenFirstLine'. -/
def fnPrevSmallLogRestThenFirstLineCard : Claim7 := { stood := { row := fnPrevSmallLogRestThenFirstLineRow, standIns := [], harness := (true, "a18619b42182e2f9edb3bf3545305fc0cba80ea70a477d3149abb3667cbeb6c1"), looks := false }, told := true, laidByText := true, laidKinds := [.sentinel, .sentinel], laidTests := true, laidLooks := .later, goes := false }
def FnPrevSmallLogRestThenFirstLineToldSaid : Prop := Claim7.holds Tryf.pinned (.plain (OpenSpec.ofChange fnPrevSmallLogRestThenFirstLineSpec)) fnPrevSmallLogRestThenFirstLineCard
/-- ITS FALSE NEIGHBOUR. Refute it at one input. -/
def FnPrevSmallLogRestThenFirstLineToldWrongFalsely : Prop := Claim7.holds Tryf.pinned (.plain (OpenSpec.ofChange fnPrevSmallLogRestThenFirstLineWrong)) fnPrevSmallLogRestThenFirstLineCard

/-- THE TOLD AND TIED CARD OF 'zzlaws_internal_pinglog_b1.FnPrevBlocksReassembleLog'. -/
def fnPrevBlocksReassembleLogCard : Claim7 := { stood := { row := fnPrevBlocksReassembleLogRow, standIns := [], harness := (true, "a18619b42182e2f9edb3bf3545305fc0cba80ea70a477d3149abb3667cbeb6c1"), looks := false }, told := true, laidByText := true, laidKinds := [.sentinel, .sentinel], laidTests := true, laidLooks := .later, goes := false }
def FnPrevBlocksReassembleLogToldSaid : Prop := Claim7.holds Tryf.pinned (.plain (OpenSpec.ofChange fnPrevBlocksReassembleLogSpec)) fnPrevBlocksReassembleLogCard
/-- ITS FALSE NEIGHBOUR. Refute it at one input. -/
def FnPrevBlocksReassembleLogToldWrongFalsely : Prop := Claim7.holds Tryf.pinned (.plain (OpenSpec.ofChange fnPrevBlocksReassembleLogWrong)) fnPrevBlocksReassembleLogCard
end Rows
end Go.Proofs.Qxb6614770aFmt

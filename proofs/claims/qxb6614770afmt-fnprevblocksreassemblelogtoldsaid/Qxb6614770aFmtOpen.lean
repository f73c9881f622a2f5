import Derived.Test.Qxb6614770aFmtRows
import Derived.Test.Qxb6614770aFmtL4
import Derived.ProofKit
import Derived.LaidMore
import Derived.OpenShut
import Derived.Below
import Derived.LaidLaws
import Derived.Stop.Joined
import Derived.Stop.JoinedTold
import Derived.Deep.DeepWitnessRef
namespace Go.Proofs.Qxb6614770aFmt
open Go.ChangeShapes Go.WideShapes Go.ChangeAt Go.RowKit
set_option linter.unusedVariables false

theorem own : ownKnob Tryf.prog.godebug = none := by kernel_rfl
theorem laidOut : laidOutB Tryf.prog = true := by kernel_rfl
theorem gEof : Tryf.prog.globalNamed "io.EOF" = some 0 := by kernel_rfl
theorem tEof : (Tryf.prog.globals[0]?).map (·.type) = some 29 := by kernel_rfl
/-- The name of the type that a datum of an interface bears. -/
def nameOf (d : DataW Unit) : String := match d with
  | .iface n _ => n
  | _ => ""
theorem row50 (u : TypeId) (h : Tryf.prog.typeName? 3 u = some (nameOf Rows.laid_io_EOF)) : u = 50 :=
  typeName_ptr_named (nm := "errors.errorString") (by kernel_rfl) (by kernel_rfl) (by decide) u (h.trans (congrArg some (by unfold nameOf Rows.laid_io_EOF; decide)))
theorem cells52 : Tryf.prog.cellsOf 52 = 1 := by kernel_rfl
theorem cells9 : Tryf.prog.cellsOf 9 = 1 := by kernel_rfl

/-- The two listed variables. -/
abbrev laid2 : List (String × DataW Unit) := [("io.EOF", Rows.laid_io_EOF), ("bufio.ErrTooLong", Rows.laid_bufio_ErrTooLong)]

theorem door_met (os : Os) (args : Array Value) : laidMetH Tryf.prog laid2 ((World.doorLaid Tryf.prog 400 os).forCall (fun _ _ => 0) ⟨#[], args, []⟩).memory :=
  laidMetH_of_parts3 (fuel := 8) (laidMet_of_run' 8 (by kernel_rfl) (by kernel_rfl)) (by kernel_rfl) (by kernel_rfl)

/-- What the condition gives the walks: io.EOF is not nil. -/
theorem eof_of_laid {W : World} (h : laidMetH Tryf.prog laid2 W) : ∃ te ev, W.cell? ⟨0, 0, none⟩ = some (.iface te ev) := by
  rw [MakeChecks.laidMetH_plain _ _ _ (by kernel_rfl)] at h
  obtain ⟨ps, ⟨g0, t0, cs0, f0, p0, q0, hg0, ht0, hv0, hd0, hrest, e0⟩, hnd, hrows⟩ := h
  obtain rfl := Option.some.inj (gEof.symm.trans hg0)
  obtain rfl := Option.some.inj (tEof.symm.trans ht0)
  subst e0
  obtain ⟨l0⟩ := cs0
  have ok0 : ∀ u v, l0 = [.iface u v] → Value.okWide Tryf.prog W .any 0 u v := fun u v e => by
    subst e
    exact (hrows 0 0 (by simp [MemPlace.row])).2 u v (by simpa using World.var?_cell hg0 hv0 0)
  obtain ⟨a1, s1, rfl, hc1, hs1, hz1, rfl⟩ := errorString_of_trod Tryf.underlying29 row50 Tryf.underlying50 Tryf.underlying52 rfl rfl Tryf.underlying9 cells52 cells9 hd0 ok0
  exact ⟨50, _, by simpa using World.var?_cell gEof hv0 0⟩

/-- A slice of bytes that came in. -/
theorem row_view {w : World} {x : Addr} {len cap : Nat} {zs : List Int} (h1 : len ≤ cap) (h2 : cap ≤ maxLen) (h3 : zs.length = cap) (h4 : ∀ i, i < zs.length → w.cell? (x.add i) = some (.int .u8 (zs.getD i 0))) (h5 : ∀ n ∈ zs, (Lit.int .u8 n).wf = true) :
    ∃ xs : List Int, xs.length = len ∧ View .u8 w (some x) xs ∧ ∀ n ∈ xs, (Lit.int .u8 n).wf = true := by
  refine ⟨zs.take len, by simp; omega, ?_, fun n hn => h5 n (List.mem_of_mem_take hn)⟩
  intro i hi
  simp at hi
  have hc := h4 i (by omega)
  obtain ⟨b, off, spot⟩ := x
  have hs : spot = none := by
    have h0 := h4 0 (by omega)
    simpa [Addr.add] using World.cell?_spot h0
  subst hs
  refine ⟨b, off, rfl, ?_⟩
  rw [Addr.add_lit] at hc
  rw [hc]
  simp [List.getD, show i < len from by omega]

theorem byt_of {xs : List Int} (h : ∀ n ∈ xs, (Lit.int .u8 n).wf = true) : Byt xs := by
  intro x hx
  have := h x hx
  have e1 : IntKind.u8.min = 0 := rfl
  have e2 : IntKind.u8.max = 255 := rfl
  simp [Lit.wf, e1, e2] at this
  omega

theorem walk3 (a : Option Addr) (n c : Nat) (D : List Int) (te : TypeId) (ev : Value) (w : World) (hl : D.length = n) (hM : n ≤ maxLen) (ha : a = none → c = 0) (hb : Byt D) (hx : View .u8 w a D) (he : w.cell? ⟨0, 0, none⟩ = some (.iface te ev)) :
    Calls Tryf.prog 3 #[.slice a n c] w fun e w' => e = .returned (.bool true) ∧ Below w.heap.size w w' := by
  by_cases h : 65536 < n
  · exact law3_far a n c w hM h
  · exact law3_main a n c D te ev w hl (by omega) ha hb hx he

theorem walk4 (a : Option Addr) (n c : Nat) (D : List Int) (te : TypeId) (ev : Value) (w : World) (hl : D.length = n) (hM : n ≤ maxLen) (ha : a = none → c = 0) (hb : Byt D) (hx : View .u8 w a D) (he : w.cell? ⟨0, 0, none⟩ = some (.iface te ev)) :
    Calls Tryf.prog 4 #[.slice a n c] w fun e w' => e = .returned (.bool true) ∧ Below w.heap.size w w' := by
  by_cases h : 1048576 < n
  · exact law4_far a n c w hM h
  · exact law4_main a n c D te ev w hl (by omega) ha hb hx he

end Go.Proofs.Qxb6614770aFmt

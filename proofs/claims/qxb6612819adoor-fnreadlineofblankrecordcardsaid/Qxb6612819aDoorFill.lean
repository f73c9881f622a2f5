import Derived.Test.Qxb6612819aDoorCopy
import Derived.Deep.RegionWith
import Derived.Deep.RegionHeld3
import Derived.Deep.RegionHeld2
namespace Go.Proofs.Qxb6612819aDoor
open Go.RowKit
set_option linter.unusedVariables false

/-- The cells of a bufio.Reader. -/
def brCells (bb q : Nat) (r e : Int) (err lb lr : Value) : Array Value :=
  #[.slice (some ⟨bb, 0, none⟩) 10000 10000, .iface 38 (.pointer (some ⟨q, 0, none⟩)), .int .i64 r, .int .i64 e, err, lb, lr]

theorem method_read (a : Addr) (w : World) : (method 191 38 (.pointer (some a)) "Read").run Tryd.prog w = .ok (52, .pointer (some a)) w := by kernel_rfl

set_option maxHeartbeats 1000000 in
set_option maxRecDepth 100000 in
theorem fill_zero (g q dd bb N p m : Nat) (D : List Int) (B : List Value) (pr lb lr : Value) (w : World)
    (hg : w.heap[g]? = some (.cells (brCells bb q 0 0 .nilIface lb lr) 44 (0, 0)))
    (hq : w.heap[q]? = some (.cells #[.slice (some ⟨dd, 0, none⟩) N N, .int .i64 p, pr] 47 (0, 0)))
    (hD : View .u8 w (some ⟨dd, 0, none⟩) D) (hDl : D.length = N) (hbb : w.heap[bb]? = some (.cells B.toArray 5 (0, 0))) (hBl : B.length = 10000)
    (hp : p < N) (hN : N ≤ 65537) (n1 : q ≠ bb) (n2 : dd ≠ q) (n3 : dd ≠ bb) (n4 : g ≠ q) (n5 : g ≠ bb) (n6 : g ≠ dd) (hm : m = Nat.min (N - p) 10000) :
    Calls Tryd.prog 27 #[.pointer (some ⟨g, 0, none⟩)] w fun e w' => e = .returned (.tuple #[]) ∧
      w'.heap[g]? = some (.cells (brCells bb q 0 m .nilIface lb lr) 44 (0, 0)) ∧
      w'.heap[q]? = some (.cells #[.slice (some ⟨dd, 0, none⟩) N N, .int .i64 (p + m : Nat), .int .i64 (-1)] 47 (0, 0)) ∧
      w'.heap[bb]? = some (.cells (splice B 0 (((D.drop p).take m).map (Value.int .u8))).toArray 5 (0, 0)) ∧ Frame [g, q, bb] w w' := by
  have c0 := cell3 (j := 0) hg rfl
  have c1 := cell3 (j := 1) hg rfl
  have c2 := cell3 (j := 2) hg rfl
  have c3 := cell3 (j := 3) hg rfl
  have f3 := free3 (j := 3) hg
  simp only [brCells] at c0 c1 c2 c3
  have hmr := method_read
  have hrd : ∀ k, _ := fun k => read_some q dd bb N p m D B pr (w.drewN k) hq (hD.drewN k) hDl hbb hBl hp hN n1 n2 n3 hm
  have HR : Hid _ := hrd
  have hm2 : 1 ≤ m ∧ m ≤ 10000 := by rw [hm]; exact ⟨by rw [Nat.le_min]; omega, Nat.min_le_right _ _⟩
  clear hrd hm
  go_enter Tryd.func27, Tryd.ntmps27
  go_wp2
  go_quiet (fail)
  go_wp2
  refine wp_loop_rounds 1 ?_
  rw [rounds_succ]
  go_wp2
  go_region_held3 (fun W => W.cell? ⟨g, 0, none⟩ = some (.slice (some ⟨bb, 0, none⟩) 10000 10000) ∧ W.cell? ⟨g, 1, none⟩ = some (.iface 38 (.pointer (some ⟨q, 0, none⟩))) ∧ W.cell? ⟨g, 3, none⟩ = some (.int .i64 0)) (go_keep) (first | (go_at_call 52; refine (HR.out _).mono ?_; rintro e w2 ⟨rfl, hq2, hb2, hF2⟩; (have hgn : g ∉ [q, bb] := by simp; omega); (have d0 := hF2.cell c0 hgn); (have d1 := hF2.cell c1 hgn); (have d3 := hF2.cell c3 hgn); (have hg2 := hF2.obj hg hgn); (have f32 := free3 (j := 3) hg2)))
  go_wp2
  refine bodyPost_ret (results_none rfl _ _ _) rfl ?_
  refine ⟨rfl, ?_, ?_, ?_, ?_⟩
  · rw [heap_setCell_same w2 g 3 _ 44 _ hg2]; simp [brCells]
  · rw [heap_setCell_other w2 ⟨g, 3, none⟩ q _ (by show q ≠ g; omega)]; exact hq2
  · rw [heap_setCell_other w2 ⟨g, 3, none⟩ bb _ (by show bb ≠ g; omega)]; exact hb2
  · exact (Frame.trans ((Frame.refl _ _).drewN _) (hF2.mono (by simp))).setCell (by simp) _

theorem step_copy_nothing {P : Program} {ops : Array Oper} {o : Oper} {a : Act} {w : World} {K : Act → World → Prop} {Q : Exit → Act → World → Prop} {E : Prop} (hgd : o.guard = none) (d s : Operand) (dT sT : TypeId)
    (ho : o.op = .call { callee := .builtin .copy, args := #[d, s], argTypes := #[dT, sT] }) (elem : TypeId) (hu : P.underlying dT = some (.slice elem)) (hsz : (P.info? elem).map (·.size) = some 1)
    (dp sp : Option Addr) (dLen dCap sLen sCap : Nat) (hd : a.eval d = .slice dp dLen dCap) (hs : a.eval s = .slice sp sLen sCap) (hn : Nat.min sLen dLen = 0)
    (h : K (a.put o.dst (goInt 0)) w) :
    if Region.wanted o (yielded ops a.tmps) = true then Oper.wp P o a w K Q else E := by
  have hw : Region.wanted o (yielded ops a.tmps) = true := by simp [Region.wanted, hgd]
  rw [if_pos hw]
  have hrun := run_copy_none (P := P) w dT sT o.type elem dp sp dLen dCap sLen sCap hu hsz hn
  unfold Oper.wp
  simp [execOp, ho, resolve, invoke, builtin, hd, hs, hrun, Result.andThen]
  exact h

end Go.Proofs.Qxb6612819aDoor

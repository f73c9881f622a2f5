import Derived.Test.Qxb6614579aUnt
import Derived.Laws.ResultCell
import Derived.Laws.Rows
namespace Go.Proofs.Qxb6614579a
open Go.RowKit
set_option linter.unusedVariables false

theorem Try.info34 : (Try.prog.info? 34).map (·.size) = some 2 := by kernel_rfl

/-- Two results, the first a struct of two cells in a block of its own. -/
theorem results_dot {fn : Func} {p u : Tmp} (h : fn.results = #[.cell p 34, .tmp u]) (tmps : Array Value) (w : World) (g : Nat) (x y : Value)
    (hp : tmps.getD p undef = .pointer (some ⟨g, 0, none⟩)) (hg : w.heap[g]? = some (.cells #[x, y] 34 (0, 0))) :
    (results fn tmps).run Try.prog w = .ok (.tuple #[.agg #[x, y], tmps.getD u undef]) w := by
  rw [results_cell_tmp h, hp]
  simp [asAddr, Result.andThen, run_loadVar_row w g 34 34 #[x, y] (0, 0) _ hg Try.underlying34 rfl Try.info34]

set_option maxHeartbeats 1000000 in
set_option maxRecDepth 100000 in
theorem untold_cov (lb vb : Nat) (G : ByteArray → Option Nat) (E : ByteArray → ByteArray → Option Int) (V : ByteArray → Option Int) (U : List ByteArray) (fv : Value) (n : ByteArray) (q : Int) (w : World) (H : LV w lb vb G E V U) (hq : 0 ≤ q) (hc : Covered E V (n, q)) :
    Calls Try.prog 42 #[.map (some lb), .map (some vb), .agg #[.string n, .int .u64 q], fv] w fun e w' => e = .returned (.tuple #[dotOf none, .bool false]) ∧ Below w.heap.size w w' := by
  obtain ⟨W2, hW2⟩ : ∃ W, (w.alloc (.cells #[.string n, .int .u64 q] 34)).alloc (.cells #[.string ⟨#[]⟩, .int .u64 0] 34) = W := ⟨_, rfl⟩
  have b2 : Below w.heap.size w W2 := by rw [← hW2]; exact ((Below.refl _ _).alloc (Nat.le_refl _) _).alloc (by simp) _
  have r0 : W2.heap[w.heap.size]? = some (.cells #[.string n, .int .u64 q] 34 (0, 0)) := by
    rw [← hW2, Below.heap_alloc _ _ _ (by simp)]; exact heap_alloc_new w _
  have r1 : W2.heap[w.heap.size + 1]? = some (.cells #[.string ⟨#[]⟩, .int .u64 0] 34 (0, 0)) := by
    rw [← hW2]
    have := heap_alloc_new (w.alloc (.cells #[.string n, .int .u64 q] 34 (0, 0))) (.cells #[.string ⟨#[]⟩, .int .u64 0] 34 (0, 0))
    rwa [show (w.alloc (.cells #[.string n, .int .u64 q] 34 (0, 0))).heap.size = w.heap.size + 1 from by simp] at this
  have d0 : W2.cell? ⟨w.heap.size, 0, none⟩ = some (.string n) := cell_of_row _ _ 0 _ 34 (0, 0) r0
  have d1 : W2.cell? ⟨w.heap.size, 1, none⟩ = some (.int .u64 q) := cell_of_row _ _ 1 _ 34 (0, 0) r0
  have H2 := H.below (Frame.of_below b2)
  have HC : Hid _ := hc
  clear hc
  go_enter Try.func42, Try.ntmps42
  go_wp2_with fail
  refine (covers_any lb vb G E V U n q _ H2 hq).mono ?_
  rintro e W3 ⟨b, rfl, hb, b23⟩
  obtain rfl : b = true := hb.2 HC.out
  have F23 : Frame [] W2 W3 := Frame.of_below b23
  have s1 := F23.obj r1 (by simp)
  have k0 : W3.cell? ⟨w.heap.size + 1, 0, none⟩ = some (.string ⟨#[]⟩) := cell_of_row _ _ 0 _ 34 (0, 0) s1
  have k1 : W3.cell? ⟨w.heap.size + 1, 1, none⟩ = some (.int .u64 0) := cell_of_row _ _ 1 _ 34 (0, 0) s1
  have z0 : W3.frozen? ⟨w.heap.size + 1, 0, none⟩ = false := frozen_of_row _ _ 0 _ 34 s1
  have z1 : W3.frozen? ⟨w.heap.size + 1, 1, none⟩ = false := frozen_of_row _ _ 1 _ 34 s1
  clear hb
  go_wp2
  have g0 := heap_setCell_same W3 (w.heap.size + 1) 0 _ 34 (.string ⟨#[]⟩) s1
  have g1 := heap_setCell_same _ (w.heap.size + 1) 1 _ 34 (.int .u64 0) g0
  refine bodyPost_ret (results_dot rfl _ _ (w.heap.size + 1) _ _ rfl g1) rfl ?_
  have b3 : Below w.heap.size w W3 := Below.step b2 b23
  exact ⟨rfl, (b3.setCell (by simp) _).setCell (by simp) _⟩

end Go.Proofs.Qxb6614579a

import Derived.Test.Qxb6612819aDoorFill2
namespace Go.Proofs.Qxb6612819aDoor
open Go.RowKit
set_option linter.unusedVariables false

/-- The reader over the bytes D, of which p have been taken out of the source; its buffer is empty (its two marks stand at r). -/
structure St (w : World) (g q dd bb N p r : Nat) (D : List Int) (B : List Value) : Prop where
  hg : ∃ lb lr, w.heap[g]? = some (.cells (brCells bb q r r .nilIface lb lr) 44 (0, 0))
  hq : ∃ pr, w.heap[q]? = some (.cells #[.slice (some ⟨dd, 0, none⟩) N N, .int .i64 p, pr] 47 (0, 0))
  hD : View .u8 w (some ⟨dd, 0, none⟩) D
  hDl : D.length = N
  hbb : w.heap[bb]? = some (.cells B.toArray 5 (0, 0))
  hBl : B.length = 10000
  hN : N ≤ 65537
  hr : r ≤ 10000
  n1 : q ≠ bb
  n2 : dd ≠ q
  n3 : dd ≠ bb
  n4 : g ≠ q
  n5 : g ≠ bb
  n6 : g ≠ dd

theorem fill_some (g q dd bb N p m r : Nat) (D : List Int) (B : List Value) (pr lb lr : Value) (w : World)
    (hg : w.heap[g]? = some (.cells (brCells bb q r r .nilIface lb lr) 44 (0, 0)))
    (hq : w.heap[q]? = some (.cells #[.slice (some ⟨dd, 0, none⟩) N N, .int .i64 p, pr] 47 (0, 0)))
    (hD : View .u8 w (some ⟨dd, 0, none⟩) D) (hDl : D.length = N) (hbb : w.heap[bb]? = some (.cells B.toArray 5 (0, 0))) (hBl : B.length = 10000)
    (hr1 : r ≤ 10000) (hp : p < N) (hN : N ≤ 65537) (n1 : q ≠ bb) (n2 : dd ≠ q) (n3 : dd ≠ bb) (n4 : g ≠ q) (n5 : g ≠ bb) (n6 : g ≠ dd) (hm : m = Nat.min (N - p) 10000) :
    Calls Tryd.prog 27 #[.pointer (some ⟨g, 0, none⟩)] w fun e w' => e = .returned (.tuple #[]) ∧
      w'.heap[g]? = some (.cells (brCells bb q 0 m .nilIface lb lr) 44 (0, 0)) ∧
      w'.heap[q]? = some (.cells #[.slice (some ⟨dd, 0, none⟩) N N, .int .i64 (p + m : Nat), .int .i64 (-1)] 47 (0, 0)) ∧
      w'.heap[bb]? = some (.cells (splice B 0 (((D.drop p).take m).map (Value.int .u8))).toArray 5 (0, 0)) ∧ Frame [g, q, bb] w w' := by
  rcases (by omega : r = 0 ∨ r = 10000 ∨ (1 ≤ r ∧ r < 10000)) with rfl | rfl | ⟨h1, h2⟩
  · exact fill_zero g q dd bb N p m D B pr lb lr w hg hq hD hDl hbb hBl hp hN n1 n2 n3 n4 n5 n6 hm
  · exact fill_top_some g q dd bb N p m D B pr lb lr w hg hq hD hDl hbb hBl hp hN n1 n2 n3 n4 n5 n6 hm
  · exact fill_mid_some g q dd bb N p m r D B pr lb lr w hg hq hD hDl hbb hBl h1 h2 hp hN n1 n2 n3 n4 n5 n6 hm

theorem fill_eof (g q dd bb N p r : Nat) (te : TypeId) (ev : Value) (pr lb lr : Value) (w : World)
    (hg : w.heap[g]? = some (.cells (brCells bb q r r .nilIface lb lr) 44 (0, 0)))
    (hq : w.heap[q]? = some (.cells #[.slice (some ⟨dd, 0, none⟩) N N, .int .i64 p, pr] 47 (0, 0)))
    (hr0 : 1 ≤ r) (hr1 : r ≤ 10000) (he : w.cell? ⟨1, 0, none⟩ = some (.iface te ev)) (hp : N ≤ p) (hN : p ≤ 65537) (n4 : g ≠ q) (n7 : g ≠ 1) :
    Calls Tryd.prog 27 #[.pointer (some ⟨g, 0, none⟩)] w fun e w' => e = .returned (.tuple #[]) ∧
      w'.heap[g]? = some (.cells (brCells bb q 0 0 (.iface te ev) lb lr) 44 (0, 0)) ∧ Frame [g] w w' := by
  rcases (by omega : r = 10000 ∨ (1 ≤ r ∧ r < 10000)) with rfl | ⟨h1, h2⟩
  · exact fill_top_eof g q dd bb N p te ev [] [] pr lb lr w hg hq he hp hN n4 n7
  · exact fill_mid_eof g q dd bb N p r te ev [] [] pr lb lr w hg hq h1 h2 he hp hN n4 n7

set_option maxHeartbeats 1000000 in
theorem buffered_any (g bb q : Nat) (r e : Nat) (err lb lr : Value) (w : World) (hg : w.heap[g]? = some (.cells (brCells bb q r e err lb lr) 44 (0, 0))) (hr : r ≤ e) (he : e ≤ 10000) :
    Calls Tryd.prog 26 #[.pointer (some ⟨g, 0, none⟩)] w fun x w' => x = .returned (.int .i64 ((e : Int) - (r : Int))) ∧ ∃ n, w' = w.drewN n := by
  have c2 := cell3 (j := 2) hg rfl
  have c3 := cell3 (j := 3) hg rfl
  simp only [brCells] at c2 c3
  go_enter Tryd.func26, Tryd.ntmps26
  go_wp2
  go_quiet (fail)
  go_wp2
  go_ret
  exact ⟨rfl, _, rfl⟩

set_option maxHeartbeats 1000000 in
theorem readErr_any (g bb q : Nat) (r e : Nat) (err lb lr : Value) (w : World) (hg : w.heap[g]? = some (.cells (brCells bb q r e err lb lr) 44 (0, 0))) :
    Calls Tryd.prog 25 #[.pointer (some ⟨g, 0, none⟩)] w fun x w' => x = .returned err ∧ w'.heap[g]? = some (.cells (brCells bb q r e .nilIface lb lr) 44 (0, 0)) ∧ Frame [g] w w' := by
  have c4 := cell3 (j := 4) hg rfl
  have f4 := free3 (j := 4) hg
  simp only [brCells] at c4
  go_enter Tryd.func25, Tryd.ntmps25
  go_wp2
  go_ret
  exact ⟨rfl, heap_setCell_same w g 4 _ 44 .nilIface hg, (Frame.refl _ _).setCell (by simp) _⟩

end Go.Proofs.Qxb6612819aDoor

import Derived.Test.Qxb6612819aDoorFill
namespace Go.Proofs.Qxb6612819aDoor
open Go.RowKit
set_option linter.unusedVariables false

set_option maxHeartbeats 2000000 in
set_option maxRecDepth 100000 in
theorem fill_mid_some (g q dd bb N p m r : Nat) (D : List Int) (B : List Value) (pr lb lr : Value) (w : World)
    (hg : w.heap[g]? = some (.cells (brCells bb q r r .nilIface lb lr) 44 (0, 0)))
    (hq : w.heap[q]? = some (.cells #[.slice (some ⟨dd, 0, none⟩) N N, .int .i64 p, pr] 47 (0, 0)))
    (hD : View .u8 w (some ⟨dd, 0, none⟩) D) (hDl : D.length = N) (hbb : w.heap[bb]? = some (.cells B.toArray 5 (0, 0))) (hBl : B.length = 10000)
    (hr0 : 1 ≤ r) (hr1 : r < 10000) (hp : p < N) (hN : N ≤ 65537) (n1 : q ≠ bb) (n2 : dd ≠ q) (n3 : dd ≠ bb) (n4 : g ≠ q) (n5 : g ≠ bb) (n6 : g ≠ dd) (hm : m = Nat.min (N - p) 10000) :
    Calls Tryd.prog 27 #[.pointer (some ⟨g, 0, none⟩)] w fun e w' => e = .returned (.tuple #[]) ∧
      w'.heap[g]? = some (.cells (brCells bb q 0 m .nilIface lb lr) 44 (0, 0)) ∧
      w'.heap[q]? = some (.cells #[.slice (some ⟨dd, 0, none⟩) N N, .int .i64 (p + m : Nat), .int .i64 (-1)] 47 (0, 0)) ∧
      w'.heap[bb]? = some (.cells (splice B 0 (((D.drop p).take m).map (Value.int .u8))).toArray 5 (0, 0)) ∧ Frame [g, q, bb] w w' := by
  have hne : ¬ 10000 = r := by omega
  have c0 := cell3 (j := 0) hg rfl
  have c2 := cell3 (j := 2) hg rfl
  have c3 := cell3 (j := 3) hg rfl
  have f2 := free3 (j := 2) hg
  have f3 := free3 (j := 3) hg
  simp only [brCells] at c0 c2 c3
  have hs1 : (r : Int) ≤ 10000 := by omega
  go_enter Tryd.func27, Tryd.ntmps27
  go_wp2
  go_region_held2 (fun W => W.cell? ⟨g, 0, none⟩ = some (.slice (some ⟨bb, 0, none⟩) 10000 10000) ∧ W.cell? ⟨g, 2, none⟩ = some (.int .i64 r) ∧ W.cell? ⟨g, 3, none⟩ = some (.int .i64 r)) (go_keep) (first | (refine step_copy_nothing rfl (.tmp 13) (.tmp 26) 22 22 rfl 5 Tryd.underlying22 Tryd.size5 _ _ _ _ _ _ rfl rfl (by simp) ?_))
  go_wp2
  go_region
  all_goals go_wp2
  obtain ⟨W1, hW1⟩ : ∃ W1, W1 = ((w.setCell ⟨g, 3, none⟩ (.int .i64 0)).setCell ⟨g, 2, none⟩ (.int .i64 0)).drew.drew := ⟨_, rfl⟩
  have hg1 : W1.heap[g]? = some (.cells (brCells bb q 0 0 .nilIface lb lr) 44 (0, 0)) := by
    rw [hW1]
    have h1 := heap_setCell_same w g 3 _ 44 (.int .i64 0) hg
    exact heap_setCell_same _ g 2 _ 44 (.int .i64 0) h1
  have hF1 : Frame [g] w W1 := by rw [hW1]; exact (((Frame.refl _ _).setCell (by simp) _).setCell (by simp) _).drew.drew
  have hq1 := hF1.obj hq (by simp; omega)
  rw [← hW1]
  clear hW1 c0 c2 c3 f2 f3
  have c0 := cell3 (j := 0) hg1 rfl
  have c1 := cell3 (j := 1) hg1 rfl
  have c2 := cell3 (j := 2) hg1 rfl
  have c3 := cell3 (j := 3) hg1 rfl
  have c4 := cell3 (j := 4) hg1 rfl
  have f3 := free3 (j := 3) hg1
  have f4 := free3 (j := 4) hg1
  simp only [brCells] at c0 c1 c2 c3 c4
  have hmr := method_read
  have hb1 := hF1.obj hbb (by simp; omega)
  have hD1 : View .u8 W1 (some ⟨dd, 0, none⟩) D := hD.frame hF1 (fun b off e => by simp at e; simp; omega)
  have hrd : ∀ k, _ := fun k => read_some q dd bb N p m D B pr (W1.drewN k) hq1 (hD1.drewN k) hDl hb1 hBl hp hN n1 n2 n3 hm
  have HR : Hid _ := hrd
  have hm2 : 1 ≤ m ∧ m ≤ 10000 := by rw [hm]; exact ⟨by rw [Nat.le_min]; omega, Nat.min_le_right _ _⟩
  clear hrd hm hg hq hD hbb
  go_quiet (fail)
  go_wp2
  refine wp_loop_rounds 1 ?_
  rw [rounds_succ]
  go_wp2
  go_region_held3 (fun W => W.cell? ⟨g, 0, none⟩ = some (.slice (some ⟨bb, 0, none⟩) 10000 10000) ∧ W.cell? ⟨g, 1, none⟩ = some (.iface 38 (.pointer (some ⟨q, 0, none⟩))) ∧ W.cell? ⟨g, 3, none⟩ = some (.int .i64 0)) (go_keep) (first | (go_at_call 52; refine (HR.out _).mono ?_; rintro e w2 ⟨rfl, hq2, hb2, hF2⟩; (have hgn : g ∉ [q, bb] := by simp; omega); (have d0 := hF2.cell c0 hgn); (have d1 := hF2.cell c1 hgn); (have d3 := hF2.cell c3 hgn); (have hg2 := hF2.obj hg1 hgn); (have f32 := free3 (j := 3) hg2)))
  go_wp2
  refine bodyPost_ret (results_none rfl _ _ _) rfl ?_
  refine ⟨rfl, ?_, ?_, ?_, ?_⟩
  · rw [heap_setCell_same w2 g 3 _ 44 _ hg2]; simp [brCells]
  · rw [heap_setCell_other w2 ⟨g, 3, none⟩ q _ (by show q ≠ g; omega)]; exact hq2
  · rw [heap_setCell_other w2 ⟨g, 3, none⟩ bb _ (by show bb ≠ g; omega)]; exact hb2
  · exact (((hF1.mono (by simp)).drewN _).trans (hF2.mono (by simp))).setCell (by simp) _

set_option maxHeartbeats 2000000 in
set_option maxRecDepth 100000 in
theorem fill_mid_eof (g q dd bb N p r : Nat) (te : TypeId) (ev : Value) (D : List Int) (B : List Value) (pr lb lr : Value) (w : World)
    (hg : w.heap[g]? = some (.cells (brCells bb q r r .nilIface lb lr) 44 (0, 0)))
    (hq : w.heap[q]? = some (.cells #[.slice (some ⟨dd, 0, none⟩) N N, .int .i64 p, pr] 47 (0, 0)))
    (hr0 : 1 ≤ r) (hr1 : r < 10000) (he : w.cell? ⟨1, 0, none⟩ = some (.iface te ev)) (hp : N ≤ p) (hN : p ≤ 65537) (n4 : g ≠ q) (n7 : g ≠ 1) :
    Calls Tryd.prog 27 #[.pointer (some ⟨g, 0, none⟩)] w fun e w' => e = .returned (.tuple #[]) ∧
      w'.heap[g]? = some (.cells (brCells bb q 0 0 (.iface te ev) lb lr) 44 (0, 0)) ∧ Frame [g] w w' := by
  have hne : ¬ 10000 = r := by omega
  have c0 := cell3 (j := 0) hg rfl
  have c2 := cell3 (j := 2) hg rfl
  have c3 := cell3 (j := 3) hg rfl
  have f2 := free3 (j := 2) hg
  have f3 := free3 (j := 3) hg
  simp only [brCells] at c0 c2 c3
  have hs1 : (r : Int) ≤ 10000 := by omega
  go_enter Tryd.func27, Tryd.ntmps27
  go_wp2
  go_region_held2 (fun W => W.cell? ⟨g, 0, none⟩ = some (.slice (some ⟨bb, 0, none⟩) 10000 10000) ∧ W.cell? ⟨g, 2, none⟩ = some (.int .i64 r) ∧ W.cell? ⟨g, 3, none⟩ = some (.int .i64 r)) (go_keep) (first | (refine step_copy_nothing rfl (.tmp 13) (.tmp 26) 22 22 rfl 5 Tryd.underlying22 Tryd.size5 _ _ _ _ _ _ rfl rfl (by simp) ?_))
  go_wp2
  go_region
  all_goals go_wp2
  obtain ⟨W1, hW1⟩ : ∃ W1, W1 = ((w.setCell ⟨g, 3, none⟩ (.int .i64 0)).setCell ⟨g, 2, none⟩ (.int .i64 0)).drew.drew := ⟨_, rfl⟩
  have hg1 : W1.heap[g]? = some (.cells (brCells bb q 0 0 .nilIface lb lr) 44 (0, 0)) := by
    rw [hW1]
    have h1 := heap_setCell_same w g 3 _ 44 (.int .i64 0) hg
    exact heap_setCell_same _ g 2 _ 44 (.int .i64 0) h1
  have hF1 : Frame [g] w W1 := by rw [hW1]; exact (((Frame.refl _ _).setCell (by simp) _).setCell (by simp) _).drew.drew
  have hq1 := hF1.obj hq (by simp; omega)
  rw [← hW1]
  clear hW1 c0 c2 c3 f2 f3
  have c0 := cell3 (j := 0) hg1 rfl
  have c1 := cell3 (j := 1) hg1 rfl
  have c2 := cell3 (j := 2) hg1 rfl
  have c3 := cell3 (j := 3) hg1 rfl
  have c4 := cell3 (j := 4) hg1 rfl
  have f3 := free3 (j := 3) hg1
  have f4 := free3 (j := 4) hg1
  simp only [brCells] at c0 c1 c2 c3 c4
  have hmr := method_read
  have he1 := hF1.cell he (by simp; omega)
  have hrd : ∀ k s, _ := fun k s => read_none q dd N p s pr (.iface te ev) (W1.drewN k) hq1 he1 hp hN
  have HR : Hid _ := hrd
  clear hrd hg hq he
  go_quiet (fail)
  go_wp2
  refine wp_loop_rounds 1 ?_
  rw [rounds_succ]
  go_wp2
  go_region_held3 (fun W => W.cell? ⟨g, 0, none⟩ = some (.slice (some ⟨bb, 0, none⟩) 10000 10000) ∧ W.cell? ⟨g, 1, none⟩ = some (.iface 38 (.pointer (some ⟨q, 0, none⟩))) ∧ W.cell? ⟨g, 3, none⟩ = some (.int .i64 0)) (go_keep) (first | (go_at_call 52; refine (HR.out _ _).mono ?_; rintro e w2 ⟨rfl, k2, rfl⟩))
  go_wp2
  refine bodyPost_ret (results_none rfl _ _ _) rfl ?_
  refine ⟨rfl, ?_, ?_⟩
  · have h1 := heap_setCell_same (W1.drewN (nq + 1 + k2)) g 3 _ 44 (.int .i64 0) hg1
    exact heap_setCell_same _ g 4 _ 44 (.iface te ev) h1
  · exact ((hF1.drewN _).setCell (by simp) _).setCell (by simp) _

set_option maxHeartbeats 2000000 in
set_option maxRecDepth 100000 in
theorem fill_top_some (g q dd bb N p m : Nat) (D : List Int) (B : List Value) (pr lb lr : Value) (w : World)
    (hg : w.heap[g]? = some (.cells (brCells bb q 10000 10000 .nilIface lb lr) 44 (0, 0)))
    (hq : w.heap[q]? = some (.cells #[.slice (some ⟨dd, 0, none⟩) N N, .int .i64 p, pr] 47 (0, 0)))
    (hD : View .u8 w (some ⟨dd, 0, none⟩) D) (hDl : D.length = N) (hbb : w.heap[bb]? = some (.cells B.toArray 5 (0, 0))) (hBl : B.length = 10000)
    (hp : p < N) (hN : N ≤ 65537) (n1 : q ≠ bb) (n2 : dd ≠ q) (n3 : dd ≠ bb) (n4 : g ≠ q) (n5 : g ≠ bb) (n6 : g ≠ dd) (hm : m = Nat.min (N - p) 10000) :
    Calls Tryd.prog 27 #[.pointer (some ⟨g, 0, none⟩)] w fun e w' => e = .returned (.tuple #[]) ∧
      w'.heap[g]? = some (.cells (brCells bb q 0 m .nilIface lb lr) 44 (0, 0)) ∧
      w'.heap[q]? = some (.cells #[.slice (some ⟨dd, 0, none⟩) N N, .int .i64 (p + m : Nat), .int .i64 (-1)] 47 (0, 0)) ∧
      w'.heap[bb]? = some (.cells (splice B 0 (((D.drop p).take m).map (Value.int .u8))).toArray 5 (0, 0)) ∧ Frame [g, q, bb] w w' := by
  have c0 := cell3 (j := 0) hg rfl
  have c2 := cell3 (j := 2) hg rfl
  have c3 := cell3 (j := 3) hg rfl
  have f2 := free3 (j := 2) hg
  have f3 := free3 (j := 3) hg
  simp only [brCells] at c0 c2 c3
  go_enter Tryd.func27, Tryd.ntmps27
  go_wp2
  go_region_held2 (fun W => W.cell? ⟨g, 0, none⟩ = some (.slice (some ⟨bb, 0, none⟩) 10000 10000) ∧ W.cell? ⟨g, 2, none⟩ = some (.int .i64 10000) ∧ W.cell? ⟨g, 3, none⟩ = some (.int .i64 10000)) (go_keep) (first | (refine step_copy_nothing rfl (.tmp 13) (.tmp 26) 22 22 rfl 5 Tryd.underlying22 Tryd.size5 _ _ _ _ _ _ rfl rfl (by simp) ?_))
  go_wp2
  go_region
  all_goals go_wp2
  obtain ⟨W1, hW1⟩ : ∃ W1, W1 = ((w.setCell ⟨g, 3, none⟩ (.int .i64 0)).setCell ⟨g, 2, none⟩ (.int .i64 0)).drew.drew := ⟨_, rfl⟩
  have hg1 : W1.heap[g]? = some (.cells (brCells bb q 0 0 .nilIface lb lr) 44 (0, 0)) := by
    rw [hW1]
    have h1 := heap_setCell_same w g 3 _ 44 (.int .i64 0) hg
    exact heap_setCell_same _ g 2 _ 44 (.int .i64 0) h1
  have hF1 : Frame [g] w W1 := by rw [hW1]; exact (((Frame.refl _ _).setCell (by simp) _).setCell (by simp) _).drew.drew
  have hq1 := hF1.obj hq (by simp; omega)
  rw [← hW1]
  clear hW1 c0 c2 c3 f2 f3
  have c0 := cell3 (j := 0) hg1 rfl
  have c1 := cell3 (j := 1) hg1 rfl
  have c2 := cell3 (j := 2) hg1 rfl
  have c3 := cell3 (j := 3) hg1 rfl
  have c4 := cell3 (j := 4) hg1 rfl
  have f3 := free3 (j := 3) hg1
  have f4 := free3 (j := 4) hg1
  simp only [brCells] at c0 c1 c2 c3 c4
  have hmr := method_read
  have hb1 := hF1.obj hbb (by simp; omega)
  have hD1 : View .u8 W1 (some ⟨dd, 0, none⟩) D := hD.frame hF1 (fun b off e => by simp at e; simp; omega)
  have hrd : ∀ k, _ := fun k => read_some q dd bb N p m D B pr (W1.drewN k) hq1 (hD1.drewN k) hDl hb1 hBl hp hN n1 n2 n3 hm
  have HR : Hid _ := hrd
  have hm2 : 1 ≤ m ∧ m ≤ 10000 := by rw [hm]; exact ⟨by rw [Nat.le_min]; omega, Nat.min_le_right _ _⟩
  clear hrd hm hg hq hD hbb
  go_quiet (fail)
  go_wp2
  refine wp_loop_rounds 1 ?_
  rw [rounds_succ]
  go_wp2
  go_region_held3 (fun W => W.cell? ⟨g, 0, none⟩ = some (.slice (some ⟨bb, 0, none⟩) 10000 10000) ∧ W.cell? ⟨g, 1, none⟩ = some (.iface 38 (.pointer (some ⟨q, 0, none⟩))) ∧ W.cell? ⟨g, 3, none⟩ = some (.int .i64 0)) (go_keep) (first | (go_at_call 52; refine (HR.out _).mono ?_; rintro e w2 ⟨rfl, hq2, hb2, hF2⟩; (have hgn : g ∉ [q, bb] := by simp; omega); (have d0 := hF2.cell c0 hgn); (have d1 := hF2.cell c1 hgn); (have d3 := hF2.cell c3 hgn); (have hg2 := hF2.obj hg1 hgn); (have f32 := free3 (j := 3) hg2)))
  go_wp2
  refine bodyPost_ret (results_none rfl _ _ _) rfl ?_
  refine ⟨rfl, ?_, ?_, ?_, ?_⟩
  · rw [heap_setCell_same w2 g 3 _ 44 _ hg2]; simp [brCells]
  · rw [heap_setCell_other w2 ⟨g, 3, none⟩ q _ (by show q ≠ g; omega)]; exact hq2
  · rw [heap_setCell_other w2 ⟨g, 3, none⟩ bb _ (by show bb ≠ g; omega)]; exact hb2
  · exact (((hF1.mono (by simp)).drewN _).trans (hF2.mono (by simp))).setCell (by simp) _

set_option maxHeartbeats 2000000 in
set_option maxRecDepth 100000 in
theorem fill_top_eof (g q dd bb N p : Nat) (te : TypeId) (ev : Value) (D : List Int) (B : List Value) (pr lb lr : Value) (w : World)
    (hg : w.heap[g]? = some (.cells (brCells bb q 10000 10000 .nilIface lb lr) 44 (0, 0)))
    (hq : w.heap[q]? = some (.cells #[.slice (some ⟨dd, 0, none⟩) N N, .int .i64 p, pr] 47 (0, 0)))
    (he : w.cell? ⟨1, 0, none⟩ = some (.iface te ev)) (hp : N ≤ p) (hN : p ≤ 65537) (n4 : g ≠ q) (n7 : g ≠ 1) :
    Calls Tryd.prog 27 #[.pointer (some ⟨g, 0, none⟩)] w fun e w' => e = .returned (.tuple #[]) ∧
      w'.heap[g]? = some (.cells (brCells bb q 0 0 (.iface te ev) lb lr) 44 (0, 0)) ∧ Frame [g] w w' := by
  have c0 := cell3 (j := 0) hg rfl
  have c2 := cell3 (j := 2) hg rfl
  have c3 := cell3 (j := 3) hg rfl
  have f2 := free3 (j := 2) hg
  have f3 := free3 (j := 3) hg
  simp only [brCells] at c0 c2 c3
  go_enter Tryd.func27, Tryd.ntmps27
  go_wp2
  go_region_held2 (fun W => W.cell? ⟨g, 0, none⟩ = some (.slice (some ⟨bb, 0, none⟩) 10000 10000) ∧ W.cell? ⟨g, 2, none⟩ = some (.int .i64 10000) ∧ W.cell? ⟨g, 3, none⟩ = some (.int .i64 10000)) (go_keep) (first | (refine step_copy_nothing rfl (.tmp 13) (.tmp 26) 22 22 rfl 5 Tryd.underlying22 Tryd.size5 _ _ _ _ _ _ rfl rfl (by simp) ?_))
  go_wp2
  go_region
  all_goals go_wp2
  obtain ⟨W1, hW1⟩ : ∃ W1, W1 = ((w.setCell ⟨g, 3, none⟩ (.int .i64 0)).setCell ⟨g, 2, none⟩ (.int .i64 0)).drew.drew := ⟨_, rfl⟩
  have hg1 : W1.heap[g]? = some (.cells (brCells bb q 0 0 .nilIface lb lr) 44 (0, 0)) := by
    rw [hW1]
    have h1 := heap_setCell_same w g 3 _ 44 (.int .i64 0) hg
    exact heap_setCell_same _ g 2 _ 44 (.int .i64 0) h1
  have hF1 : Frame [g] w W1 := by rw [hW1]; exact (((Frame.refl _ _).setCell (by simp) _).setCell (by simp) _).drew.drew
  have hq1 := hF1.obj hq (by simp; omega)
  rw [← hW1]
  clear hW1 c0 c2 c3 f2 f3
  have c0 := cell3 (j := 0) hg1 rfl
  have c1 := cell3 (j := 1) hg1 rfl
  have c2 := cell3 (j := 2) hg1 rfl
  have c3 := cell3 (j := 3) hg1 rfl
  have c4 := cell3 (j := 4) hg1 rfl
  have f3 := free3 (j := 3) hg1
  have f4 := free3 (j := 4) hg1
  simp only [brCells] at c0 c1 c2 c3 c4
  have hmr := method_read
  have he1 := hF1.cell he (by simp; omega)
  have hrd : ∀ k s, _ := fun k s => read_none q dd N p s pr (.iface te ev) (W1.drewN k) hq1 he1 hp hN
  have HR : Hid _ := hrd
  clear hrd hg hq he
  go_quiet (fail)
  go_wp2
  refine wp_loop_rounds 1 ?_
  rw [rounds_succ]
  go_wp2
  go_region_held3 (fun W => W.cell? ⟨g, 0, none⟩ = some (.slice (some ⟨bb, 0, none⟩) 10000 10000) ∧ W.cell? ⟨g, 1, none⟩ = some (.iface 38 (.pointer (some ⟨q, 0, none⟩))) ∧ W.cell? ⟨g, 3, none⟩ = some (.int .i64 0)) (go_keep) (first | (go_at_call 52; refine (HR.out _ _).mono ?_; rintro e w2 ⟨rfl, k2, rfl⟩))
  go_wp2
  refine bodyPost_ret (results_none rfl _ _ _) rfl ?_
  refine ⟨rfl, ?_, ?_⟩
  · have h1 := heap_setCell_same (W1.drewN (nq + 1 + k2)) g 3 _ 44 (.int .i64 0) hg1
    exact heap_setCell_same _ g 4 _ 44 (.iface te ev) h1
  · exact ((hF1.drewN _).setCell (by simp) _).setCell (by simp) _

end Go.Proofs.Qxb6612819aDoor

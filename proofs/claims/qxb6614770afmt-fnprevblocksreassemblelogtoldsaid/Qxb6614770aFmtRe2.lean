import Derived.Test.Qxb6614770aFmtRe
namespace Go.Proofs.Qxb6614770aFmt
open Go.RowKit
set_option linter.unusedVariables false

set_option maxHeartbeats 1000000 in
set_option maxRecDepth 100000 in
theorem earlier_place (g q dd bb N s p n k c : Nat) (D : List Int) (B : List Value) (w : World)
    (hg : w.heap[g]? = some (.cells (rvCells q (.slice (some ⟨bb, 0, none⟩) k c) (s : Nat)) 38 (0, 0)))
    (hq : w.heap[q]? = some (.cells #[.slice (some ⟨dd, 0, none⟩) N N, .int .i64 0, .int .i64 (-1)] 41 (0, 0)))
    (hD : View .u8 w (some ⟨dd, 0, none⟩) D) (hDl : D.length = N) (hN : N ≤ 1048576) (hs : s = p + n) (hs1 : 1 ≤ n) (he : s + k ≤ N) (hn : n = Nat.min 65536 s) (hc : n + k ≤ c) (hc1 : n < c)
    (hbb : w.heap[bb]? = some (.cells B.toArray 5 (0, 0))) (hBl : B.length = c) (hv : View .u8 w (some ⟨bb, 0, none⟩) ((D.drop s).take k)) (n1 : g ≠ q) (n2 : dd ≠ g) (n3 : bb ≠ g) (n4 : bb ≠ q) (n5 : dd ≠ bb) :
    Calls Tryf.prog 14 #[.pointer (some ⟨g, 0, none⟩)] w fun x w' => x = .returned .nilIface ∧ ∃ B : List Value,
      w'.heap[g]? = some (.cells (rvCells q (.slice (some ⟨bb, 0, none⟩) (n + k) c) (p : Nat)) 38 (0, 0)) ∧
      B.length = c ∧ w'.heap[bb]? = some (.cells B.toArray 5 (0, 0)) ∧ View .u8 w' (some ⟨bb, 0, none⟩) ((D.drop p).take (n + k)) ∧ Frame [g, bb] w w' := by
  have c0 := cell3 (j := 0) hg rfl
  have c1 := cell3 (j := 1) hg rfl
  have c2 := cell3 (j := 2) hg rfl
  have f1 := free3 (j := 1) hg
  have f2 := free3 (j := 2) hg
  simp only [rvCells] at c0 c1 c2
  have hn1 : n ≤ 65536 := by rw [hn]; exact Nat.min_le_left _ _
  have hmn : (if (s : Int) < 65536 then (s : Int) else 65536) = (n : Int) := by
    have := hn
    rw [show Nat.min 65536 s = min 65536 s from rfl] at this
    split <;> omega
  have hsub : (s : Int) - (n : Int) = (p : Int) := by omega
  have hsb : s ≤ 1048576 := by omega
  have hkb : k ≤ 1048576 := by omega
  have HN : Hid _ := hn
  have HS : Hid _ := hs
  clear hn hs
  have hcI : (n : Int) + (k : Int) ≤ (c : Int) := by omega
  have hcN : ¬ ((c : Int) < (n : Int) + (k : Int)) := by omega
  have hne : ¬ c = n := by omega
  have hs2 : (n : Int) ≤ (n : Int) + (k : Int) := by omega
  have hs4 : (k : Int) ≤ (c : Int) := by omega
  have HBL : Hid _ := hBl
  clear hBl
  go_enter Tryf.func14, Tryf.ntmps14
  go_wp2_with fail
  obtain ⟨W1, hW1⟩ : ∃ W, W = w.setCell ⟨g, 1, none⟩ (.slice (some ⟨bb, 0, none⟩) (n + k) c) := ⟨_, rfl⟩
  have hg1 : W1.heap[g]? = some (.cells (rvCells q (.slice (some ⟨bb, 0, none⟩) (n + k) c) (s : Nat)) 38 (0, 0)) := by
    rw [hW1]; exact heap_setCell_same w g 1 _ 38 (.slice (some ⟨bb, 0, none⟩) (n + k) c) hg
  have hF1 : Frame [g] w W1 := by rw [hW1]; exact (Frame.refl _ _).setCell (by simp) _
  have hb1 := hF1.obj hbb (by simp; omega)
  have hq1 := hF1.obj hq (by simp; omega)
  have hD1 := hD.frame hF1 (fun b off e => by simp at e; simp; omega)
  have hv1 := hv.frame hF1 (fun b off e => by simp at e; simp; omega)
  rw [← hW1]
  clear hW1 c0 c1 c2 f1 f2 hg hq hD hv
  have c0 := cell3 (j := 0) hg1 rfl
  have c1 := cell3 (j := 1) hg1 rfl
  have c2 := cell3 (j := 2) hg1 rfl
  simp only [rvCells] at c0 c1 c2
  obtain ⟨cs, hcs⟩ : ∃ cs, cs = ((D.drop s).take k).map (Value.int .u8) := ⟨_, rfl⟩
  have hcl : cs.length = k := by rw [hcs]; simp; omega
  have hsrc : ∀ W, View .u8 W (some ⟨bb, 0, none⟩) ((D.drop s).take k) → ∀ j v, cs[j]? = some v → W.cell? ((⟨bb, 0, none⟩ : Addr).add j) = some v := fun W hW => by
    rw [hcs]
    exact hW.news _ rfl
  have hone : ∀ v ∈ cs, v.oneCell' = true := by rw [hcs]; exact ints_oneCell _ _
  have HCS : Hid _ := hcs
  have HCL : Hid _ := hcl
  have HDL : Hid _ := hDl
  clear hcs hcl hDl
  go_region_law (refine step_copy_row rfl (.tmp 63) (.tmp 69) 22 22 rfl 5 Tryf.underlying22 Tryf.size5 (some ⟨bb, n, none⟩) (some ⟨bb, 0, none⟩) k (c - n) k c (by kernel_rfl) (by kernel_rfl) bb n B 5 ?_ cs ?_ ?_ ?_ ?_ ?_; (exact hb1); (rw [HCL.out]; exact (Nat.min_self k).symm); (exact fun h0 => ⟨rfl, _, rfl, hsrc _ (hv1.drewN _)⟩); (rw [HCL.out, HBL.out]; omega); (exact hone); (rw [HCL.out]); intro w2 hb2 hF2)
  all_goals
    have hF12 : Frame [bb] W1 w2 := ((Frame.refl _ W1).drew).trans hF2
    have hg2 := hF12.obj hg1 (by simp; omega)
    have hq2 := hF12.obj hq1 (by simp; omega)
    have hD2 := hD1.frame hF12 (fun b off e => by simp at e; simp; omega)
    clear c0 c1 c2 hg1 hq1 hD1 hv1 hb1
    have c0 := cell3 (j := 0) hg2 rfl
    have c1 := cell3 (j := 1) hg2 rfl
    have c2 := cell3 (j := 2) hg2 rfl
    have f1 := free3 (j := 1) hg2
    have f2 := free3 (j := 2) hg2
    simp only [rvCells] at c0 c1 c2
    go_wp2
    obtain ⟨W4, hW4⟩ : ∃ W, W = w2.setCell ⟨g, 2, none⟩ (.int .i64 p) := ⟨_, rfl⟩
    have hg4 : W4.heap[g]? = some (.cells (rvCells q (.slice (some ⟨bb, 0, none⟩) (n + k) c) (p : Nat)) 38 (0, 0)) := by
      rw [hW4]; exact heap_setCell_same _ g 2 _ 38 (.int .i64 p) hg2
    have hF24 : Frame [g] w2 W4 := by rw [hW4]; exact (Frame.refl _ _).setCell (by simp) _
    have hq4 := hF24.obj hq2 (by simp; omega)
    have hb4 := hF24.obj hb2.out (by simp; omega)
    have hD4 := hD2.frame hF24 (fun b off e => by simp at e; simp; omega)
    rw [← hW4]
    clear hW4 c0 c1 c2 f1 f2 hq2 hD2 hb2
    have c0 := cell3 (j := 0) hg4 rfl
    have c1 := cell3 (j := 1) hg4 rfl
    have c2 := cell3 (j := 2) hg4 rfl
    simp only [rvCells] at c0 c1 c2
    have hmr := method_readAt
    have hs3 : (n : Int) ≤ (c : Int) := by omega
    obtain ⟨B4, hB4⟩ : ∃ B4, B4 = splice B n cs := ⟨_, rfl⟩
    rw [← hB4] at hb4
    have hB4l : B4.length = c := by rw [hB4, length_splice _ _ _ (by rw [HCL.out, HBL.out]; omega)]; exact HBL.out
    have hrd : ∀ j, _ := fun j => readAt_some q dd bb N p n c D B4 (W4.drewN j) hq4 (hD4.drewN j) HDL.out hb4 hB4l (by omega) (by have := HS.out; omega) hN (by omega) (by omega) (by omega)
    have HR : Hid _ := hrd
    have HB4 : Hid _ := hB4
    have HB4L : Hid _ := hB4l
    clear hrd hB4 hB4l
    go_region_held3 (fun W => W.cell? ⟨g, 0, none⟩ = some (.iface 33 (.pointer (some ⟨q, 0, none⟩))) ∧ W.cell? ⟨g, 1, none⟩ = some (.slice (some ⟨bb, 0, none⟩) (n + k) c) ∧ W.cell? ⟨g, 2, none⟩ = some (.int .i64 p)) (go_keep) (first | (go_at_call 36; refine (HR.out _).mono ?_; rintro e w5 ⟨rfl, hb5, hF5⟩; (have hgn : g ∉ [bb] := by simp; omega); (have d0 := hF5.cell c0 hgn); (have d1 := hF5.cell c1 hgn); (have d2 := hF5.cell c2 hgn)))
    go_wp2
    go_ret
    have hgn : g ∉ [bb] := by simp; omega
    rw [HB4.out, HCS.out] at hb5
    have hF45 : Frame [bb] W4 w5 := Frame.trans ((Frame.refl _ _).drewN 1) hF5
    refine ⟨rfl, _, hF45.obj hg4 hgn, ?_, hb5, View.of_row hb5 (fun j hj => ?_), ?_⟩
    · rw [← HCS.out, ← HB4.out, length_splice _ _ _ ?_]
      · exact HB4L.out
      · have := HB4L.out
        have := HDL.out
        have := HS.out
        simp; omega
    · have h1 := HBL.out
      have h2 := HDL.out
      simp at hj
      simpa using two_pieces B D s p n k HS.out (by omega) (by omega) j (by omega)
    · exact (((hF1.mono (by simp)).trans (hF12.mono (by simp))).trans (hF24.mono (by simp))).trans (hF45.mono (by simp))

end Go.Proofs.Qxb6614770aFmt

import Derived.Test.Qxb6614770aFmtSm
namespace Go.Proofs.Qxb6614770aFmt
open Go.RowKit
set_option linter.unusedVariables false

theorem method_readAt (a : Addr) (w : World) : (method 176 33 (.pointer (some a)) "ReadAt").run Tryf.prog w = .ok (36, .pointer (some a)) w := by kernel_rfl

/-- The cells of a blockReverser. -/
def rvCells (q : Nat) (bv : Value) (s : Int) : Array Value := #[.iface 33 (.pointer (some ⟨q, 0, none⟩)), bv, .int .i64 s]

/-- 'make([]byte, n, c)'. -/
theorem make_cap (n c : Nat) (hn : n ≤ c) (hc : c ≤ 2097152) : ∃ B : List Value, B.length = c ∧
    ∀ (w : World), (Instr.makeSlice 22 (.int .i64 n) (.int .i64 c)).run Tryf.prog w = .ok (.slice (some ⟨w.heap.size, 0, none⟩) n c) (w.alloc (.cells B.toArray 5 (0, 0))) := by
  obtain ⟨i0, hi, hz0, hz1, hz2⟩ := info_parts Tryf.info5
  refine ⟨(madeCells #[.int .u8 0] c).toList, by rw [Array.length_toList, size_madeCells], fun w => ?_⟩
  have := run_makeSlice (P := Tryf.prog) w 22 5 i0 (.int .u8 0) Tryf.underlying22 hi hz0 .i64 .i64 n c (by omega) (by omega) (by rw [hz1]; omega) (by rw [hz2]; omega) (by omega)
  simpa [hz1, Value.cells] using this

/-- A block that was not there does not count. -/
theorem Frame.drop {S T : List Nat} {w w' : World} (h : Frame S w w') (hS : ∀ k ∈ S, k ∈ T ∨ w.heap.size ≤ k) : Frame T w w' :=
  ⟨h.os, h.tape, h.output, h.size, fun k hk hn => h.block k hk (fun hm => by rcases hS k hm with h1 | h1; exact hn h1; omega)⟩

/-- What is behind the copy and the reading: one piece of D. -/
theorem two_pieces (B : List Value) (D : List Int) (s p n k : Nat) (hs : s = p + n) (hB : n + k ≤ B.length) (hD : s + k ≤ D.length) (j : Nat) (hj : j < n + k) :
    (splice (splice B n (((D.drop s).take k).map (Value.int .u8))) 0 (((D.drop p).take n).map (Value.int .u8)))[j]? = some (.int .u8 (((D.drop p).take (n + k)).getD j 0)) := by
  subst hs
  have e : ((D.drop p).take (n + k)).getD j 0 = D.getD (p + j) 0 := by simp [List.getD, hj]
  rw [e]
  have l1 : (((D.drop p).take n).map (Value.int .u8)).length = n := by simp; omega
  have l2 : (((D.drop (p + n)).take k).map (Value.int .u8)).length = k := by simp; omega
  by_cases hjn : j < n
  · rw [splice, List.take_zero, List.nil_append, List.getElem?_append_left (by omega)]
    simp [hjn, List.getD, show p + j < D.length from by omega]
  · rw [splice, List.take_zero, List.nil_append, List.getElem?_append_right (by omega), l1, Nat.zero_add, List.getElem?_drop, show n + (j - n) = j from by omega, splice, List.getElem?_append_right (by simp; omega)]
    rw [show (B.take n).length = n from by simp; omega, List.getElem?_append_left (by omega)]
    simp [List.getD, show j - n < k from by omega, show p + n + (j - n) = p + j from by omega, show p + j < D.length from by omega]

set_option maxHeartbeats 1000000 in
set_option maxRecDepth 100000 in
theorem earlier_grow (g q dd N s p n k c C : Nat) (ba : Option Addr) (D : List Int) (w : World)
    (hg : w.heap[g]? = some (.cells (rvCells q (.slice ba k c) (s : Nat)) 38 (0, 0)))
    (hq : w.heap[q]? = some (.cells #[.slice (some ⟨dd, 0, none⟩) N N, .int .i64 0, .int .i64 (-1)] 41 (0, 0)))
    (hD : View .u8 w (some ⟨dd, 0, none⟩) D) (hDl : D.length = N) (hN : N ≤ 1048576) (hs : s = p + n) (hs1 : 1 ≤ n) (he : s + k ≤ N) (hn : n = Nat.min 65536 s) (hc : c < n + k)
    (hv : View .u8 w ba ((D.drop s).take k)) (n1 : g ≠ q) (n2 : dd ≠ g) (hC : C = n + k + 65536) :
    Calls Tryf.prog 14 #[.pointer (some ⟨g, 0, none⟩)] w fun x w' => x = .returned .nilIface ∧ ∃ B : List Value,
      w'.heap[g]? = some (.cells (rvCells q (.slice (some ⟨w.heap.size, 0, none⟩) (n + k) C) (p : Nat)) 38 (0, 0)) ∧
      B.length = C ∧ w'.heap[w.heap.size]? = some (.cells B.toArray 5 (0, 0)) ∧ View .u8 w' (some ⟨w.heap.size, 0, none⟩) ((D.drop p).take (n + k)) ∧ Frame [g] w w' := by
  have c0 := cell3 (j := 0) hg rfl
  have c1 := cell3 (j := 1) hg rfl
  have c2 := cell3 (j := 2) hg rfl
  have f1 := free3 (j := 1) hg
  have f2 := free3 (j := 2) hg
  simp only [rvCells] at c0 c1 c2
  have hn1 : n ≤ 65536 := by rw [hn]; exact Nat.min_le_left _ _
  have hmn : (if (s : Int) < 65536 then (s : Int) else 65536) = (n : Int) := by
    have := hn
    rw [show Nat.min 65536 s = min 65536 s from rfl] at this
    split <;> omega
  have hsub : (s : Int) - (n : Int) = (p : Int) := by omega
  have hsb : s ≤ 1048576 := by omega
  have hkb : k ≤ 1048576 := by omega
  have HN : Hid _ := hn
  have HS : Hid _ := hs
  clear hn hs
  obtain ⟨B, hBl, hmk0⟩ := make_cap (n + k) C (by omega) (by omega)
  have hmk : (Instr.makeSlice 22 (.int .i64 ((n : Int) + (k : Int))) (.int .i64 ((n : Int) + (k : Int) + 65536))).run Tryf.prog w = .ok (.slice (some ⟨w.heap.size, 0, none⟩) (n + k) C) (w.alloc (.cells B.toArray 5 (0, 0))) := by
    have := hmk0 w
    rwa [show ((n + k : Nat) : Int) = (n : Int) + (k : Int) from by omega, show (C : Int) = (n : Int) + (k : Int) + 65536 from by omega] at this
  have hcI : (c : Int) < (n : Int) + (k : Int) := by omega
  have hnC : n + k ≤ C := by omega
  have hnC2 : (n : Int) + (k : Int) ≤ (C : Int) := by omega
  have hne : ¬ C = n := by omega
  have HC : Hid _ := hC
  clear hC
  have HBL : Hid _ := hBl
  clear hmk0 hBl
  go_enter Tryf.func14, Tryf.ntmps14
  go_wp2_with fail
  have hs2 : (n : Int) ≤ (n : Int) + (k : Int) := by omega
  have hzg : g < w.heap.size := (Array.getElem?_eq_some_iff.1 hg).1
  have hzq : q < w.heap.size := (Array.getElem?_eq_some_iff.1 hq).1
  have hzd : dd < w.heap.size := by
    obtain ⟨b9, o9, e9, cL⟩ := hD 0 (by omega)
    simp at e9
    obtain ⟨rfl, rfl⟩ := e9
    exact block_lt_of_cell cL
  obtain ⟨W1, hW1⟩ : ∃ W, W = w.alloc (.cells B.toArray 5 (0, 0)) := ⟨_, rfl⟩
  have b1 : Below w.heap.size w W1 := by rw [hW1]; exact (Below.refl _ _).alloc (Nat.le_refl _) _
  have hF1 : Frame [] w W1 := Frame.of_below b1
  have hb1 : W1.heap[w.heap.size]? = some (.cells B.toArray 5 (0, 0)) := by rw [hW1]; exact heap_alloc_new w _
  rw [← hW1]
  have hg1 := hF1.obj hg (by simp)
  have hq1 := hF1.obj hq (by simp)
  have hD1 := hD.frame hF1 (by simp)
  have hv1 := hv.frame hF1 (by simp)
  clear hW1 hmk c0 c1 c2 f1 f2 hg hq hD hv
  have c0 := cell3 (j := 0) hg1 rfl
  have c1 := cell3 (j := 1) hg1 rfl
  have c2 := cell3 (j := 2) hg1 rfl
  simp only [rvCells] at c0 c1 c2
  obtain ⟨cs, hcs⟩ : ∃ cs, cs = ((D.drop s).take k).map (Value.int .u8) := ⟨_, rfl⟩
  have hcl : cs.length = k := by rw [hcs]; simp; omega
  have hsrc : ∀ W, View .u8 W ba ((D.drop s).take k) → 0 < cs.length → ∃ ad, ba = some ad ∧ ∀ j v, cs[j]? = some v → W.cell? (ad.add j) = some v := fun W hW h0 => by
    obtain ⟨b9, o9, e9, _⟩ := hW 0 (by simp; omega)
    refine ⟨_, e9, ?_⟩
    rw [hcs]
    exact hW.news _ e9
  have hone : ∀ v ∈ cs, v.oneCell' = true := by rw [hcs]; exact ints_oneCell _ _
  have HCS : Hid _ := hcs
  have HCL : Hid _ := hcl
  have HDL : Hid _ := hDl
  clear hcs hcl hDl
  go_region_law (refine step_copy_row rfl (.tmp 37) (.tmp 41) 22 22 rfl 5 Tryf.underlying22 Tryf.size5 (some ⟨w.heap.size, n, none⟩) ba k (C - n) k c (by kernel_rfl) (by kernel_rfl) w.heap.size n B 5 ?_ cs ?_ ?_ ?_ ?_ ?_; (exact hb1); (rw [HCL.out]; exact (Nat.min_self k).symm); (exact fun h0 => ⟨rfl, hsrc _ (hv1.drewN _) h0⟩); (rw [HCL.out, HBL.out]; omega); (exact hone); (rw [HCL.out]); intro w2 hb2 hF2)
  have hF12 : Frame [w.heap.size] W1 w2 := ((Frame.refl _ W1).drew).trans hF2
  have hg2 := hF12.obj hg1 (by simp; omega)
  have hq2 := hF12.obj hq1 (by simp; omega)
  have hD2 := hD1.frame hF12 (fun b off e => by simp at e; simp; omega)
  clear c0 c1 c2 hg1 hq1 hD1 hv1 hb1
  have c0 := cell3 (j := 0) hg2 rfl
  have c1 := cell3 (j := 1) hg2 rfl
  have c2 := cell3 (j := 2) hg2 rfl
  have f1 := free3 (j := 1) hg2
  have f2 := free3 (j := 2) hg2
  simp only [rvCells] at c0 c1 c2
  go_wp2
  obtain ⟨W4, hW4⟩ : ∃ W, W = (w2.setCell ⟨g, 1, none⟩ (.slice (some ⟨w.heap.size, 0, none⟩) (n + k) C)).setCell ⟨g, 2, none⟩ (.int .i64 p) := ⟨_, rfl⟩
  have g3 := heap_setCell_same w2 g 1 _ 38 (.slice (some ⟨w.heap.size, 0, none⟩) (n + k) C) hg2
  have hg4 : W4.heap[g]? = some (.cells (rvCells q (.slice (some ⟨w.heap.size, 0, none⟩) (n + k) C) (p : Nat)) 38 (0, 0)) := by
    rw [hW4]; exact heap_setCell_same _ g 2 _ 38 (.int .i64 p) g3
  have hF24 : Frame [g] w2 W4 := by rw [hW4]; exact ((Frame.refl _ _).setCell (by simp) _).setCell (by simp) _
  have hq4 := hF24.obj hq2 (by simp; omega)
  have hb4 := hF24.obj hb2.out (by simp; omega)
  have hD4 := hD2.frame hF24 (fun b off e => by simp at e; simp; omega)
  rw [← hW4]
  clear hW4 g3 c0 c1 c2 f1 f2 hq2 hD2 hb2
  have c0 := cell3 (j := 0) hg4 rfl
  have c1 := cell3 (j := 1) hg4 rfl
  have c2 := cell3 (j := 2) hg4 rfl
  simp only [rvCells] at c0 c1 c2
  have hmr := method_readAt
  have hs3 : (n : Int) ≤ (C : Int) := by omega
  obtain ⟨B4, hB4⟩ : ∃ B4, B4 = splice B n cs := ⟨_, rfl⟩
  rw [← hB4] at hb4
  have hB4l : B4.length = C := by rw [hB4, length_splice _ _ _ (by rw [HCL.out, HBL.out]; omega)]; exact HBL.out
  have hrd : ∀ j, _ := fun j => readAt_some q dd w.heap.size N p n C D B4 (W4.drewN j) hq4 (hD4.drewN j) HDL.out hb4 hB4l (by omega) (by have := HS.out; omega) hN (by omega) (by omega) (by omega)
  have HR : Hid _ := hrd
  have HB4 : Hid _ := hB4
  have HB4L : Hid _ := hB4l
  clear hrd hB4 hB4l
  go_region_held3 (fun W => W.cell? ⟨g, 0, none⟩ = some (.iface 33 (.pointer (some ⟨q, 0, none⟩))) ∧ W.cell? ⟨g, 1, none⟩ = some (.slice (some ⟨w.heap.size, 0, none⟩) (n + k) C) ∧ W.cell? ⟨g, 2, none⟩ = some (.int .i64 p)) (go_keep) (first | (go_at_call 36; refine (HR.out _).mono ?_; rintro e w5 ⟨rfl, hb5, hF5⟩; (have hgn : g ∉ [w.heap.size] := by simp; omega); (have d0 := hF5.cell c0 hgn); (have d1 := hF5.cell c1 hgn); (have d2 := hF5.cell c2 hgn)))
  go_wp2
  go_ret
  have hgn : g ∉ [w.heap.size] := by simp; omega
  rw [HB4.out, HCS.out] at hb5
  have hF45 : Frame [w.heap.size] W4 w5 := Frame.trans ((Frame.refl _ _).drewN 1) hF5
  refine ⟨rfl, _, hF45.obj hg4 hgn, ?_, hb5, View.of_row hb5 (fun j hj => ?_), ?_⟩
  · rw [← HCS.out, ← HB4.out, length_splice _ _ _ ?_]
    · exact HB4L.out
    · have := HB4L.out
      have := HDL.out
      have := HS.out
      simp; omega
  · have h1 := HBL.out
    have h2 := HDL.out
    simp at hj
    simpa using two_pieces B D s p n k HS.out (by omega) (by omega) j (by omega)
  · have hFa : Frame [g, w.heap.size] w w5 := (((hF1.mono (by simp)).trans (hF12.mono (by simp))).trans (hF24.mono (by simp))).trans (hF45.mono (by simp))
    exact hFa.drop (fun k hk => by simp at hk; simp; omega)

end Go.Proofs.Qxb6614770aFmt

import Derived.Test.Qxb6612819aDoorZl
namespace Go.Proofs.Qxb6612819aDoor
open Go.RowKit
set_option linter.unusedVariables false

set_option maxHeartbeats 2000000 in
set_option maxRecDepth 100000 in
theorem law_far (n : Int) (w : World) (h : n < 0 ∨ 65536 < n) : Calls Tryd.prog 5 #[.int .i64 n] w fun e w' => e = .returned (.bool true) ∧ Below w.heap.size w w' := by
  by_cases h0 : n < 0
  · go_enter Tryd.func5, Tryd.ntmps5
    go_wp2
    go_ret
    exact ⟨rfl, Below.refl _ _⟩
  · have h1 : 65536 < n := by omega
    clear h
    go_enter Tryd.func5, Tryd.ntmps5
    go_wp2
    go_ret
    exact ⟨rfl, Below.refl _ _⟩

set_option maxHeartbeats 2000000 in
set_option maxRecDepth 100000 in
theorem law_in (m : Nat) (a0 a1 : Addr) (w : World) (hm : m ≤ 65536) (hs : Sen w w.heap.size a0 a1) : Calls Tryd.prog 5 #[.int .i64 m] w fun e w' => e = .returned (.bool true) ∧ Below w.heap.size w w' := by
  go_enter Tryd.func5, Tryd.ntmps5
  go_wp2_with fail
  refine (zblank_any m _ hm).mono ?_
  rintro e W1 ⟨a, rfl, hv1, b1⟩
  obtain ⟨B, hBl, hB0, hmk0⟩ := make_bytes (m + 1) (by omega)
  have hmk := fun w => hmk0 ((m : Int) + 1) w (by omega)
  have HBL : Hid _ := hBl
  clear hmk0 hB0 hBl
  go_wp2_with (go_at_call 14; refine (allSpaces_any a m m _ (by omega) hv1).mono ?_; rintro e w' ⟨rfl, hww⟩; have hw2 := hww.symm; subst hw2)
  clear hww hmk
  have HA : Hid (∀ b off, a = some ⟨b, off, none⟩ → 0 < m → b < W1.heap.size) := fun b off e h0 => by
    obtain ⟨b9, o9, e9, cL⟩ := hv1 0 (by simpa using h0)
    have z := block_lt_of_cell cL
    rw [e] at e9
    simp at e9
    obtain ⟨rfl, rfl⟩ := e9
    exact z
  have bA : Below w.heap.size w (W1.alloc (.cells B.toArray 5 (0, 0))) := b1.alloc b1.size _
  go_loopw [5] (fun v wr => ∃ k : Nat, k ≤ m ∧ v = .int .i64 k ∧ Hid (View .u8 wr a (List.replicate m 32)) ∧ ∃ cur : List Value, Hid (wr.heap[W1.heap.size]? = some (.cells cur.toArray 5 (0, 0))) ∧ Hid (cur.length = m + 1) ∧ Hid (∀ j, j < k → cur[j]? = some (.int .u8 32)) ∧ Hid (Below w.heap.size w wr)) (fun v _ => m - (intOf v).toNat)
  case atStart => exact ⟨0, Nat.zero_le _, by simp, hv1.below ((Below.refl _ _).alloc (Nat.le_refl _) _), B, heap_alloc_new W1 _, HBL.out, fun j hj => by omega, bA⟩
  case round =>
    obtain ⟨k, hk, rfl, hv, cur, hg, hcl, hsp, hb⟩ := hrel
    by_cases hlt : k < m
    · obtain ⟨b9, o9, e9, cL⟩ := hv.out k (by simpa using hlt)
      subst e9
      rw [spaces_at _ _ hlt] at cL
      have cd := cell3 (j := k) hg.out (show cur.toArray[k]? = some (cur.getD k default) from by
        have := hcl.out
        simp [List.getD, show k < cur.length from by omega])
      have fd := free3 (j := k) hg.out
      go_wp2
      have hF : Frame [W1.heap.size] wr (wr.setCell ⟨W1.heap.size, k, none⟩ (.int .u8 32)) := (Frame.refl _ _).setCell (by simp) _
      have hg' := heap_setCell_same wr W1.heap.size k _ 5 (.int .u8 32) hg.out
      have hz := HA.out b9 o9 rfl (by omega)
      refine ⟨⟨k + 1, by omega, by simp, hv.out.frame hF (fun b off e => by simp at e; simp; omega), cur.set k (.int .u8 32), ?_, ?_, ?_, ?_⟩, ?_⟩
      · show _ = _
        rw [hg']; simp
      · show _ = _
        rw [List.length_set]; exact hcl.out
      · intro j hj
        rw [List.getElem?_set]
        split
        · have := hcl.out; rw [if_pos (by omega)]
        · exact hsp.out j (by omega)
      · exact hb.out.setCell b1.size _
      · simp [intOf]; omega
    · have hkm : k = m := by omega
      subst hkm
      have cd := cell3 (j := k) hg.out (show cur.toArray[k]? = some (cur.getD k default) from by
        have := hcl.out
        simp [List.getD, show k < cur.length from by omega])
      have fd := free3 (j := k) hg.out
      obtain ⟨W3, hW3⟩ : ∃ W, W = wr.setCell ⟨W1.heap.size, k, none⟩ (.int .u8 10) := ⟨_, rfl⟩
      have hg3 := heap_setCell_same wr W1.heap.size k _ 5 (.int .u8 10) hg.out
      rw [← hW3] at hg3
      have b3 : Below w.heap.size w W3 := by rw [hW3]; exact hb.out.setCell b1.size _
      have HV : Hid (View .u8 W3 (some ⟨W1.heap.size, 0, none⟩) (blk k)) := View.of_row hg3 (fun j hj => by
        rw [blk_len] at hj
        have := hcl.out
        by_cases hjk : j < k
        · rw [blk_at _ _ hjk]
          simp [show ¬ k = j from by omega, hsp.out j hjk]
        · obtain rfl : j = k := by omega
          rw [blk_end]
          simp [show j < cur.length from by omega])
      have HW3 : Hid _ := hW3
      clear hW3 hg3
      by_cases h10 : k ≤ 10000
      · go_wp2_with fail
        rw [← HW3.out]
        refine (znew_any W1.heap.size (k + 1) (blk k) _ HV.out (blk_len k) (by omega) (by omega)).mono ?_
        rintro e W4 ⟨g, q, bb, B4, rfl, lg, lq, lb, S4, b34⟩
        have b4 := b3.trans (b34.mono b3.size)
        have hs4 := hs.frame (S := []) (Frame.of_below b4) (by simp)
        have lg0 := Nat.le_trans b3.size lg
        have lq0 := Nat.le_trans b3.size lq
        have lb0 := Nat.le_trans b3.size lb
        go_wp2_with fail
        refine (zline_first g q W1.heap.size bb k w.heap.size B4 a0 a1 _ S4 hs4 lg0 lq0 lb0).mono ?_
        rintro e W5 ⟨a', c', B5, r5, rfl, hv5, S5, hr5, F45⟩
        rw [show Nat.min k 10000 = k from Nat.min_eq_left h10] at hv5 ⊢
        have b5 := b4.trans (F45.below b4.size (fun k hk => mem3 lg0 lq0 lb0 hk))
        have hs5 := hs.frame (S := []) (Frame.of_below b5) (by simp)
        go_wp2_with fail
        refine (allSpaces_any a' k c' _ (by omega) hv5).mono ?_
        rintro e w' ⟨rfl, hww⟩
        have hw2 := hww.symm
        subst hw2
        go_wp2_with fail
        refine (zblank_any k _ (by omega)).mono ?_
        rintro e W6 ⟨a6, rfl, hv6, b56⟩
        have b6 := b5.trans (b56.mono b5.size)
        have F6 : Frame [] W5 W6 := Frame.of_below b56
        have hv56 := hv5.frame F6 (by simp)
        have hs6 := hs.frame (S := []) (Frame.of_below b6) (by simp)
        have S6 := S5.below b56
        go_wp2_with fail
        refine (same_any a' a6 k c' k _ _ (by simp) (by omega) hv56 hv6).mono ?_
        rintro e w' ⟨rfl, nq, hww⟩
        obtain ⟨W7, hW7⟩ : ∃ W, W = W6.drewN nq := ⟨_, rfl⟩
        rw [← hW7] at hww
        subst hww
        have b7 : Below w.heap.size w w' := by rw [hW7]; exact below_drewN b6 _
        have hs7 : Sen w' w.heap.size a0 a1 := hs6.of_heap (by rw [hW7]; rfl)
        have S7 : St w' g q W1.heap.size bb (k + 1) (k + 1) r5 (blk k) B5 := S6.of_heap (by rw [hW7]; rfl)
        clear hW7
        go_wp2_with fail
        refine (zline_second g q W1.heap.size bb (k + 1) r5 w.heap.size (blk k) B5 a0 a1 _ S7 hr5 hs7 lg0 lq0 lb0).mono ?_
        rintro e W8 ⟨rfl, F78⟩
        have b8 := b7.trans (F78.below b7.size (fun k hk => mem3 lg0 lq0 lb0 hk))
        go_wp2
        go_ret
        exact ⟨rfl, b8⟩
      · have h11 : 10000 < k := by omega
        go_wp2_with fail
        rw [← HW3.out]
        refine (znew_any W1.heap.size (k + 1) (blk k) _ HV.out (blk_len k) (by omega) (by omega)).mono ?_
        rintro e W4 ⟨g, q, bb, B4, rfl, lg, lq, lb, S4, b34⟩
        have b4 := b3.trans (b34.mono b3.size)
        have hs4 := hs.frame (S := []) (Frame.of_below b4) (by simp)
        have lg0 := Nat.le_trans b3.size lg
        have lq0 := Nat.le_trans b3.size lq
        have lb0 := Nat.le_trans b3.size lb
        go_wp2_with fail
        refine (zline_first g q W1.heap.size bb k w.heap.size B4 a0 a1 _ S4 hs4 lg0 lq0 lb0).mono ?_
        rintro e W5 ⟨a', c', B5, r5, rfl, hv5, S5, hr5, F45⟩
        rw [show Nat.min k 10000 = 10000 from Nat.min_eq_right (by omega)] at hv5 ⊢
        have b5 := b4.trans (F45.below b4.size (fun k hk => mem3 lg0 lq0 lb0 hk))
        have hs5 := hs.frame (S := []) (Frame.of_below b5) (by simp)
        go_wp2_with fail
        refine (allSpaces_any a' 10000 c' _ (by omega) hv5).mono ?_
        rintro e w' ⟨rfl, hww⟩
        have hw2 := hww.symm
        subst hw2
        go_wp2_with fail
        refine (zblank_any 10000 _ (by omega)).mono ?_
        rintro e W6 ⟨a6, rfl, hv6, b56⟩
        have b6 := b5.trans (b56.mono b5.size)
        have F6 : Frame [] W5 W6 := Frame.of_below b56
        have hv56 := hv5.frame F6 (by simp)
        have hs6 := hs.frame (S := []) (Frame.of_below b6) (by simp)
        have S6 := S5.below b56
        go_wp2_with fail
        refine (same_any a' a6 10000 c' 10000 _ _ (by simp) (by omega) hv56 hv6).mono ?_
        rintro e w' ⟨rfl, nq, hww⟩
        obtain ⟨W7, hW7⟩ : ∃ W, W = W6.drewN nq := ⟨_, rfl⟩
        rw [← hW7] at hww
        subst hww
        have b7 : Below w.heap.size w w' := by rw [hW7]; exact below_drewN b6 _
        have hs7 : Sen w' w.heap.size a0 a1 := hs6.of_heap (by rw [hW7]; rfl)
        have S7 : St w' g q W1.heap.size bb (k + 1) (k + 1) r5 (blk k) B5 := S6.of_heap (by rw [hW7]; rfl)
        clear hW7
        go_wp2_with fail
        refine (zline_second g q W1.heap.size bb (k + 1) r5 w.heap.size (blk k) B5 a0 a1 _ S7 hr5 hs7 lg0 lq0 lb0).mono ?_
        rintro e W8 ⟨rfl, F78⟩
        have b8 := b7.trans (F78.below b7.size (fun k hk => mem3 lg0 lq0 lb0 hk))
        go_wp2
        go_ret
        exact ⟨rfl, b8⟩

end Go.Proofs.Qxb6612819aDoor

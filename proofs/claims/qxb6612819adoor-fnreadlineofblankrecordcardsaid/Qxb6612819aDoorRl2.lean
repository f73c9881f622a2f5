import Derived.Test.Qxb6612819aDoorRl
namespace Go.Proofs.Qxb6612819aDoor
open Go.RowKit
set_option linter.unusedVariables false

set_option maxHeartbeats 2000000 in
set_option maxRecDepth 100000 in
theorem readLine_line (g q dd bb n r L : Nat) (B : List Value) (a0 a1 : Addr) (w : World) (S : St w g q dd bb (n + 1) 0 r (blk n) B) (hn : n < 10000) (hs : Sen w L a0 a1) (lg : L ≤ g) (lq : L ≤ q) (lb : L ≤ bb) :
    Calls Tryd.prog 17 #[.pointer (some ⟨g, 0, none⟩)] w fun e w' => ∃ a' c' B', e = .returned (.tuple #[.slice a' n c', .nilIface]) ∧ View .u8 w' a' (List.replicate n 32) ∧ St w' g q dd bb (n + 1) (n + 1) (n + 1) (blk n) B' ∧ Frame [g, q, bb] w w' := by
  have hL := hs.l
  have hix := blk_ix n 0 (Nat.zero_le _)
  rw [Nat.sub_zero] at hix
  have hd : (blk n).take (n + 1) = blk n := List.take_of_length_le (by rw [blk_len]; omega)
  have HRS : Hid _ := readSlice_line g q dd bb (n + 1) 0 n r (blk n) B w S (blk_byt n) (by omega) (Nat.min_eq_left (by omega)).symm hix
  have HD : Hid _ := hd
  clear hix hd
  go_enter Tryd.func17, Tryd.ntmps17
  go_wp2_with fail
  refine Calls.mono HRS.out ?_
  clear HRS
  rintro e W1 ⟨rfl, S1, F1⟩
  rw [List.drop_zero, HD.out, Nat.zero_add] at S1
  have hs1 := hs.frame F1 (fun k hk => mem3 lg lq lb hk)
  have hv1 := S1.buf
  have e0 := hs1.e0
  have e1 := hs1.e1
  have q1 := eql_nil a0 W1
  have q2 := eql_nil a1 W1
  have k1 := constByte 10 W1
  obtain ⟨W2, hW2⟩ : ∃ W, W = W1.alloc (.cells #[.int .u8 10] 5 (1, 2)) := ⟨_, rfl⟩
  rw [← hW2] at k1
  have b12 : Below W1.heap.size W1 W2 := by rw [hW2]; exact (Below.refl _ _).alloc (Nat.le_refl _) _
  have cN : W2.cell? ⟨W1.heap.size, 0, none⟩ = some (.int .u8 10) := by rw [hW2, World.cell?_alloc_mark]; rfl
  have hv2 := hv1.below b12
  obtain ⟨b9, o9, e9, cL⟩ := hv2 n (by rw [blk_len]; omega)
  simp at e9
  obtain ⟨rfl, rfl⟩ := e9
  rw [blk_end] at cL
  clear hW2
  have T1 : Hid _ := trim_yes bb 0 n 10000 W1.heap.size 0 1 10 W2 (by omega) (by omega) cL cN
  have k2 := constByte 13 W2
  obtain ⟨W3, hW3⟩ : ∃ W, W = W2.alloc (.cells #[.int .u8 13] 5 (1, 2)) := ⟨_, rfl⟩
  rw [← hW3] at k2
  have b23 : Below W2.heap.size W2 W3 := by rw [hW3]; exact (Below.refl _ _).alloc (Nat.le_refl _) _
  have cR : W3.cell? ⟨W2.heap.size, 0, none⟩ = some (.int .u8 13) := by rw [hW3, World.cell?_alloc_mark]; rfl
  have hv3 := hv2.below b23
  clear hW3
  have T2 : Hid _ := trim_no bb 0 n 10000 W2.heap.size 0 1 W3 (by omega) (by omega) (fun h0 => by
    obtain ⟨b9, o9, e9, cP⟩ := hv3 (n - 1) (by rw [blk_len]; omega)
    simp at e9
    obtain ⟨rfl, rfl⟩ := e9
    rw [blk_at _ _ (by omega)] at cP
    exact cP) cR
  have hv4 : View .u8 W3 (some ⟨bb, 0, none⟩) (List.replicate n 32) := by rw [← blk_take n n (Nat.le_refl _)]; exact hv3.take
  have T3 : Hid _ := clone_any bb 0 n 10000 (List.replicate n 32) W3 (by simp) (by omega) hv4
  have b13 : Below W1.heap.size W1 W3 := Below.step b12 b23
  clear cL cN cR hv2 hv3 hv4 b12 b23
  go_wp2_with fail
  refine Calls.mono T1.out ?_
  rintro e w' ⟨rfl, hww⟩
  have hw2 := hww.symm
  subst hw2
  clear T1
  go_wp2_with fail
  refine Calls.mono T2.out ?_
  rintro e w' ⟨rfl, hww⟩
  have hw2 := hww.symm
  subst hw2
  clear T2
  go_wp2_with fail
  refine Calls.mono T3.out ?_
  rintro e W4 ⟨a', c', rfl, hv5, b34⟩
  clear T3
  go_wp2
  go_ret2
  have b14 := Below.step b13 b34
  exact ⟨a', c', _, rfl, hv5, S1.below b14, F1.trans (Frame.of_below b14)⟩

end Go.Proofs.Qxb6612819aDoor

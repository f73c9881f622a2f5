import Derived.Test.Qxb6612819aDoorRl2
namespace Go.Proofs.Qxb6612819aDoor
open Go.RowKit
set_option linter.unusedVariables false

/-- bytes.Clone of a slice that is not nil: new memory. -/
theorem clone_new (b o n c : Nat) (xs : List Int) (w : World) (hl : xs.length = n) (hm : n ≤ 1048576) (hx : View .u8 w (some ⟨b, o, none⟩) xs) :
    Calls Tryd.prog 21 #[.slice (some ⟨b, o, none⟩) n c] w fun e w' => ∃ a' c', e = .returned (.slice a' n c') ∧ View .u8 w' a' xs ∧ (∀ b off, a' = some ⟨b, off, none⟩ → w.heap.size ≤ b) ∧ Below w.heap.size w w' := by
  obtain ⟨i0, hi, hz0, hz1, hz2⟩ := info_parts Tryd.info5
  have hnil : ∀ wx, (binOp .eql 22 (.slice (some ⟨b, o, none⟩) n c) (.slice none 0 0)).run Tryd.prog wx = .ok (.bool false) wx := fun wx => Lib.run_eql_slice_nil wx 22 5 (some ⟨b, o, none⟩) n c 0 0 Tryd.underlying22
  have hown0 : (w.alloc (.cells #[] 5)).ownsRow w.heap.size 5 1 (.slice (some ⟨w.heap.size, 0, none⟩) 0 0) 0 [] := World.ownsRow_lit w #[] 0 (Nat.le_refl _) (Nat.zero_le _) rfl
  have hx1 : View .u8 (w.alloc (.cells #[] 5)) (some ⟨b, o, none⟩) xs := hx.below ((Below.refl _ _).alloc (Nat.le_refl _) _)
  go_enter Tryd.func21, Tryd.ntmps21
  go_wp2_with (at_builtin; refine wpList_append_own _ rfl _ _ 22 rfl w.heap.size 5 i0 (.int .u8 0) 1 1 Tryd.underlying22 hi hz0 hz1 hz2 rfl (by decide) _ _ _ rfl hown0 ⟨b, o, none⟩ n c (xs.map (Value.int .u8)) rfl (by simp [hl]) (hx1.news _ rfl) (ints_oneCell _ _) (by unfold maxLen; omega) (by omega) (by simp) ?_)
  intro v' w1 hown1 hgrow hnn
  have hbel : Below w.heap.size w w1 := ((Below.refl _ _).alloc (Nat.le_refl _) _).grown hgrow (by simp) (fun k h => by simp [Value.ownBlock] at h; omega)
  have Hown : Hid _ := hown1
  clear hown1 hgrow hnn hown0 hx1
  go_wp2
  go_ret
  rcases Hown.out.2 with ⟨rfl, h0⟩ | ⟨g, cap, cur, rfl, hg, hh, hnc, hcm, hcs, htk⟩
  · have h00 : n = 0 := by omega
    subst h00
    exact ⟨none, 0, rfl, fun i hi => by omega, by simp, hbel⟩
  · refine ⟨some ⟨g, 0, none⟩, cap, by simp, ?_, ?_, hbel⟩
    rotate_left
    · intro b off e; simp at e; omega
    intro j hj
    refine ⟨g, 0, rfl, ?_⟩
    have := World.ownsRow.cellAt (w := w1) Hown.out j (by omega)
    rw [Nat.zero_add, this]
    simp [List.getD, hj]

/-- One ReadSlice of the rest of a line whose bytes are left in the source. -/
theorem readSlice_next (g q dd bb n p r L : Nat) (B : List Value) (a0 a1 : Addr) (w : World) (S : St w g q dd bb (n + 1) p r (blk n) B) (hp : p ≤ n) (hs : Sen w L a0 a1) (lg : L ≤ g) (lq : L ≤ q) (lb : L ≤ bb) :
    Calls Tryd.prog 20 #[.pointer (some ⟨g, 0, none⟩), .int .u8 10] w fun e w' => ∃ v er p' r' B', e = .returned (.tuple #[v, er]) ∧ St w' g q dd bb (n + 1) p' r' (blk n) B' ∧ 1 ≤ r' ∧ Frame [g, q, bb] w w' ∧
      ((er = .iface 65 (.pointer (some a0)) ∧ p < p' ∧ p' ≤ n) ∨ (er = .nilIface ∧ p' = n + 1)) := by
  by_cases hc : n - p + 1 ≤ 10000
  · refine Calls.mono (readSlice_line g q dd bb (n + 1) p (n - p) r (blk n) B w S (blk_byt n) (by omega) ?_ (blk_ix n p hp)) ?_
    · rw [show n + 1 - p = n - p + 1 from by omega]; exact (Nat.min_eq_left hc).symm
    rintro e w' ⟨rfl, S', F⟩
    rw [show p + (n - p + 1) = n + 1 from by omega] at S'
    exact ⟨_, _, _, _, _, rfl, S', by omega, F, .inr ⟨rfl, rfl⟩⟩
  · have hL := hs.l
    refine Calls.mono (readSlice_full g q dd bb (n + 1) p r (blk n) B _ w S (blk_byt n) (by omega) (blk_no n p (by omega)) hs.e0 (fun hm => by have := mem3 lg lq lb hm; omega)) ?_
    rintro e w' ⟨rfl, S', F⟩
    exact ⟨_, _, _, _, _, rfl, S', by omega, F, .inl ⟨rfl, by omega, by omega⟩⟩

set_option maxHeartbeats 2000000 in
set_option maxRecDepth 100000 in
theorem readLine_full (g q dd bb n r L : Nat) (B : List Value) (a0 a1 : Addr) (w : World) (S : St w g q dd bb (n + 1) 0 r (blk n) B) (hn : 10000 ≤ n) (hs : Sen w L a0 a1) (lg : L ≤ g) (lq : L ≤ q) (lb : L ≤ bb) :
    Calls Tryd.prog 17 #[.pointer (some ⟨g, 0, none⟩)] w fun e w' => ∃ a' c' B' r', e = .returned (.tuple #[.slice a' 10000 c', .nilIface]) ∧ View .u8 w' a' (List.replicate 10000 32) ∧ St w' g q dd bb (n + 1) (n + 1) r' (blk n) B' ∧ 1 ≤ r' ∧ Frame [g, q, bb] w w' := by
  have hL := hs.l
  have HRS : Hid _ := readSlice_full g q dd bb (n + 1) 0 r (blk n) B _ w S (blk_byt n) (by omega) (blk_no n 0 (by omega)) hs.e0 (fun hm => by have := mem3 lg lq lb hm; omega)
  have HD : Hid ((blk n).take 10000 = List.replicate 10000 32) := blk_take n 10000 hn
  go_enter Tryd.func17, Tryd.ntmps17
  go_wp2_with fail
  refine Calls.mono HRS.out ?_
  clear HRS
  rintro e W1 ⟨rfl, S1, F1⟩
  rw [List.drop_zero, HD.out, Nat.zero_add] at S1
  clear HD
  have hs1 := hs.frame F1 (fun k hk => mem3 lg lq lb hk)
  have hv1 := S1.buf
  have e0 := hs1.e0
  have q1 := eql_same a0 W1
  have T3 : Hid _ := clone_new bb 0 10000 10000 (List.replicate 10000 32) W1 (by simp) (by omega) hv1
  go_wp2_with fail
  refine Calls.mono T3.out ?_
  clear T3
  rintro e W2 ⟨a', c', rfl, hv2, hnew, b12⟩
  have F2 := F1.trans (Frame.of_below b12)
  have S2 := S1.below b12
  have zg := (Array.getElem?_eq_some_iff.1 S1.hg.choose_spec.choose_spec).1
  have zq := (Array.getElem?_eq_some_iff.1 S1.hq.choose_spec).1
  have zb := (Array.getElem?_eq_some_iff.1 S1.hbb).1
  have HN : Hid (∀ b off, a' = some ⟨b, off, none⟩ → b ∉ [g, q, bb]) := fun b off e => by have := hnew b off e; simp; omega
  clear zg zq zb hnew
  clear hv1 q1 e0
  go_wp2
  go_loopg [5] (n + 2) (fun gk er wr => Hid (View .u8 wr a' (List.replicate 10000 32)) ∧ ∃ p r B, Hid (St wr g q dd bb (n + 1) p r (blk n) B) ∧ 1 ≤ r ∧ Hid (Frame [g, q, bb] w wr) ∧ ((er = .iface 65 (.pointer (some a0)) ∧ p ≤ n ∧ n + 1 < gk + p) ∨ (er = .nilIface ∧ Hid (p = n + 1))))
  case atStart => exact ⟨hv2, 10000, _, _, S2, by omega, F2, .inl ⟨rfl, by omega, by omega⟩⟩
  case round =>
    obtain ⟨hv, p, r, B, S, hr, F, hcase⟩ := hrel
    have hsw := hs.frame F.out (fun k hk => mem3 lg lq lb hk)
    have e0 := hsw.e0
    rcases hcase with ⟨rfl, hp, hgk⟩ | ⟨rfl, hp⟩
    · have q1 := eql_same a0 wr
      have T : Hid _ := readSlice_next g q dd bb n p r L B a0 a1 wr S.out hp hsw lg lq lb
      go_wp2_with fail
      refine Calls.mono T.out ?_
      clear T
      rintro e W5 ⟨v, er, p', r', B', rfl, S5, hr5, F5, hc5⟩
      have HC : Hid _ := hc5
      clear hc5 e0 q1
      go_wp2
      go_roundg (n + 2 - p')
      case rel => 
        refine ⟨hv.out.frame F5 HN.out, p', r', B', S5, hr5, F.out.trans F5, ?_⟩
        rcases HC.out with ⟨rfl, h1, h2⟩ | ⟨rfl, h1⟩
        · exact .inl ⟨rfl, h2, by omega⟩
        · exact .inr ⟨rfl, h1⟩
      case measure =>
        rcases HC.out with ⟨rfl, h1, h2⟩ | ⟨rfl, h1⟩ <;> omega
    · have q1 := eql_nil a0 wr
      go_wp2
      go_ret2
      exact ⟨a', c', B, r, rfl, hv.out, hp.out ▸ S.out, hr, F.out⟩

end Go.Proofs.Qxb6612819aDoor

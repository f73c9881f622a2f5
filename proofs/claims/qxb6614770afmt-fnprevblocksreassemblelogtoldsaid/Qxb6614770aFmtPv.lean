import Derived.Test.Qxb6614770aFmtRv
namespace Go.Proofs.Qxb6614770aFmt
open Go.RowKit
set_option linter.unusedVariables false

theorem ixB_pos {xs : List Int} {c : Int} {j : Nat} (h : ixB xs c = (j : Int)) : j < xs.length ∧ xs.getD j 0 = c ∧ ∀ i, i < j → xs.getD i 0 ≠ c := by
  unfold ixB at h
  split at h
  · rename_i hl
    have hj : xs.idxOf c = j := by omega
    refine ⟨by omega, ?_, fun i hi => ?_⟩
    · rw [← hj]; simp [List.getD, hl]
    · intro e
      have hil : i < xs.length := by omega
      have := List.not_of_lt_findIdx (p := fun x => x == c) (xs := xs) (i := i) (by rw [← hj] at hi; simpa [List.idxOf] using hi)
      simp [List.getD, hil] at e
      simp [e] at this
  · omega

theorem ixB_neg {xs : List Int} {c : Int} (h : ixB xs c = -1) : ∀ i, i < xs.length → xs.getD i 0 ≠ c := by
  intro i hi e
  unfold ixB at h
  split at h
  · omega
  · rename_i hl
    apply hl
    rw [List.idxOf_lt_length_iff]
    simp [List.getD, hi] at e
    rw [← e]
    exact List.getElem_mem hi

/-- No end of line in s .. e but at the last byte. -/
def NoNl (D : List Int) (s e : Nat) : Prop := ∀ j, s ≤ j → j + 1 < e → D.getD j 0 ≠ 10

theorem piece_at (D : List Int) (s k j : Nat) (h : j < k) : ((D.drop s).take k).getD j 0 = D.getD (s + j) 0 := by simp [List.getD, h]

/-- What prev leaves. -/
def PrevPost (w : World) (L g q : Nat) (da : Option Addr) (N s e : Nat) (D : List Int) (eof : Value) (x : Ending) (w' : World) : Prop :=
  Below L w w' ∧
  ((e = 0 ∧ x = .returned (.tuple #[.slice none 0 0, .int .i64 0, eof]) ∧ Rv w' L g q da N 0 0 D) ∨
   (∃ a' c' o m, o + m = e ∧ 0 < m ∧ x = .returned (.tuple #[.slice a' m c', .int .i64 (o : Nat), .nilIface]) ∧ View .u8 w' a' ((D.drop o).take m) ∧
     ((o = 0 ∧ Rv w' L g q da N 0 0 D ∧ NoNl D 0 e) ∨
      (0 < o ∧ D.getD (o - 1) 0 = 10 ∧ ∃ s' k', s' + k' = o ∧ 0 < k' ∧ Rv w' L g q da N s' k' D ∧ NoNl D s' o ∧ (s' + 65536 ≤ s ∨ (s' = 0 ∧ 0 < s))))))

set_option maxHeartbeats 2000000 in
set_option maxRecDepth 100000 in
theorem prev_any (L g q N s k e : Nat) (da : Option Addr) (D : List Int) (eof : Value) (w : World) (R : Rv w L g q da N s k D) (hb : Byt D) (hse : s + k = e) (hno : NoNl D s e) (hL : 1 ≤ L) (he : w.cell? ⟨0, 0, none⟩ = some eof) :
    Calls Tryf.prog 13 #[.pointer (some ⟨g, 0, none⟩)] w (PrevPost w L g q da N s e D eof) := by
  have HSE : Hid _ := hse
  clear hse
  go_enter Tryf.func13, Tryf.ntmps13
  go_wp2
  go_loopg [] (s + 1) (fun gk wr => ∃ s1 k1, Hid (s1 + k1 = e) ∧ Hid (gk = s1 + 1) ∧ Hid (Rv wr L g q da N s1 k1 D) ∧ Hid (NoNl D s1 e) ∧ Hid (s1 = s ∨ s1 + 65536 ≤ s ∨ (s1 = 0 ∧ 0 < s)) ∧ Hid (Below L w wr))
  case atStart => exact ⟨s, k, HSE.out, rfl, R, hno, .inl rfl, Below.refl _ _⟩
  case round =>
    obtain ⟨s1, k1, H1, H2, R1, HNO, H3, b1⟩ := hrel
    have e0 := (b1.out.cell (p := ⟨0, 0, none⟩) (show 0 < L from hL)).trans he
    obtain ⟨hq, hD, hDl, hN, hen, hda, lg, lq, ngq, ba, c, hg, hv, hbuf⟩ := R1.out
    have HDA : Hid _ := hda
    have HBUF : Hid _ := hbuf
    have HDL : Hid _ := hDl
    clear hda hbuf hDl
    have c0 := cell3 (j := 0) hg rfl
    have c1 := cell3 (j := 1) hg rfl
    have c2 := cell3 (j := 2) hg rfl
    have f1 := free3 (j := 1) hg
    simp only [rvCells] at c0 c1 c2
    by_cases hs0 : s1 = 0
    · subst hs0
      by_cases hk0 : k1 = 0
      · subst hk0
        go_wp2
        go_quiet (fail)
        go_wp2
        go_ret3
        exact ⟨below_drewN b1.out _, .inl ⟨H1.out.symm, rfl, R1.out.of_heap rfl⟩⟩
      · rcases HBUF.out with ⟨_, h0, hc0⟩ | ⟨bb, B, rfl, hbb, hBl, hkc, hc6, lb, n3, n4, n5⟩
        · exact absurd h0 hk0
        · have HBB : Hid _ := hbb
          have HBL : Hid _ := hBl
          have HN5 : Hid _ := n5
          have HC6 : Hid _ := hc6
          clear hbb hBl n5 hc6
          go_wp2
          go_ret3
          have hF : Frame [g] wr (wr.setCell ⟨g, 1, none⟩ (.slice (some ⟨bb, 0, none⟩) 0 c)) := (Frame.refl _ _).setCell (by simp) _
          have hg' := heap_setCell_same wr g 1 _ 38 (.slice (some ⟨bb, 0, none⟩) 0 c) hg
          have hq' := hF.obj hq (by simp; omega)
          have hb' := hF.obj HBB.out (by simp; omega)
          have hD' : View .u8 (wr.setCell ⟨g, 1, none⟩ (.slice (some ⟨bb, 0, none⟩) 0 c)) da D := hD.frame hF (fun b off ea => by
            by_cases hN0 : 0 < N
            · obtain ⟨dd, e1, e2, e3⟩ := HDA.out hN0
              rw [e1] at ea
              simp at ea
              simp
              omega
            · exact absurd (show 0 < N by omega) hN0)
          have hv' := hv.frame hF (fun b off ea => by simp at ea; simp; omega)
          rw [List.drop_zero] at hv'
          have h1 := H1.out
          rw [Nat.zero_add] at h1
          refine ⟨b1.out.setCell lg _, .inr ⟨_, c, 0, k1, by omega, by omega, rfl, by rw [List.drop_zero]; exact hv', .inl ⟨rfl, ?_, HNO.out⟩⟩⟩
          exact ⟨hq', hD', HDL.out, hN, by omega, HDA.out, lg, lq, ngq, _, c, hg', View.nil _ _ _, .inr ⟨bb, B, rfl, hb', HBL.out, Nat.zero_le _, HC6.out, lb, n3, n4, HN5.out⟩⟩
    · have hk1 : ¬ ((1048577 : Int) < (k1 : Int)) := by omega
      have hs1 : ¬ ((s1 : Int) = 0) := by omega
      obtain ⟨n, hn⟩ : ∃ n, n = Nat.min 65536 s1 := ⟨_, rfl⟩
      have hn0 : 1 ≤ n ∧ n ≤ s1 ∧ n ≤ 65536 := by rw [hn]; exact ⟨by rw [Nat.le_min]; omega, Nat.min_le_right _ _, Nat.min_le_left _ _⟩
      obtain ⟨p, hp⟩ : ∃ p, s1 = p + n := ⟨s1 - n, by omega⟩
      have hpp : p = 0 ∨ p + 65536 ≤ s1 := by
        have h1 := hn
        rw [show Nat.min 65536 s1 = min 65536 s1 from rfl] at h1
        omega
      have HPP : Hid _ := hpp
      have T : Hid _ := earlier_any L g q N s1 p n k1 da D wr R1.out hp (by omega) hn
      have HP : Hid _ := hp
      clear hn hp hpp
      go_wp2_with fail
      refine Calls.mono T.out ?_
      clear T
      rintro x W2 ⟨rfl, R2, b2⟩
      have b12 := b1.out.trans (b2.mono (Nat.le_refl _))
      clear c0 c1 c2 f1 hg hv hq hD e0
      obtain ⟨hq, hD, hDl, _, hen2, hda, _, _, _, ba2, c2', hg, hv, hbuf⟩ := R2
      obtain ⟨K2, hK2⟩ : ∃ K2, K2 = n + k1 := ⟨_, rfl⟩
      rw [← hK2] at hg hv hbuf hen2
      rcases hbuf with ⟨_, h0, hc0⟩ | ⟨bb, B, rfl, hbb, hBl, hkc, hc6, lb, n3, n4, n5⟩
      · omega
      have HDA2 : Hid _ := hda
      have HBB : Hid _ := hbb
      have HBL : Hid _ := hBl
      have HN5 : Hid _ := n5
      have HC6 : Hid _ := hc6
      clear hda hbb hBl n5 hc6 hDl
      have c0 := cell3 (j := 0) hg rfl
      have c1 := cell3 (j := 1) hg rfl
      have c2 := cell3 (j := 2) hg rfl
      have f1 := free3 (j := 1) hg
      simp only [rvCells] at c0 c1 c2
      obtain ⟨xs, hxs⟩ : ∃ xs, xs = (D.drop p).take K2 := ⟨_, rfl⟩
      have hxl : xs.length = K2 := by have := HDL.out; rw [hxs]; simp; omega
      have hxb : Byt xs := by rw [hxs]; exact Byt.take (Byt.drop hb _) _
      have hxat : ∀ j, j < K2 → xs.getD j 0 = D.getD (p + j) 0 := fun j hj => by rw [hxs]; exact piece_at D p K2 j hj
      have T := bIndexByte_any (some ⟨bb, 0, none⟩) K2 c2' xs 10 W2 hxl hxb (by decide) (by decide) (by rw [hxs]; exact hv)
      have hrg := ixB_range xs 10
      have hK2e : p + K2 = e := by have h1 := H1.out; have h2 := HP.out; omega
      have HK2E : Hid _ := hK2e
      have HXL : Hid _ := hxl
      have HXAT : Hid _ := hxat
      have HXS : Hid _ := hxs
      have hKb : K2 ≤ 1048576 := by omega
      clear hxs hxl hxat hK2e hK2
      rcases (by omega : ixB xs 10 = -1 ∨ 0 ≤ ixB xs 10) with hr | hr
      · rw [hr] at T
        have HR : Hid _ := ixB_neg hr
        have HT : Hid _ := T
        clear hr T hrg
        go_wp2_with fail
        refine Calls.mono HT.out ?_
        clear HT
        rintro x w' ⟨rfl, hww⟩
        have hw2 := hww.symm
        subst hw2
        go_wp2
        go_roundg (p + 1)
        case measure => have h2 := H2.out; have h3 := HP.out; omega
        case rel =>
          refine ⟨p, K2, HK2E.out, rfl, ⟨hq, hD, HDL.out, hN, hen2, HDA2.out, lg, lq, ngq, _, _, hg, hv, .inr ⟨bb, B, rfl, HBB.out, HBL.out, hkc, HC6.out, lb, n3, n4, HN5.out⟩⟩, ?_, ?_, b12⟩
          · intro j h1 h2 h3
            have h4 := HK2E.out
            have h5 := HXAT.out (j - p) (by omega)
            rw [show p + (j - p) = j from by omega, h3] at h5
            exact HR.out (j - p) (by rw [HXL.out]; omega) h5
          · have h1 := H3.out
            have h2 := HPP.out
            have h3 := HP.out
            show _ ∨ _ ∨ _
            omega
      · obtain ⟨j, hj⟩ := Int.eq_ofNat_of_zero_le hr
        rw [hj] at T
        obtain ⟨hjl, hj10, hjn⟩ := ixB_pos hj
        rw [HXL.out] at hjl
        have HJ10 : Hid _ := hj10
        have HJN : Hid _ := hjn
        have HT : Hid _ := T
        clear hr T hrg hj hj10 hjn
        have hjb : j ≤ 1048576 := by omega
        by_cases hlast : K2 = j + 1
        · subst hlast
          go_wp2_with fail
          refine Calls.mono HT.out ?_
          clear HT
          rintro x w' ⟨rfl, hww⟩
          have hw2 := hww.symm
          subst hw2
          go_wp2
          go_roundg (p + 1)
          case measure => have h2 := H2.out; have h3 := HP.out; omega
          case rel =>
            refine ⟨p, j + 1, HK2E.out, rfl, ⟨hq, hD, HDL.out, hN, hen2, HDA2.out, lg, lq, ngq, _, _, hg, hv, .inr ⟨bb, B, rfl, HBB.out, HBL.out, hkc, HC6.out, lb, n3, n4, HN5.out⟩⟩, ?_, ?_, b12⟩
            · intro i h1 h2 h3
              have h4 := HK2E.out
              have h5 := HXAT.out (i - p) (by omega)
              rw [show p + (i - p) = i from by omega, h3] at h5
              exact HJN.out (i - p) (by omega) h5
            · have h1 := H3.out
              have h2 := HPP.out
              have h3 := HP.out
              show _ ∨ _ ∨ _
              omega
        · obtain ⟨m, hm⟩ : ∃ m, K2 = j + 1 + m := ⟨K2 - (j + 1), by omega⟩
          have hm1 : 1 ≤ m := by omega
          subst hm
          have hb1 : (j : Int) + 1 ≤ (j : Int) + 1 + (m : Int) := by omega
          have hb2 : (j : Int) + 1 ≤ (c2' : Int) := by omega
          have hb3 : ¬ c2' = j + 1 := by omega
          have hb4 : (0 : Int) < (m : Int) := by omega
          have hpb : (p : Int) ≤ 1048576 := by omega
          go_wp2_with fail
          refine Calls.mono HT.out ?_
          clear HT
          rintro x w' ⟨rfl, hww⟩
          have hw2 := hww.symm
          subst hw2
          go_wp2
          obtain ⟨W3, hW3⟩ : ∃ W, W = W2.setCell ⟨g, 1, none⟩ (.slice (some ⟨bb, 0, none⟩) (j + 1) c2') := ⟨_, rfl⟩
          have hg3 : W3.heap[g]? = some (.cells (rvCells q (.slice (some ⟨bb, 0, none⟩) (j + 1) c2') (p : Nat)) 38 (0, 0)) := by
            rw [hW3]; exact heap_setCell_same W2 g 1 _ 38 (.slice (some ⟨bb, 0, none⟩) (j + 1) c2') hg
          have hF : Frame [g] W2 W3 := by rw [hW3]; exact (Frame.refl _ _).setCell (by simp) _
          have b3 : Below L w W3 := by rw [hW3]; exact b12.setCell lg _
          rw [← hW3]
          clear hW3 c0 c1 c2 f1
          have c2 := cell3 (j := 2) hg3 rfl
          simp only [rvCells] at c2
          go_quiet (fail)
          go_wp2
          go_ret3
          have hq' := hF.obj hq (by simp; omega)
          have hb' := hF.obj HBB.out (by simp; omega)
          have hD' : View .u8 W3 da D := hD.frame hF (fun b off ea => by
            obtain ⟨dd, e1, e2, e3⟩ := HDA2.out (by omega)
            rw [e1] at ea
            simp at ea
            simp
            omega)
          have hv' := hv.frame hF (fun b off ea => by simp at ea; simp; omega)
          have hE := HK2E.out
          refine ⟨below_drewN b3 _, .inr ⟨some ⟨bb, j + 1, none⟩, c2' - (j + 1), p + (j + 1), m, by omega, by omega, by simp, ?_, .inr ⟨by omega, ?_, p, j + 1, rfl, by omega, ?_, ?_, ?_⟩⟩⟩
          · have h := (hv'.at (lo := j + 1))
            rw [Nat.zero_add] at h
            rw [List.drop_take, List.drop_drop, show j + 1 + m - (j + 1) = m from by omega] at h
            exact h
          · have := HXAT.out j (by omega)
            rw [show p + (j + 1) - 1 = p + j from by omega, ← this]
            exact HJ10.out
          · have hvt : View .u8 W3 (some ⟨bb, 0, none⟩) ((D.drop p).take (j + 1)) := by
              have h := hv'.take (hi := j + 1)
              rw [List.take_take, Nat.min_eq_left (by omega)] at h
              exact h
            have R3 : Rv W3 L g q da N p (j + 1) D := ⟨hq', hD', HDL.out, hN, by omega, HDA2.out, lg, lq, ngq, _, _, hg3, hvt, .inr ⟨bb, B, rfl, hb', HBL.out, by omega, HC6.out, lb, n3, n4, HN5.out⟩⟩
            exact R3.of_heap rfl
          · intro i h1 h2 h3
            have h5 := HXAT.out (i - p) (by omega)
            rw [show p + (i - p) = i from by omega, h3] at h5
            exact HJN.out (i - p) (by omega) h5
          · have h1 := H3.out
            have h2 := HPP.out
            have h3 := HP.out
            omega

end Go.Proofs.Qxb6614770aFmt

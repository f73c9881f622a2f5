import Derived.Test.Qxb6608861aOneA
namespace Go.Proofs.Qxb6608861a
open Go.RowKit
set_option linter.unusedVariables false
set_option maxRecDepth 100000
set_option maxHeartbeats 1000000

section
variable (a0 : Option Addr) (m ca : Nat) (a1 : Option Addr) (n cb : Nat) (a2 : Option Addr) (l cl : Nat) (xs es ws : List Int) (w : World)

theorem one_main (i : Nat) (hxl : xs.length = m) (hel : es.length = n) (hwl : ws.length = l) (hca : m ≤ ca) (h : m + n + l ≤ 1048576) (h1 : n ≤ 262144) (h2 : l ≤ 131072) (h3 : m + 4 * n + 8 * l ≤ 1048576) (h4 : i < n)
    (hx : View .u8 w a0 xs) (hy : View .u32 w a1 es) (hz : View .u64 w a2 ws) (hb : Byt xs) (hr : ∀ x ∈ ws, 0 ≤ x ∧ x ≤ 18446744073709551615) (he : endsOK m 0 es = true) :
    Calls Try.prog 5 #[.slice a0 m ca, .slice a1 n cb, .slice a2 l cl, .int .i64 i] w fun e w' => e = .returned (.bool true) ∧ Below w.heap.size w w' := by
  have hE := endsOK_is a0 a1 m ca n cb es true w hel (by omega) (by omega) hy he
  obtain ⟨lo, hi, elo, ehi, hlh, hhm⟩ := ends_field m es he i (by omega)
  have Elo : Hid _ := elo
  have Ehi : Hid _ := ehi
  clear he elo ehi
  go_enter Try.func5, Try.ntmps5
  go_wp2_with (first | (go_at_call 11; refine (bytes11_any _ _ _ _ _ _ _ _ _ _ _ h).mono ?_; rintro e w' ⟨rfl, hww⟩; (have hw2 := hww.symm); subst hw2) | (go_at_call 12; refine hE.mono ?_; rintro e w' ⟨rfl, hww⟩; (have hw2 := hww.symm); subst hw2))
  refine (clone13_any a0 m ca xs w hxl (by omega) (hx.hz hxl) hx).mono ?_
  rintro e w1 ⟨b0, rfl, hx1, hb1⟩
  go_wp2_with fail
  refine (clone14_any a1 n cb es w1 hel (by omega) (hy.hz hel) (hy.below hb1)).mono ?_
  rintro e w2 ⟨b1, rfl, hy2, hb2⟩
  have hx2 := hx1.below hb2
  have hB2 := Below.step hb1 hb2
  clear hx1 hb1 hb2
  go_wp2_with fail
  refine (clone15_any a2 l cl ws w2 hwl (by omega) (hz.hz hwl) (hz.below hB2)).mono ?_
  rintro e w3 ⟨b2, rfl, hz3, hb3⟩
  have hx3 := hx2.below hb3
  have hy3 := hy2.below hb3
  have hB3 := Below.step hB2 hb3
  clear hx2 hy2 hb3 hB2
  go_wp2_with fail
  refine (fieldAt_any b0 b1 m m n n i lo hi xs es w3 hxl hel (by omega) (by omega) (Nat.le_refl _) h4 hx3 hy3 Elo.out Ehi.out hlh hhm).mono ?_
  rintro e w' ⟨⟨af, rfl, hf⟩, hww⟩
  have hw2 := hww.symm
  subst hw2
  have hFl : ((xs.take hi).drop lo).length = hi - lo := by simp; omega
  have hbF : Byt ((xs.take hi).drop lo) := (hb.take _).drop _
  go_wp2_with fail
  cases hbit : bitB ws i with
  | false =>
    have HB : Hid _ := hbit
    clear hbit
    refine (bit_is b2 l l i ws false w3 hwl (by omega) (by omega) hr hz3 HB.out).mono ?_
    rintro e w' ⟨rfl, hww⟩
    have hw2 := hww.symm
    subst hw2
    go_wp2_with fail
    refine (clone13_any b0 m m xs w3 hxl (by omega) (hx3.hz hxl) hx3).mono ?_
    rintro e w4 ⟨p0, rfl, hp4, hb4⟩
    go_wp2_with fail
    refine (clone14_any b1 n n es w4 hel (by omega) (hy3.hz hel) (hy3.below hb4)).mono ?_
    rintro e w5 ⟨p1, rfl, hq5, hb5⟩
    have hB5 := Below.step hb4 hb5
    have hp5 := hp4.below hb5
    clear hp4 hb4 hb5
    go_wp2_with fail
    refine (clone15_any b2 l l ws w5 hwl (by omega) (hz3.hz hwl) (hz3.below hB5)).mono ?_
    rintro e w6 ⟨p2, rfl, hr6, hb6⟩
    have hB6 := Below.step hB5 hb6
    have hp6 := hp5.below hb6
    have hq6 := hq5.below hb6
    clear hp5 hq5 hB5 hb6
    go_wp2_with fail
    refine (newIdx_any p0 p1 p2 m m n n l l xs es ws w6 hxl hel hwl (Nat.le_refl _) hp6 hq6 hr6).mono ?_
    rintro e w7 ⟨g, rfl, hI, hb7⟩
    have hB7 := Below.step hB6 hb7
    have hp7 := hp6.below hb7
    clear hp6 hq6 hr6 hB6 hb7
    go_wp2_with fail
    refine (call_plain g i lo hi xs es ws w7 hI ⟨by omega, by omega, by omega, hr, hb⟩ (by omega) Elo.out Ehi.out hlh (by omega) HB.out).mono ?_
    rintro e w8 ⟨ag, rfl, hg8, hb8⟩
    have hB8 := Below.step hB7 hb8
    clear hI hB7 hb8
    go_wp2_with fail
    refine (same_is ag af (hi - lo) (hi - lo) (hi - lo) (m - lo) ((xs.take hi).drop lo) w8 hFl hFl (by omega) hg8 (hf.below hB8)).mono ?_
    rintro e w' ⟨rfl, q, rfl⟩
    go_wp2
    go_ret
    exact ⟨rfl, below_drewN (Below.step hB3 hB8) _⟩
  | true =>
    have HB : Hid _ := hbit
    clear hbit
    refine (bit_is b2 l l i ws true w3 hwl (by omega) (by omega) hr hz3 HB.out).mono ?_
    rintro e w' ⟨rfl, hww⟩
    have hw2 := hww.symm
    subst hw2
    go_wp2_with fail
    cases hpr : isPrior ((xs.take hi).drop lo) with
    | false =>
      refine (isPrior_is af (hi - lo) (m - lo) ((xs.take hi).drop lo) false w3 hFl (by omega) (by omega) hf hpr).mono ?_
      rintro e w4 ⟨rfl, hb4⟩
      clear hpr
      go_wp2
      go_ret
      exact ⟨rfl, Below.step hB3 hb4⟩
    | true =>
      obtain ⟨c, i1, i2, R⟩ := rec_of_prior _ hpr
      refine (isPrior_is af (hi - lo) (m - lo) ((xs.take hi).drop lo) true w3 hFl (by omega) (by omega) hf hpr).mono ?_
      rintro e w4 ⟨rfl, hb4⟩
      clear hpr
      have hx4 := hx3.below hb4
      have hy4 := hy3.below hb4
      have hz4 := hz3.below hb4
      have hf4 := hf.below hb4
      have hB4 := Below.step hB3 hb4
      clear hx3 hy3 hz3 hf hB3 hb4
      go_wp2_with fail
      refine (clone13_any b0 m m xs w4 hxl (by omega) (hx4.hz hxl) hx4).mono ?_
      rintro e w5 ⟨p0, rfl, hp5, hb5⟩
      go_wp2_with fail
      refine (clone14_any b1 n n es w5 hel (by omega) (hy4.hz hel) (hy4.below hb5)).mono ?_
      rintro e w6 ⟨p1, rfl, hq6, hb6⟩
      have hB6 := Below.step hb5 hb6
      have hp6 := hp5.below hb6
      clear hp5 hb5 hb6
      go_wp2_with fail
      refine (clone15_any b2 l l ws w6 hwl (by omega) (hz4.hz hwl) (hz4.below hB6)).mono ?_
      rintro e w7 ⟨p2, rfl, hr7, hb7⟩
      have hB7 := Below.step hB6 hb7
      have hp7 := hp6.below hb7
      have hq7 := hq6.below hb7
      clear hp6 hq6 hB6 hb7
      go_wp2_with fail
      refine (newIdx_any p0 p1 p2 m m n n l l xs es ws w7 hxl hel hwl (Nat.le_refl _) hp7 hq7 hr7).mono ?_
      rintro e w8 ⟨g, rfl, hI, hb8⟩
      have hB8 := Below.step hB7 hb8
      have hp8 := hp7.below hb8
      clear hp7 hq7 hr7 hB7 hb8
      go_wp2_with fail
      refine (call_placed g i lo hi c i1 i2 xs es ws w8 hI ⟨by omega, by omega, by omega, hr, hb⟩ (by omega) Elo.out Ehi.out hlh (by omega) HB.out R).mono ?_
      rintro e w9 ⟨q, rfl, hq9, hg9, hfz9, hb9⟩
      have hB9 := Below.step hB8 hb9
      have hx9 := hx4.below hB9
      have hf9 := hf4.below hB9
      have hp9 := hp8.below hb9
      have hqx : ∀ j, j < xs.length → ∃ b off, b0 = some ⟨b, off, none⟩ ∧ b < q ∧ w9.cell? ⟨b, off + j, none⟩ = some (.int .u8 (xs.getD j 0)) := fun j hj => by
        obtain ⟨b, off, e, h⟩ := hx4 j hj
        have := block_lt_of_cell h
        exact ⟨b, off, e, Nat.lt_of_lt_of_le (Nat.lt_of_lt_of_le this hB8.size) hq9, (hB9.cell (p := ⟨b, off + j, none⟩) this).trans h⟩
      have hqp : ∀ j, j < xs.length → ∃ b off, p0 = some ⟨b, off, none⟩ ∧ b < q ∧ w9.cell? ⟨b, off + j, none⟩ = some (.int .u8 (xs.getD j 0)) := fun j hj => by
        obtain ⟨b, off, e, h⟩ := hp8 j hj
        have := block_lt_of_cell h
        exact ⟨b, off, e, Nat.lt_of_lt_of_le this hq9, (hb9.cell (p := ⟨b, off + j, none⟩) this).trans h⟩
      have hqw : w.heap.size ≤ q := Nat.le_trans (Nat.le_trans hB4.size hB8.size) hq9
      have hBw := Below.step hB4 hB9
      clear hx4 hy4 hz4 hf4 hp8 hB8 hb9 hB9 hB4 hI hx9 hp9 hq9
      obtain ⟨d, P, T, rfl, eP, KO⟩ := R.keptOf
      rw [eP] at hg9 ⊢
      clear eP R HB Elo Ehi
      generalize kept ((xs.take hi).drop lo) (d + 8) P = K at *
      generalize (xs.take hi).drop lo = F at *
      obtain ⟨cf, hcf⟩ : ∃ cf, cf = m - lo := ⟨_, rfl⟩
      have hNc : hi - lo ≤ cf := by omega
      have hNm : hi - lo ≤ 1048576 := by omega
      rw [← hcf]
      clear hcf
      generalize hi - lo = N at *
      obtain ⟨rfl⟩ : N = P + T := by rw [← hFl, KO.flen]
      rw [KO.len]
      obtain ⟨bf, offf, rfl, -⟩ := hf9 0 (by have := KO.lt; omega)
      have hlt := KO.lt
      have hcd : w9.cell? ⟨q, d, none⟩ = some (.int .u8 58) := by
        obtain ⟨b, off, e, h⟩ := hg9 d (by rw [KO.len]; omega)
        simp at e; obtain ⟨rfl, rfl⟩ := e
        rw [KO.sep, Nat.zero_add] at h; exact h
      have hcl : w9.cell? ⟨bf, offf + (P - 1), none⟩ = some (.int .u8 59) := by
        obtain ⟨b, off, e, h⟩ := hf9 (P - 1) (by rw [KO.flen]; omega)
        simp at e; obtain ⟨rfl, rfl⟩ := e
        rw [KO.last] at h; exact h
      have hc0 : w9.cell? ⟨q, 0, none⟩ = some (.int .u8 (K.getD 0 0)) := by
        obtain ⟨b, off, e, h⟩ := hg9 0 (by rw [KO.len]; omega)
        simp at e; obtain ⟨rfl, rfl⟩ := e
        exact h
      generalize K.getD 0 0 = v0 at *
      go_wp2_with fail
      refine (indexByte_is _ (P + T) cf F 58 ((d + 8 : Nat) : Int) w9 KO.flen (by omega) hf9 KO.col).mono ?_
      rintro e w' ⟨rfl, hww⟩
      have hw2 := hww.symm
      subst hw2
      have hvN : View .u8 w9 (some ⟨bf, offf + 8, none⟩) (K.take d) := by rw [KO.name]; exact (hf9.take (hi := d + 8)).at
      have hvK : View .u8 w9 (some ⟨q, 0, none⟩) (K.take d) := hg9.take
      have hlN : (K.take d).length = d := by rw [List.length_take, KO.len]; omega
      have hs1 : (d : Int) ≤ ((d + 1 + T : Nat) : Int) := by omega
      have hs2 : (8 : Int) ≤ (d : Int) + 8 := by omega
      have hs3 : (d : Int) + 8 ≤ (cf : Int) := by omega
      have hs4 : (d : Int) < ((d + 1 + T : Nat) : Int) := by omega
      have hs5 : ¬ cf = 8 := by omega
      go_wp2_with fail
      go_quiet ((go_at_call 21; go_loud (exact Calls.quiet_of (same_is _ _ _ _ _ _ (K.take d) _ (by omega) (by omega) (by omega) (hvK.drewN _) (hvN.drewN _)))))
      have hcl2 : w9.cell? ⟨bf, offf + (d + 8 + 1) + (P - (d + 8 + 1) - 1), none⟩ = some (.int .u8 59) := by
        rw [show offf + (d + 8 + 1) + (P - (d + 8 + 1) - 1) = offf + (P - 1) from by omega]; exact hcl
      have hpd : ¬ P - (d + 8 + 1) = 0 := by omega
      clear hvN hvK hlN hcl hs1 hs2 hs3 hs4 hs5
      have hvF : View .u8 w9 (some ⟨bf, offf + P, none⟩) (F.drop P) := hf9.at
      have hvT : View .u8 w9 (some ⟨q, d + 1, none⟩) (F.drop P) := by rw [← KO.tail]; have := hg9.at (lo := d + 1); rw [Nat.zero_add] at this; exact this
      have hlM : ((F.take P).drop (d + 8 + 1)).length = P - (d + 8 + 1) := by rw [List.length_drop, List.length_take, KO.flen]; omega
      have hvM : View .u8 w9 (some ⟨bf, offf + (d + 8 + 1), none⟩) ((F.take P).drop (d + 8 + 1)) := (hf9.take (hi := P)).at
      go_wp2_with fail
      all_goals
        refine (cnt_is _ _ _ ((F.take P).drop (d + 8 + 1)) 59 2 _ hlM (by omega) (hvM.drewN _) KO.mid).mono ?_
        rintro e w' ⟨rfl, hww⟩
        have hw2 := hww.symm
        subst hw2
        go_wp2_with fail
      all_goals
        refine (same_is _ _ _ _ _ _ (F.drop P) _ (by rw [List.length_drop, KO.flen]; omega) (by rw [List.length_drop, KO.flen]; omega) (by omega) ?_ ?_).mono ?_
        · first | exact hvF.drewN _ | exact View.from0 (by rw [KO.flen]; omega)
        · first | exact hvT.drewN _ | exact View.from0 (by rw [KO.flen]; omega)
        rintro e w' ⟨rfl, q2, rfl⟩
        go_wp2_with fail
      all_goals
        refine (same_is _ _ _ _ _ _ xs _ hxl hxl (by omega) (View.other (w := w9.drewN (nq + q2)) hqp _) (View.other (w := w9.drewN (nq + q2)) hqx _)).mono ?_
        rintro e w' ⟨rfl, q3, rfl⟩
        go_wp2
        go_ret
        exact ⟨rfl, below_drewN ((below_drewN hBw _).setCell hqw _) _⟩
end
end Go.Proofs.Qxb6608861a

import Derived.Test.Qxb6608861aTwoA
namespace Go.Proofs.Qxb6608861a
open Go.RowKit
set_option linter.unusedVariables false
set_option maxRecDepth 100000
set_option maxHeartbeats 1000000

/-- Where field k is placed it is a record. -/
def PriorAt (xs es ws : List Int) (k : Nat) : Prop := ∀ lo hi : Nat, lastOr 0 es k = (lo : Int) → es.getD k 0 = (hi : Int) → bitB ws k = true → isPrior ((xs.take hi).drop lo) = true

section
variable (a0 : Option Addr) (m ca : Nat) (a1 : Option Addr) (n cb : Nat) (a2 : Option Addr) (l cl : Nat) (xs es ws : List Int) (w : World)

theorem two_main (hxl : xs.length = m) (hel : es.length = n) (hwl : ws.length = l) (hca : m ≤ ca) (h : m + n + l ≤ 1048576) (h1 : n ≤ 262144) (h2 : l ≤ 131072) (h3 : m + 4 * n + 8 * l ≤ 1048576)
    (hx : View .u8 w a0 xs) (hy : View .u32 w a1 es) (hz : View .u64 w a2 ws) (hb : Byt xs) (hr : ∀ x ∈ ws, 0 ≤ x ∧ x ≤ 18446744073709551615) (he : endsOK m 0 es = true) :
    Calls Try.prog 6 #[.slice a0 m ca, .slice a1 n cb, .slice a2 l cl] w fun e w' => e = .returned (.bool true) ∧ Below w.heap.size w w' := by
  have hE := endsOK_is a0 a1 m ca n cb es true w hel (by omega) (by omega) hy he
  have hF := ends_field m es he
  have HF : Hid _ := hF
  clear he hF
  go_enter Try.func6, Try.ntmps6
  go_wp2_with (first | (go_at_call 24; refine (bytes24_any _ _ _ _ _ _ _ _ _ _ h).mono ?_; rintro e w' ⟨rfl, hww⟩; (have hw2 := hww.symm); subst hw2) | (go_at_call 12; refine hE.mono ?_; rintro e w' ⟨rfl, hww⟩; (have hw2 := hww.symm); subst hw2))
  clear hE
  refine (clone13_any a0 m ca xs w hxl (by omega) (hx.hz hxl) hx).mono ?_
  rintro e w1 ⟨b0, rfl, hx1, hb1⟩
  go_wp2_with fail
  refine (clone14_any a1 n cb es w1 hel (by omega) (hy.hz hel) (hy.below hb1)).mono ?_
  rintro e w2 ⟨b1, rfl, hy2, hb2⟩
  have hx2 := hx1.below hb2
  have hB2 := Below.step hb1 hb2
  clear hx1 hb1 hb2
  go_wp2_with fail
  refine (clone15_any a2 l cl ws w2 hwl (by omega) (hz.hz hwl) (hz.below hB2)).mono ?_
  rintro e w3 ⟨b2, rfl, hz3, hb3⟩
  have hx3 := hx2.below hb3
  have hy3 := hy2.below hb3
  have hB3 := Below.step hB2 hb3
  clear hx2 hy2 hb3 hB2 hx hy hz
  go_wp2_with fail
  go_loopw [8] (fun i wr => ∃ k : Nat, k ≤ n ∧ i = .int .i64 k ∧ Hid (∀ j, j < k → PriorAt xs es ws j) ∧ Below w3.heap.size w3 wr) (fun i _ => n - (intOf i).toNat)
  case atStart => exact ⟨0, Nat.zero_le _, rfl, fun j hj => by omega, Below.refl _ _⟩
  case round =>
    obtain ⟨k, hk, rfl, hno, hbl⟩ := hrel
    by_cases hlt : k < n
    · cases hbit : bitB ws k with
      | false =>
        have HB : Hid _ := hbit
        clear hbit
        go_wp2_with (go_at_call 17; refine (bit_is b2 l l k ws false wr hwl (by omega) (by omega) hr (hz3.below hbl) HB.out).mono ?_; rintro e w' ⟨rfl, hww⟩; (have hw2 := hww.symm); subst hw2)
        go_roundw
        case rel =>
          refine ⟨k + 1, by omega, by go_num, fun j hj => ?_, hbl⟩
          by_cases e : j = k
          · subst e; intro lo hi _ _ hbt; rw [HB.out] at hbt; simp at hbt
          · exact hno.out j (by omega)
        case measure => simp [intOf]; omega
      | true =>
        have HB : Hid _ := hbit
        clear hbit
        obtain ⟨lo, hi, elo, ehi, hlh, hhm⟩ := HF.out k (by omega)
        have Elo : Hid _ := elo
        have Ehi : Hid _ := ehi
        clear elo ehi
        have hFl : ((xs.take hi).drop lo).length = hi - lo := by simp; omega
        go_wp2_with (first | (go_at_call 17; refine (bit_is b2 l l k ws true wr hwl (by omega) (by omega) hr (hz3.below hbl) HB.out).mono ?_; rintro e w' ⟨rfl, hww⟩; (have hw2 := hww.symm); subst hw2) | (go_at_call 16; refine (fieldAt_any b0 b1 m m n n k lo hi xs es wr hxl hel (by omega) (by omega) (Nat.le_refl _) hlt (hx3.below hbl) (hy3.below hbl) Elo.out Ehi.out hlh hhm).mono ?_; rintro e w' ⟨⟨af, rfl, hf⟩, hww⟩; (have hw2 := hww.symm); subst hw2))
        cases hpr : isPrior ((xs.take hi).drop lo) with
        | false =>
          refine (isPrior_is af (hi - lo) (m - lo) ((xs.take hi).drop lo) false wr hFl (by omega) (by omega) hf hpr).mono ?_
          rintro e w4 ⟨rfl, hb4⟩
          clear hpr
          go_wp2
          go_ret
          exact ⟨rfl, Below.step hB3 (Below.step hbl hb4)⟩
        | true =>
          refine (isPrior_is af (hi - lo) (m - lo) ((xs.take hi).drop lo) true wr hFl (by omega) (by omega) hf hpr).mono ?_
          rintro e w4 ⟨rfl, hb4⟩
          have HP : Hid _ := hpr
          clear hpr
          go_wp2
          go_roundw
          case rel =>
            refine ⟨k + 1, by omega, by go_num, fun j hj => ?_, Below.step hbl hb4⟩
            by_cases e : j = k
            · subst e
              intro lo' hi' e1 e2 _
              have g1 := Elo.out
              have g2 := Ehi.out
              obtain rfl : lo' = lo := by omega
              obtain rfl : hi' = hi := by omega
              exact HP.out
            · exact hno.out j (by omega)
          case measure => simp [intOf]; omega
    · have hno' : ∀ j, j < n → PriorAt xs es ws j := fun j hj => hno.out j (by omega)
      have HN : Hid _ := hno'
      clear hno' hno
      have hx4 := hx3.below hbl
      have hy4 := hy3.below hbl
      have hz4 := hz3.below hbl
      have hB4 := Below.step hB3 hbl
      clear hx3 hy3 hz3 hB3 hbl
      go_wp2_with fail
      refine (clone13_any b0 m m xs wr hxl (by omega) (hx4.hz hxl) hx4).mono ?_
      rintro e w5 ⟨p0, rfl, hp5, hb5⟩
      go_wp2_with fail
      refine (clone14_any b1 n n es w5 hel (by omega) (hy4.hz hel) (hy4.below hb5)).mono ?_
      rintro e w6 ⟨p1, rfl, hq6, hb6⟩
      have hB6 := Below.step hb5 hb6
      have hp6 := hp5.below hb6
      clear hp5 hb5 hb6
      go_wp2_with fail
      refine (clone15_any b2 l l ws w6 hwl (by omega) (hz4.hz hwl) (hz4.below hB6)).mono ?_
      rintro e w7 ⟨p2, rfl, hr7, hb7⟩
      have hB7 := Below.step hB6 hb7
      have hp7 := hp6.below hb7
      have hq7 := hq6.below hb7
      clear hp6 hq6 hB6 hb7
      go_wp2_with fail
      refine (newIdx_any p0 p1 p2 m m n n l l xs es ws w7 hxl hel hwl (Nat.le_refl _) hp7 hq7 hr7).mono ?_
      rintro e w8 ⟨g, rfl, hI, hb8⟩
      have hB8 := Below.step hB7 hb8
      have hp8 := hp7.below hb8
      clear hp7 hq7 hr7 hB7 hb8
      go_wp2_with fail
      refine (clone14_any b1 n n es w8 hel (by omega) (hy4.hz hel) (hy4.below hB8)).mono ?_
      rintro e w9 ⟨p3, rfl, hq9, hb9⟩
      have hB9 := Below.step hB8 hb9
      have hp9 := hp8.below hb9
      have hI9 := hI.below hb9
      clear hI hB8 hp8 hb9
      go_wp2_with fail
      refine (newIdx_any p0 p3 none m m n n 0 0 xs es [] w9 hxl hel rfl (Nat.le_refl _) hp9 hq9 (View.nil _ _ _)).mono ?_
      rintro e wS ⟨g2, rfl, hJ, hb10⟩
      have hBS := Below.step hB9 hb10
      have hIS := hI9.below hb10
      have hxS := hx4.below hBS
      have hyS := hy4.below hBS
      have hzS := hz4.below hBS
      have hBw := Below.step hB4 hBS
      clear hI9 hB9 hp9 hq9 hb10 hx4 hy4 hz4 hB4 hBS
      go_wp2_with fail
      go_loopw [12] (fun i wr => ∃ k : Nat, k ≤ n ∧ i = .int .i64 k ∧ Below wS.heap.size wS wr) (fun i _ => n - (intOf i).toNat)
      case atStart => exact ⟨0, Nat.zero_le _, rfl, Below.refl _ _⟩
      case round =>
        obtain ⟨k, hk, rfl, hbl⟩ := hrel
        by_cases hlt : k < n
        · obtain ⟨lo, hi, elo, ehi, hlh, hhm⟩ := HF.out k (by omega)
          have Elo : Hid _ := elo
          have Ehi : Hid _ := ehi
          have hPr := HN.out k hlt lo hi elo ehi
          have HPr : Hid _ := hPr
          clear elo ehi hPr
          have hFl : ((xs.take hi).drop lo).length = hi - lo := by simp; omega
          have hx0 := hxS.below hbl
          have hy0 := hyS.below hbl
          have hz0 := hzS.below hbl
          have hI0 := hIS.below hbl
          have hJ0 := hJ.below hbl
          clear hxS hyS hzS hIS hJ
          go_wp2_with fail
          refine (fieldAt_any b0 b1 m m n n k lo hi xs es _ hxl hel (by omega) (by omega) (Nat.le_refl _) hlt hx0 hy0 Elo.out Ehi.out hlh hhm).mono ?_
          rintro e w' ⟨⟨af, rfl, hf⟩, hww⟩
          have hw2 := hww.symm
          subst hw2
          go_wp2_with fail
          cases hbit : bitB ws k with
          | false =>
            have HB : Hid _ := hbit
            clear hbit
            refine (call_plain g k lo hi xs es ws _ hI0 ⟨by omega, by omega, by omega, hr, hb⟩ (by omega) Elo.out Ehi.out hlh (by omega) HB.out).mono ?_
            rintro e v1 ⟨ag, rfl, hg1, hc1⟩
            go_wp2_with fail
            refine (call_plain g2 k lo hi xs es [] _ (hJ0.below hc1) ⟨by omega, by omega, by simp, fun x hx => by simp at hx, hb⟩ (by omega) Elo.out Ehi.out hlh (by omega) (by simp [bitB])).mono ?_
            rintro e v2 ⟨ah, rfl, hh2, hc2⟩
            have hC2 := Below.step hc1 hc2
            go_wp2_with fail
            refine (same_is ah af (hi - lo) (hi - lo) (hi - lo) (m - lo) ((xs.take hi).drop lo) v2 hFl hFl (by omega) hh2 (hf.below hC2)).mono ?_
            rintro e w' ⟨rfl, q2, rfl⟩
            go_wp2_with fail
            refine (bit_is b2 l l k ws false _ hwl (by omega) (by omega) hr ((hz0.below hC2).drewN _) HB.out).mono ?_
            rintro e w' ⟨rfl, hww⟩
            have hw2 := hww.symm
            subst hw2
            go_wp2_with fail
            refine (same_is ag ah (hi - lo) (hi - lo) (hi - lo) (hi - lo) ((xs.take hi).drop lo) _ hFl hFl (by omega) ((hg1.below hc2).drewN _) (hh2.drewN _)).mono ?_
            rintro e w' ⟨rfl, q3, rfl⟩
            go_wp2
            go_roundw
            case rel => exact ⟨k + 1, by omega, by go_num, below_drewN (Below.step hbl hC2) _⟩
            case measure => simp [intOf]; omega
          | true =>
            have HB : Hid _ := hbit
            obtain ⟨c, i1, i2, R⟩ := rec_of_prior _ (HPr.out hbit)
            clear hbit HPr
            refine (call_placed g k lo hi c i1 i2 xs es ws _ hI0 ⟨by omega, by omega, by omega, hr, hb⟩ (by omega) Elo.out Ehi.out hlh (by omega) HB.out R).mono ?_
            rintro e v1 ⟨q, rfl, hq1, hg1, hfz1, hc1⟩
            go_wp2_with fail
            refine (call_plain g2 k lo hi xs es [] _ (hJ0.below hc1) ⟨by omega, by omega, by simp, fun x hx => by simp at hx, hb⟩ (by omega) Elo.out Ehi.out hlh (by omega) (by simp [bitB])).mono ?_
            rintro e v2 ⟨ah, rfl, hh2, hc2⟩
            have hC2 := Below.step hc1 hc2
            have hg2 := hg1.below hc2
            go_wp2_with fail
            refine (same_is ah af (hi - lo) (hi - lo) (hi - lo) (m - lo) ((xs.take hi).drop lo) v2 hFl hFl (by omega) hh2 (hf.below hC2)).mono ?_
            rintro e w' ⟨rfl, q2, rfl⟩
            go_wp2_with fail
            refine (bit_is b2 l l k ws true _ hwl (by omega) (by omega) hr ((hz0.below hC2).drewN _) HB.out).mono ?_
            rintro e w' ⟨rfl, hww⟩
            have hw2 := hww.symm
            subst hw2
            have hBr0 := below_drewN (Below.step hbl hC2) q2
            obtain ⟨d, P, T, rfl, eP, KO⟩ := R.keptOf
            rw [eP] at hg2 ⊢
            have hg20 := hg2.drewN q2
            have hh20 := hh2.drewN q2
            clear hg2 hh2
            generalize v2.drewN q2 = v3 at *
            have hg2 := hg20
            have hh2 := hh20
            have hBr := hBr0
            clear hg20 hh20 hBr0
            clear eP R HB Elo Ehi hg1 hc1 hc2 hC2 hI0 hJ0 hx0 hy0 hz0 hfz1 hq1 hf HF HN hbl
            generalize kept ((xs.take hi).drop lo) (d + 8) P = K at *
            generalize (xs.take hi).drop lo = F at *
            obtain ⟨cf, hcf⟩ : ∃ cf, cf = m - lo := ⟨_, rfl⟩
            have hNm : hi - lo ≤ 1048576 := by omega
            rw [← hcf]
            clear hcf
            generalize hi - lo = N at *
            obtain ⟨rfl⟩ : N = P + T := by rw [← hFl, KO.flen]
            rw [KO.len]
            obtain ⟨bf, offf, rfl, -⟩ := hh2 0 (by have := KO.lt; omega)
            have hlt2 := KO.lt
            have hcd : v3.cell? ⟨bf, offf + (8 + d), none⟩ = some (.int .u8 58) := by
              obtain ⟨b, off, e, h⟩ := hh2 (8 + d) (by rw [KO.flen]; omega)
              simp at e; obtain ⟨rfl, rfl⟩ := e
              rw [show 8 + d = d + 8 from by omega, KO.sep8] at h
              rw [show 8 + d = d + 8 from by omega]; exact h
            have hvN : View .u8 v3 (some ⟨bf, offf + 8, none⟩) (K.take d) := by rw [KO.name]; exact (hh2.take (hi := d + 8)).at
            have hvK : View .u8 v3 (some ⟨q, 0, none⟩) (K.take d) := hg2.take
            have hlN : (K.take d).length = d := by rw [List.length_take, KO.len]; omega
            have hvF : View .u8 v3 (some ⟨bf, offf + P, none⟩) (F.drop P) := hh2.at
            have hvT : View .u8 v3 (some ⟨q, d + 1, none⟩) (F.drop P) := by rw [← KO.tail]; have := hg2.at (lo := d + 1); rw [Nat.zero_add] at this; exact this
            have hs1 : (d : Int) ≤ ((d + 1 + T : Nat) : Int) := by omega
            have hs2 : (8 : Int) ≤ 8 + (d : Int) := by omega
            have hs3 : 8 + (d : Int) ≤ ((P + T : Nat) : Int) := by omega
            have hs4 : 8 + (d : Int) < ((P + T : Nat) : Int) := by omega
            have hs5 : ¬ P + T = 8 := by omega
            go_wp2_with fail
            refine (indexByte_is _ _ _ K 58 (d : Int) _ KO.len (by omega) hg2 KO.colon).mono ?_
            rintro e w' ⟨rfl, hww⟩
            have hw2 := hww.symm
            subst hw2
            go_wp2_with fail
            go_quiet ((go_at_call 21; exact Calls.quiet_of (same_is _ _ _ _ _ _ (K.take d) _ (by omega) (by omega) (by omega) (hvN.drewN _) (hvK.drewN _))))
            clear hvN hvK hlN hs1 hs2 hs3 hs4 hs5 hcd
            go_wp2_with fail
            all_goals
              refine (same_is _ _ _ _ _ _ (F.drop P) _ (by rw [List.length_drop, KO.flen]; omega) (by rw [List.length_drop, KO.flen]; omega) (by omega) ?_ ?_).mono ?_
              · first | exact hvF.drewN _ | exact View.from0 (by rw [KO.flen]; omega)
              · first | exact hvT.drewN _ | exact View.from0 (by rw [KO.flen]; omega)
              rintro e w' ⟨rfl, q4, rfl⟩
              go_wp2
              go_roundw
              case rel => exact ⟨k + 1, by omega, by go_num, below_drewN hBr _⟩
              case measure => simp [intOf]; omega
        · go_wp2
          go_ret
          exact ⟨rfl, Below.step hBw hbl⟩
end
end Go.Proofs.Qxb6608861a

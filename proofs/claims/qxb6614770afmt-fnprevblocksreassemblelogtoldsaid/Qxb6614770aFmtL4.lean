import Derived.Test.Qxb6614770aFmtL3b
namespace Go.Proofs.Qxb6614770aFmt
open Go.RowKit
set_option linter.unusedVariables false

set_option maxHeartbeats 2000000 in
set_option maxRecDepth 100000 in
theorem law4_far (a : Option Addr) (n c : Nat) (w : World) (hM : n ≤ maxLen) (h : 1048576 < n) :
    Calls Tryf.prog 4 #[.slice a n c] w fun e w' => e = .returned (.bool true) ∧ Below w.heap.size w w' := by
  go_enter Tryf.func4, Tryf.ntmps4
  go_wp2_with (go_at_call 11; refine (bytes4_far a n c _ (by omega) hM).mono ?_; rintro e w' ⟨rfl, hww⟩; have hw2 := hww.symm; subst hw2)
  go_ret
  exact ⟨rfl, Below.refl _ _⟩

set_option maxHeartbeats 2000000 in
set_option maxRecDepth 100000 in
theorem law4_main (a : Option Addr) (n c : Nat) (D : List Int) (te : TypeId) (ev : Value) (w : World) (hl : D.length = n) (hn : n ≤ 1048576) (ha : a = none → c = 0) (hb : Byt D) (hx : View .u8 w a D) (he : w.cell? ⟨0, 0, none⟩ = some (.iface te ev)) :
    Calls Tryf.prog 4 #[.slice a n c] w fun e w' => e = .returned (.bool true) ∧ Below w.heap.size w w' := by
  have hL : 1 ≤ w.heap.size := by have := block_lt_of_cell he; simp at this; omega
  have HE : Hid _ := he
  have HL : Hid _ := hl
  clear he hl
  go_enter Tryf.func4, Tryf.ntmps4
  go_wp2_with fail
  refine (bytes4_any a n c _ (by omega)).mono ?_
  rintro e w' ⟨rfl, hww⟩
  have hw2 := hww.symm
  subst hw2
  clear hww
  go_wp2_with fail
  refine (clone_any a n c D _ HL.out (by omega) ha hx).mono ?_
  rintro e W1 ⟨a', rfl, v1, hdd, b1⟩
  have HDD : Hid _ := hdd
  clear hdd
  go_wp2_with fail
  refine (lineEnd_any a' n n D _ HL.out (by omega) v1).mono ?_
  rintro e w' ⟨le, rfl, hle, hww⟩
  have hw2 := hww.symm
  subst hw2
  clear hww
  go_wp2_with fail
  refine (znew_any n w.heap.size a' D _ v1 HL.out (by omega) (fun h0 => by obtain ⟨dd, e1, _⟩ := HDD.out h0; exact ⟨dd, e1⟩) b1.size).mono ?_
  rintro e W2 ⟨g, q, rfl, R2, b12⟩
  have b2 := b1.trans b12
  go_wp2
  obtain ⟨lim, hlim, hlim2⟩ : ∃ lim : Nat, (n : Int) / 65536 + 2 = (lim : Int) ∧ lim = n / 65536 + 2 := ⟨n / 65536 + 2, by omega, rfl⟩
  rw [hlim]
  have hlb : lim ≤ 100 := by omega
  have HLIM : Hid _ := hlim2
  clear hlim hlim2
  go_loopw [6, 8, 9] (fun v6 v8 v9 wr => ∃ e s k calls : Nat, ∃ fin : Bool, v6 = .int .i64 e ∧ v8 = .bool fin ∧ v9 = .int .i64 calls ∧ calls ≤ lim + 1 ∧ Hid (s + k = e) ∧ Hid (Rv wr w.heap.size g q a' n s k D) ∧ Hid (NoNl D s e) ∧ Hid (0 < e → e = n ∨ D.getD (e - 1) 0 = 10) ∧ Hid (if fin then e = 0 else calls + (s + 65535) / 65536 + (if 0 < e then 1 else 0) ≤ lim) ∧ Hid (Below w.heap.size w wr)) (fun _ _ v9 _ => lim + 1 - (intOf v9).toNat)
  case atStart =>
    refine ⟨n, n, 0, 0, false, rfl, rfl, by simp, by omega, rfl, R2, fun j h1 h2 => by omega, fun _ => .inl rfl, ?_, b2⟩
    have := HLIM.out
    show _ ≤ _
    split <;> omega
  case round =>
    obtain ⟨e, s, k, calls, fin, rfl, rfl, rfl, hcl, HSK, HR, HNO, HEN, HC, HB⟩ := hrel
    have hcI : (calls : Int) ≤ 101 := by omega
    have e0 := (HB.out.cell (p := ⟨0, 0, none⟩) (show 0 < w.heap.size from hL)).trans HE.out
    cases fin with
    | true =>
      have he0 : e = 0 := HC.out
      subst he0
      have hsk := HSK.out
      obtain rfl : s = 0 := by omega
      obtain rfl : k = 0 := by omega
      by_cases hcc : (calls : Int) ≤ (lim : Int)
      · go_wp2_with (go_at_call 9; refine (zp_eof w.heap.size g q n a' D _ _ HR.out hb hL e0).mono ?_; rintro e W3 ⟨rfl, R3, b3⟩)
        go_ret
        exact ⟨rfl, HB.out.trans b3⟩
      · go_wp2_with (go_at_call 9; refine (zp_eof w.heap.size g q n a' D _ _ HR.out hb hL e0).mono ?_; rintro e W3 ⟨rfl, R3, b3⟩)
        go_ret
        exact ⟨rfl, HB.out.trans b3⟩
    | false =>
      have hc2 : calls + (s + 65535) / 65536 + (if 0 < e then 1 else 0) ≤ lim := HC.out
      have hcc : (calls : Int) ≤ (lim : Int) := by omega
      have HC2 : Hid _ := hc2
      clear hc2
      go_wp2_with fail
      refine (zprev_any w.heap.size g q n s k e a' D _ _ HR.out hb HSK.out HNO.out hL e0).mono ?_
      rintro x W3 ⟨b3, ⟨h1, rfl, R3⟩ | ⟨a3, c3, o, m, hom, hm, rfl, v3, hcase⟩⟩
      · subst h1
        go_wp2
        refine ⟨⟨0, 0, 0, calls + 1, true, by simp, rfl, by simp, by omega, rfl, R3, fun j _ h => by omega, fun h => by omega, rfl, HB.out.trans b3⟩, ?_⟩
        simp [intOf]; omega
      · have hskn := HR.out.he
        have hsk := HSK.out
        obtain ⟨dd, rfl, hdd⟩ := HDD.out (by omega)
        have hv3 : View .u8 W3 (some ⟨dd, 0, none⟩) D := by
          rcases hcase with ⟨_, R3, _⟩ | ⟨_, _, s', k', _, _, R3, _⟩
          · exact R3.hD
          · exact R3.hD
        have hvs := (hv3.at (lo := o)).take (hi := m)
        rw [Nat.zero_add] at hvs
        have hbb : e ≤ n := by omega
        have hi1 : (o : Int) ≤ (e : Int) := by omega
        have hi2 : (e : Int) ≤ (n : Int) := by omega
        have hi3 : ¬ n = o := by omega
        have hm0 : ¬ m = 0 := by omega
        have hi5 : (o : Int) ≤ 1048576 := by omega
        have hi7 : ¬ ((m : Int) ≤ 0) := by omega
        have hiB : ¬ ((e : Int) ≤ (o : Int)) := by omega
        have hiC : ((m : Int) == 0) = false := by simp; omega
        have hiD : ¬ ((o : Int) < 0) := by omega
        have hiF : (e : Int) - (o : Int) = (m : Int) := by omega
        have hiG : e - o = m := by omega
        have b03 := HB.out.trans b3
        have T : Hid _ := same_w a3 (some ⟨dd, o, none⟩) m c3 (n - o) _ W3 (by have := HL.out; simp; omega) (by omega) v3 hvs
        have HCASE : Hid _ := hcase
        have HOM : Hid _ := hom
        clear hcase hsk hom
        by_cases ho : o = 0
        · subst ho
          have hem : e = m := by have := HOM.out; omega
          subst hem
          rcases HCASE.out with ⟨_, R3, hno0⟩ | ⟨h0, _⟩
          rotate_left
          · omega
          have hlm : le = e := hle.unique (le_of hm (by have := HL.out; omega) hno0 (by
            have h := HEN.out (by omega)
            have := HL.out
            rcases h with h | h
            · exact .inl (by omega)
            · exact .inr h))
          subst hlm
          clear hno0 HCASE
          rw [Nat.sub_zero] at T
          go_wp2_with fail
          refine Calls.mono T.out ?_
          clear T
          rintro x W4 ⟨rfl, h34, b34⟩
          have b4 := b34 _ _ b03
          have R4 := R3.of_heap h34
          clear h34 b34
          go_wp2
          refine ⟨⟨0, 0, 0, calls + 1, false, by simp, rfl, by simp, by omega, rfl, R4, fun j _ h => by omega, fun h => by omega, ?_, b4⟩, ?_⟩
          · have h := HC2.out
            rw [if_pos (by omega)] at h
            show _ ≤ _
            rw [if_neg (by omega)]
            omega
          · simp [intOf]; omega
        · obtain ⟨o', ho'⟩ : ∃ o', o = o' + 1 := ⟨o - 1, by omega⟩
          rcases HCASE.out with ⟨h0, _⟩ | ⟨_, h10, s', k', hsk', hk', R3, hno', hms⟩
          · omega
          rw [show o - 1 = o' from by omega] at h10
          obtain ⟨b9, o9, e9, cL⟩ := hv3 o' (by have := HL.out; omega)
          simp at e9
          obtain ⟨rfl, rfl⟩ := e9
          rw [Nat.zero_add, h10] at cL
          have hoo : (o : Int) - 1 = (o' : Int) := by omega
          have hio : (0 : Int) < (o : Int) := by omega
          have hiE : ((o : Int) == 0) = false := by simp; omega
          have hi6 : (o' : Int) < (n : Int) := by omega
          have HMS : Hid _ := hms
          have HSK' : Hid _ := hsk'
          have H10 : Hid _ := h10
          have HO : Hid _ := ho'
          clear hms hsk' h10 HCASE ho'
          go_wp2_with fail
          refine Calls.mono T.out ?_
          clear T
          rintro x W4 ⟨rfl, h34, b34⟩
          have b4 := b34 _ _ b03
          have R4 := R3.of_heap h34
          have cL4 := (World.cell?_of_block (a := ⟨dd, o', none⟩) (by rw [h34])).trans cL
          clear h34 b34 cL
          go_wp2
          refine ⟨⟨o, s', k', calls + 1, false, rfl, rfl, by simp, by omega, HSK'.out, R4, hno', fun _ => .inr (by rw [HO.out, Nat.add_sub_cancel]; exact H10.out), ?_, b4⟩, ?_⟩
          · have h := HC2.out
            have h2 := HMS.out
            rw [if_pos (by omega)] at h
            show _ ≤ _
            rw [if_pos (by omega)]
            omega
          · simp [intOf]; omega

end Go.Proofs.Qxb6614770aFmt

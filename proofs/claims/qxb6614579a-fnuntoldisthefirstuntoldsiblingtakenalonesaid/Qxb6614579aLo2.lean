import Derived.Test.Qxb6614579aLo
namespace Go.Proofs.Qxb6614579a
open Go.RowKit
set_option linter.unusedVariables false

theorem least_congr {p q : ByteArray → Prop} {r : Option ByteArray} (h : Least p r) (he : ∀ x, p x ↔ q x) : Least q r := by
  cases r with
  | none => exact fun k hk => h k ((he k).2 hk)
  | some m => exact ⟨(he m).1 h.1, fun k hk => h.2 k ((he k).2 hk)⟩

theorem ix_succ (ks : List ByteArray) (k : Nat) (y : ByteArray) (hy : ks.getD k ⟨#[]⟩ = y) (q : ByteArray → Prop) (x : ByteArray) : (((∃ j, j < k ∧ ks.getD j ⟨#[]⟩ = x) ∨ x = y) ∧ q x) ↔ ((∃ j, j < k + 1 ∧ ks.getD j ⟨#[]⟩ = x) ∧ q x) := by
  constructor
  · rintro ⟨⟨j, hj, e⟩ | rfl, hq⟩
    · exact ⟨⟨j, by omega, e⟩, hq⟩
    · exact ⟨⟨k, by omega, hy⟩, hq⟩
  · rintro ⟨⟨j, hj, e⟩, hq⟩
    refine ⟨?_, hq⟩
    rcases (by omega : j < k ∨ j = k) with h | rfl
    · exact .inl ⟨j, h, e⟩
    · exact .inr (by rw [← e, hy])

/-- What zzLeastOther leaves. -/
def LoPost (ks : List ByteArray) (kn : ByteArray → Bool) (s : ByteArray) (c : Nat) (w : World) (e : Ending) (w' : World) : Prop :=
  ∃ r : Option ByteArray, e = .returned (.tuple #[.string (r.getD ⟨#[]⟩), .bool r.isSome]) ∧ Least (fun x => (∃ j, j < c ∧ ks.getD j ⟨#[]⟩ = x) ∧ Fits kn s x) r ∧ w' = w

set_option maxHeartbeats 1000000 in
set_option maxRecDepth 100000 in
/-- zzLeastOther. -/
theorem leastOther_any (a a' b' : Option Addr) (n m l ca ca' cb : Nat) (ks kns : List ByteArray) (s : ByteArray) (c : Nat) (w : World) (hn : ks.length = n) (hc : min n m = c) (hl : n ≤ 1048576) (hx : SView w a ks) (hz : ∀ x ∈ ks, x.size ≤ maxLen) (hsz : s.size ≤ maxLen)
    (hkl : kns.length = l) (hkm : l ≤ 1048576) (hkx : SView w b' kns) :
    Calls Try.prog 32 #[.slice a n ca, .slice a' m ca', .string s, .slice b' l cb] w (LoPost ks (knF kns l) s c w) := by
  have H1 : Hid _ := min2_any n m c w hc
  have hcn : c ≤ n := by omega
  clear hc
  have HN : Hid _ := zzNodeOf_any s w hsz
  obtain ⟨nb, hnb⟩ : ∃ nb, nodeB s = nb := ⟨_, rfl⟩
  have HNB : Hid _ := hnb
  rw [hnb] at HN
  clear hnb
  go_enter Try.func32, Try.ntmps32
  go_wp2_with fail
  refine Calls.mono H1.out ?_
  clear H1
  rintro e w' ⟨rfl, hww⟩
  have hw2 := hww.symm
  subst hw2
  go_wp2
  go_loop [11, 12, 13] (fun f v i => ∃ k : Nat, k ≤ c ∧ i = .int .i64 k ∧ ∃ best : Option ByteArray, f = .bool best.isSome ∧ v = .string (best.getD ⟨#[]⟩) ∧ Hid (Least (fun x => (∃ j, j < k ∧ ks.getD j ⟨#[]⟩ = x) ∧ Fits (knF kns l) s x) best)) (fun _ _ i => c - (intOf i).toNat)
  case atStart => exact ⟨0, Nat.zero_le _, rfl, none, rfl, rfl, fun k h => by obtain ⟨⟨j, hj, _⟩, _⟩ := h; omega⟩
  case round =>
    obtain ⟨k, hk, rfl, best, rfl, rfl, HL⟩ := hrel
    by_cases hlt : k < c
    · obtain ⟨b, off, rfl, hc⟩ := hx k (by omega)
      have hmem : ks.getD k ⟨#[]⟩ ∈ ks := by
        rw [List.getD, List.getElem?_eq_getElem (by omega)]
        exact List.getElem_mem _
      have hys := hz _ hmem
      obtain ⟨y, hy⟩ : ∃ y, ks.getD k ⟨#[]⟩ = y := ⟨_, rfl⟩
      rw [hy] at hc hys
      have HY : Hid _ := hy
      have hkn : k < n := by omega
      clear hy hmem
      have HS := ix_succ ks k y HY.out (Fits (knF kns l) s)
      have HIX : Hid _ := HS
      clear HS
      by_cases hys2 : y = s
      · subst hys2
        go_wp2
        go_round
        case rel => exact ⟨k + 1, by omega, by go_num, best, rfl, rfl, least_congr (least_skip HL.out (fun h => h.1 rfl)) HIX.out⟩
        case measure => simp [intOf]; omega
      · have hb := ne_list hys2
        have HN2 : Hid _ := zzNodeOf_any y w hys
        go_wp2_with fail
        refine Calls.mono HN2.out ?_
        clear HN2
        rintro e w' ⟨rfl, hww⟩
        have hw2 := hww.symm
        subst hw2
        go_wp2_with fail
        refine Calls.mono HN.out ?_
        rintro e w' ⟨rfl, hww⟩
        have hw2 := hww.symm
        subst hw2
        by_cases hnd : nodeB y = nb
        · rw [hnd]
          have HND : Hid _ := hnd
          clear hnd
          have HI : Hid _ := in_any b' l cb kns y w hkl hkm hkx
          go_wp2_with fail
          refine Calls.mono HI.out ?_
          clear HI
          rintro e w' ⟨rfl, hww⟩
          have hw2 := hww.symm
          subst hw2
          cases hkk : knF kns l y with
          | true =>
            have HKK : Hid _ := hkk
            clear hkk
            go_wp2
            go_round
            case rel => exact ⟨k + 1, by omega, by go_num, best, rfl, rfl, least_congr (least_skip HL.out (fun h => by have h2 := h.2.2; rw [HKK.out] at h2; cases h2)) HIX.out⟩
            case measure => simp [intOf]; omega
          | false =>
            have HFIT : Hid (Fits (knF kns l) s y) := ⟨hys2, by rw [HND.out, HNB.out], hkk⟩
            clear hkk
            cases best with
            | none =>
              go_wp2
              go_round
              case rel => exact ⟨k + 1, by omega, by go_num, some y, rfl, rfl, least_congr (least_first HL.out HFIT.out) HIX.out⟩
              case measure => simp [intOf]; omega
            | some m =>
              cases hlm : Op.bytesLess y.toList m.toList with
              | true =>
                go_wp2
                go_round
                case rel => exact ⟨k + 1, by omega, by go_num, some y, rfl, rfl, least_congr (least_less HL.out HFIT.out hlm) HIX.out⟩
                case measure => simp [intOf]; omega
              | false =>
                go_wp2
                go_round
                case rel => exact ⟨k + 1, by omega, by go_num, some m, rfl, rfl, least_congr (least_keep HL.out hlm) HIX.out⟩
                case measure => simp [intOf]; omega
        · obtain ⟨kb, hkb⟩ : ∃ kb, nodeB y = kb := ⟨_, rfl⟩
          rw [hkb]
          have hbn := ne_list (show kb ≠ nb from fun e => hnd (hkb.trans e))
          have HND : Hid _ := hnd
          clear hnd hkb
          go_wp2
          go_round
          case rel => exact ⟨k + 1, by omega, by go_num, best, rfl, rfl, least_congr (least_skip HL.out (fun h => HND.out (by rw [← HNB.out]; exact h.2.1))) HIX.out⟩
          case measure => simp [intOf]; omega
    · obtain rfl : k = c := by omega
      go_wp2
      go_ret2
      exact ⟨best, rfl, HL.out, rfl⟩

end Go.Proofs.Qxb6614579a

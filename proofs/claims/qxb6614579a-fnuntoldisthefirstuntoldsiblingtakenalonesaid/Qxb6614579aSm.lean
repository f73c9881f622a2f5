import Derived.Test.Qxb6614579aPlain
namespace Go.Proofs.Qxb6614579a
open Go.RowKit
set_option linter.unusedVariables false

/-- The elements of a slice at 'a' read as the strings xs. -/
def SView (w : World) (a : Option Addr) (xs : List ByteArray) : Prop :=
  ∀ i, i < xs.length → ∃ b off, a = some ⟨b, off, none⟩ ∧ w.cell? ⟨b, off + i, none⟩ = some (.string (xs.getD i ⟨#[]⟩))

theorem SView.below {w w' : World} {a : Option Addr} {xs : List ByteArray} (h : SView w a xs) (hb : Frame [] w w') : SView w' a xs := by
  intro i hi
  obtain ⟨b, off, rfl, hc⟩ := h i hi
  exact ⟨b, off, rfl, hb.cell hc (by simp)⟩

theorem View.below0 {k : IntKind} {w w' : World} {a : Option Addr} {xs : List Int} (h : View k w a xs) (hb : Frame [] w w') : View k w' a xs :=
  h.frame hb (by simp)

theorem ne_list {a b : ByteArray} (h : a ≠ b) : (a.toList == b.toList) = false := by
  cases hc : (a.toList == b.toList) with
  | false => rfl
  | true =>
    have e := eq_of_beq hc
    rw [Go.ByteArray.toList_eq, Go.ByteArray.toList_eq] at e
    exact absurd (WideShapes.bytes_inj e) h

theorem min2_any (a b n : Nat) (w : World) (h : min a b = n) :
    Calls Try.prog 19 #[.int .i64 a, .int .i64 b] w fun e w' => e = .returned (.int .i64 n) ∧ w' = w := by
  by_cases hl : (a : Int) < (b : Int)
  · have HN : Hid (n = a) := by show n = a; omega
    clear h
    go_enter Try.func19, Try.ntmps19
    go_wp2
    go_ret
    exact ⟨by rw [HN.out]; rfl, rfl⟩
  · have HN : Hid (n = b) := by show n = b; omega
    clear h
    go_enter Try.func19, Try.ntmps19
    go_wp2
    go_ret
    exact ⟨by rw [HN.out]; rfl, rfl⟩

theorem min3_any (a b c n : Nat) (w : World) (h : min (min a b) c = n) :
    Calls Try.prog 35 #[.int .i64 a, .int .i64 b, .int .i64 c] w fun e w' => e = .returned (.int .i64 n) ∧ w' = w := by
  obtain ⟨m, hm⟩ : ∃ m, min a b = m := ⟨_, rfl⟩
  have H1 : Hid _ := min2_any a b m w hm
  have H2 : Hid _ := min2_any m c n w (by rw [← hm]; exact h)
  clear h hm
  go_enter Try.func35, Try.ntmps35
  go_wp2_with fail
  refine Calls.mono H1.out ?_
  rintro e w' ⟨rfl, hww⟩
  have hw2 := hww.symm
  subst hw2
  go_wp2_with fail
  refine Calls.mono H2.out ?_
  rintro e w' ⟨rfl, hww⟩
  have hw2 := hww.symm
  subst hw2
  go_wp2
  go_ret
  exact ⟨rfl, rfl⟩

set_option maxHeartbeats 400000 in
/-- zzIn. -/
theorem in_any (a : Option Addr) (n ca : Nat) (xs : List ByteArray) (s : ByteArray) (w : World) (hn : xs.length = n) (hm : n ≤ 1048576) (hx : SView w a xs) :
    Calls Try.prog 20 #[.slice a n ca, .string s] w fun e w' => e = .returned (.bool (knF xs n s)) ∧ w' = w := by
  go_enter Try.func20, Try.ntmps20
  go_wp2
  go_loop [5] (fun i => ∃ k : Nat, k ≤ n ∧ i = .int .i64 k ∧ Hid (knF xs k s = false)) (fun i => n - (intOf i).toNat)
  case atStart => exact ⟨0, Nat.zero_le _, rfl, rfl⟩
  case round =>
    obtain ⟨k, hk, rfl, hno⟩ := hrel
    by_cases hlt : k < n
    · obtain ⟨b, off, rfl, hc⟩ := hx k (by omega)
      obtain ⟨y, hy⟩ : ∃ y, xs.getD k ⟨#[]⟩ = y := ⟨_, rfl⟩
      rw [hy] at hc
      have HY : Hid _ := hy
      clear hy
      by_cases hys : y = s
      · subst hys
        go_wp2
        go_ret
        exact ⟨ret_bool (knF_stays xs y k HY.out n hlt).symm, rfl⟩
      · have hb := ne_list hys
        go_wp2
        go_round
        case rel =>
          refine ⟨k + 1, by omega, by go_num, ?_⟩
          show knF xs (k + 1) s = false
          rw [knF_succ, hno.out, HY.out]
          simp
          exact fun e => hys e.symm
        case measure => simp [intOf]; omega
    · obtain rfl : k = n := by omega
      go_wp2
      go_ret
      exact ⟨ret_bool hno.out.symm, rfl⟩

set_option maxHeartbeats 400000 in
/-- zzLookup. -/
theorem lookup_any (a a' : Option Addr) (n m ca ca' : Nat) (ks : List ByteArray) (vs : List Int) (s : ByteArray) (c : Nat) (w : World) (hn : ks.length = n) (hm : vs.length = m) (hc : min n m = c) (hl : n ≤ 1048576) (hx : SView w a ks) (hv : View .u64 w a' vs) :
    Calls Try.prog 25 #[.slice a n ca, .slice a' m ca', .string s] w fun e w' => e = .returned (.int .u64 ((verF ks vs c s).getD 0)) ∧ w' = w := by
  have H1 : Hid _ := min2_any n m c w hc
  have hcn : c ≤ n := by omega
  have hcm : c ≤ m := by omega
  clear hc
  go_enter Try.func25, Try.ntmps25
  go_wp2_with fail
  refine Calls.mono H1.out ?_
  rintro e w' ⟨rfl, hww⟩
  have hw2 := hww.symm
  subst hw2
  go_wp2
  go_loop [8, 9] (fun x i => ∃ k : Nat, k ≤ c ∧ i = .int .i64 k ∧ ∃ z, x = .int .u64 z ∧ Hid (z = (verF ks vs k s).getD 0)) (fun _ i => c - (intOf i).toNat)
  case atStart => exact ⟨0, Nat.zero_le _, rfl, 0, rfl, rfl⟩
  case round =>
    obtain ⟨k, hk, rfl, z, rfl, hno⟩ := hrel
    by_cases hlt : k < c
    · obtain ⟨b, off, rfl, hc⟩ := hx k (by omega)
      obtain ⟨b', off', rfl, hc'⟩ := hv k (by omega)
      obtain ⟨y, hy⟩ : ∃ y, ks.getD k ⟨#[]⟩ = y := ⟨_, rfl⟩
      obtain ⟨u, hu⟩ : ∃ u, vs.getD k 0 = u := ⟨_, rfl⟩
      rw [hy] at hc
      rw [hu] at hc'
      have HY : Hid _ := hy
      have HU : Hid _ := hu
      clear hy hu
      have hkn : k < n := by omega
      have hkm : k < m := by omega
      by_cases hys : y = s
      · subst hys
        go_wp2
        go_round
        case rel =>
          refine ⟨k + 1, by omega, by go_num, u, rfl, ?_⟩
          show u = (verF ks vs (k + 1) y).getD 0
          rw [verF_succ, HY.out, HU.out, if_pos rfl]
          rfl
        case measure => simp [intOf]; omega
      · have hb := ne_list hys
        go_wp2
        go_round
        case rel =>
          refine ⟨k + 1, by omega, by go_num, z, rfl, ?_⟩
          show z = (verF ks vs (k + 1) s).getD 0
          rw [verF_succ, HY.out, if_neg (fun e => hys e.symm)]
          exact hno.out
        case measure => simp [intOf]; omega
    · obtain rfl : k = c := by omega
      go_wp2
      go_ret
      exact ⟨ret_int hno.out, rfl⟩

/-- What zzHasFrom leaves. -/
def HasPost (fs : List ByteArray) (s : ByteArray) (c : Nat) (w : World) (e : Ending) (w' : World) : Prop :=
  ∃ r : Bool, e = .returned (.bool r) ∧ (r = false → ∀ j, j < c → fs.getD j ⟨#[]⟩ ≠ s) ∧ w' = w

set_option maxHeartbeats 400000 in
/-- zzHasFrom. -/
theorem hasFrom_any (a a' a'' : Option Addr) (n m l ca ca' ca'' : Nat) (fs : List ByteArray) (s : ByteArray) (c : Nat) (w : World) (hn : fs.length = n) (hc : min (min n m) l = c) (hl : n ≤ 1048576) (hx : SView w a fs) :
    Calls Try.prog 31 #[.slice a n ca, .slice a' m ca', .slice a'' l ca'', .string s] w (HasPost fs s c w) := by
  have H1 : Hid _ := min3_any n m l c w hc
  have hcn : c ≤ n := by omega
  clear hc
  go_enter Try.func31, Try.ntmps31
  go_wp2_with fail
  refine Calls.mono H1.out ?_
  rintro e w' ⟨rfl, hww⟩
  have hw2 := hww.symm
  subst hw2
  go_wp2
  go_loop [10] (fun i => ∃ k : Nat, k ≤ c ∧ i = .int .i64 k ∧ Hid (∀ j, j < k → fs.getD j ⟨#[]⟩ ≠ s)) (fun i => c - (intOf i).toNat)
  case atStart => exact ⟨0, Nat.zero_le _, rfl, fun j hj => by omega⟩
  case round =>
    obtain ⟨k, hk, rfl, hno⟩ := hrel
    by_cases hlt : k < c
    · obtain ⟨b, off, rfl, hc⟩ := hx k (by omega)
      obtain ⟨y, hy⟩ : ∃ y, fs.getD k ⟨#[]⟩ = y := ⟨_, rfl⟩
      rw [hy] at hc
      have HY : Hid _ := hy
      clear hy
      have hkn : k < n := by omega
      by_cases hys : y = s
      · subst hys
        go_wp2
        go_ret
        exact ⟨true, rfl, (fun h => by cases h), rfl⟩
      · have hb := ne_list hys
        go_wp2
        go_round
        case rel =>
          refine ⟨k + 1, by omega, by go_num, fun j hj => ?_⟩
          rcases (by omega : j < k ∨ j = k) with h1 | rfl
          · exact hno.out j h1
          · rw [HY.out]; exact hys
        case measure => simp [intOf]; omega
    · obtain rfl : k = c := by omega
      go_wp2
      go_ret
      exact ⟨false, rfl, fun _ => hno.out, rfl⟩

end Go.Proofs.Qxb6614579a

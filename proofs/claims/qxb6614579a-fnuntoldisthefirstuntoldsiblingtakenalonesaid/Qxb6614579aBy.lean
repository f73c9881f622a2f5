import Derived.Test.Qxb6614579aSm
namespace Go.Proofs.Qxb6614579a
open Go.RowKit
set_option linter.unusedVariables false

/-- A sum of bytes comes back, and nothing turns. -/
def SumPost (w : World) (e : Ending) (w' : World) : Prop := ∃ r : Int, e = .returned (.int .i64 r) ∧ 0 ≤ r ∧ r ≤ 2097152 ∧ w' = w

set_option maxHeartbeats 400000 in
/-- zzAddWords. -/
theorem addWords_any (a : Option Addr) (n ca : Nat) (t : Int) (w : World) (h0 : 0 ≤ t) (h1 : t ≤ 2097152) (hn : n ≤ 4096) :
    Calls Try.prog 34 #[.int .i64 t, .slice a n ca] w (SumPost w) := by
  by_cases ht : 1048576 < t
  · go_enter Try.func34, Try.ntmps34
    go_wp2
    go_ret
    exact ⟨1048577, rfl, by omega, by omega, rfl⟩
  · have hn2 : ¬ (4096 : Int) < (n : Int) := by omega
    have h8 : ∃ m : Int, 8 * (n : Int) = m ∧ 0 ≤ m ∧ m ≤ 32768 := ⟨_, rfl, by omega, by omega⟩
    obtain ⟨m, hm, hm0, hm1⟩ := h8
    go_enter Try.func34, Try.ntmps34
    go_wp2
    go_ret
    exact ⟨_, rfl, by omega, by omega, rfl⟩

set_option maxHeartbeats 1000000 in
/-- zzAddStrings. -/
theorem addStrings_any (a : Option Addr) (n ca : Nat) (xs : List ByteArray) (t : Int) (w : World) (h0 : 0 ≤ t) (h1 : t ≤ 2097152) (hn : n ≤ 4096) (hl : xs.length = n) (hx : SView w a xs) :
    Calls Try.prog 16 #[.int .i64 t, .slice a n ca] w (SumPost w) := by
  by_cases ht : 1048576 < t
  · go_enter Try.func16, Try.ntmps16
    go_wp2
    go_ret
    exact ⟨1048577, rfl, by omega, by omega, rfl⟩
  · have hn2 : ¬ (4096 : Int) < (n : Int) := by omega
    go_enter Try.func16, Try.ntmps16
    go_wp2
    go_loop [0, 5] (fun v i => ∃ k : Nat, k ≤ n ∧ i = .int .i64 k ∧ ∃ s : Int, v = .int .i64 s ∧ 0 ≤ s ∧ s ≤ 2097152) (fun _ i => n - (intOf i).toNat)
    case atStart => exact ⟨0, Nat.zero_le _, rfl, _, rfl, by omega, by omega⟩
    case round =>
      obtain ⟨k, hk, rfl, s, rfl, hs0, hs1⟩ := hrel
      by_cases hlt : k < n
      · obtain ⟨b, off, rfl, hc⟩ := hx k (by omega)
        obtain ⟨y, hy⟩ : ∃ y, xs.getD k ⟨#[]⟩ = y := ⟨_, rfl⟩
        rw [hy] at hc
        clear hy
        by_cases hs2 : 1048576 < s
        · go_wp2
          go_ret
          exact ⟨1048577, rfl, by omega, by omega, rfl⟩
        · by_cases hy2 : (1048576 : Int) < (y.size : Int)
          · go_wp2
            go_ret
            exact ⟨1048577, rfl, by omega, by omega, rfl⟩
          · go_wp2
            go_round
            case rel => exact ⟨k + 1, by omega, by go_num, _, rfl, by omega, by omega⟩
            case measure => simp [intOf]; omega
      · obtain rfl : k = n := by omega
        go_wp2
        go_ret
        exact ⟨s, rfl, by omega, by omega, rfl⟩

end Go.Proofs.Qxb6614579a

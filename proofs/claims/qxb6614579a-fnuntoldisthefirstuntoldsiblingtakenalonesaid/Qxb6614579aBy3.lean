import Derived.Test.Qxb6614579aBy2
namespace Go.Proofs.Qxb6614579a
open Go.RowKit
set_option linter.unusedVariables false

/-- A verdict comes back, and nothing turns. -/
def BoolPost (w : World) (e : Ending) (w' : World) : Prop := ∃ b : Bool, e = .returned (.bool b) ∧ w' = w

set_option maxHeartbeats 8000000 in
set_option maxRecDepth 100000 in
/-- zzBytes. -/
theorem bytes_any (a0 : Option Addr) (n0 c0 : Nat) (x0 : List ByteArray) (a1 : Option Addr) (n1 c1 : Nat) (a2 : Option Addr) (n2 c2 : Nat) (x2 : List ByteArray) (a3 : Option Addr) (n3 c3 : Nat) (a4 : Option Addr) (n4 c4 : Nat) (x4 : List ByteArray) (a5 : Option Addr) (n5 c5 : Nat) (a6 : Option Addr) (n6 c6 : Nat) (x6 : List ByteArray) (a7 : Option Addr) (n7 c7 : Nat) (a8 : Option Addr) (n8 c8 : Nat) (x8 : List ByteArray) (a9 : Option Addr) (n9 c9 : Nat) (x9 : List ByteArray) (a10 : Option Addr) (n10 c10 : Nat) (a11 : Option Addr) (n11 c11 : Nat) (x11 : List ByteArray) (w : World) (m0 : n0 ≤ maxLen) (l0 : x0.length = n0) (v0 : SView w a0 x0) (m1 : n1 ≤ maxLen) (m2 : n2 ≤ maxLen) (l2 : x2.length = n2) (v2 : SView w a2 x2) (m3 : n3 ≤ maxLen) (m4 : n4 ≤ maxLen) (l4 : x4.length = n4) (v4 : SView w a4 x4) (m5 : n5 ≤ maxLen) (m6 : n6 ≤ maxLen) (l6 : x6.length = n6) (v6 : SView w a6 x6) (m7 : n7 ≤ maxLen) (m8 : n8 ≤ maxLen) (l8 : x8.length = n8) (v8 : SView w a8 x8) (m9 : n9 ≤ maxLen) (l9 : x9.length = n9) (v9 : SView w a9 x9) (m10 : n10 ≤ maxLen) (m11 : n11 ≤ maxLen) (l11 : x11.length = n11) (v11 : SView w a11 x11) :
    Calls Try.prog 27 #[.slice a0 n0 c0, .slice a1 n1 c1, .slice a2 n2 c2, .slice a3 n3 c3, .slice a4 n4 c4, .slice a5 n5 c5, .slice a6 n6 c6, .slice a7 n7 c7, .slice a8 n8 c8, .slice a9 n9 c9, .slice a10 n10 c10, .slice a11 n11 c11] w (BoolPost w) := by
  go_enter Try.func27, Try.ntmps27
  by_cases hA0 : (1048576 : Int) < (n0 : Int)
  · go_wp2
    go_ret
    exact ⟨false, rfl, rfl⟩
  · skip
    go_wp2_with fail
    go_loop [25, 26] (fun v j => ∃ k : Nat, k ≤ n0 ∧ j = .int .i64 k ∧ ∃ s : Int, v = .int .i64 s ∧ 0 ≤ s ∧ s ≤ 1048576) (fun _ j => n0 - (intOf j).toNat)
    case atStart => exact ⟨0, Nat.zero_le _, rfl, _, rfl, by omega, by omega⟩
    case round =>
      obtain ⟨k0, hk0, rfl, s0, rfl, hs0, ht0⟩ := hrel
      by_cases hlt : k0 < n0
      · obtain ⟨b, off, rfl, hc⟩ := v0 k0 (by omega)
        obtain ⟨y, hy⟩ : ∃ y, x0.getD k0 ⟨#[]⟩ = y := ⟨_, rfl⟩
        rw [hy] at hc
        clear hy
        by_cases hy2 : (1048576 : Int) < (y.size : Int)
        · go_wp2
          go_ret
          exact ⟨false, rfl, rfl⟩
        · by_cases hy3 : 1048576 < s0 + (y.size : Int)
          · go_wp2
            go_ret
            exact ⟨false, rfl, rfl⟩
          · go_wp2
            go_round
            case rel => exact ⟨k0 + 1, by omega, by go_num, _, rfl, by omega, by omega⟩
            case measure => simp [intOf]; omega
      · have hle : ¬ (k0 : Int) < (n0 : Int) := by omega
        by_cases hA1 : (1048576 : Int) < (n1 : Int)
        · go_wp2
          go_ret
          exact ⟨false, rfl, rfl⟩
        · by_cases hB1 : 1048576 < s0 + (n1 : Int)
          · go_wp2
            go_ret
            exact ⟨false, rfl, rfl⟩
          · skip
            obtain ⟨s1, hs1⟩ : ∃ s, s0 + (n1 : Int) = s := ⟨_, rfl⟩
            have ht1 : 0 ≤ s1 := by omega
            have hu1 : s1 ≤ 1048576 := by omega
            by_cases hA2 : (1048576 : Int) < (n2 : Int)
            · go_wp2
              go_ret
              exact ⟨false, rfl, rfl⟩
            · by_cases hB2 : 1048576 < s1 + (n2 : Int)
              · go_wp2
                go_ret
                exact ⟨false, rfl, rfl⟩
              · skip
                go_wp2_with fail
                go_loop [25, 27] (fun v j => ∃ k : Nat, k ≤ n2 ∧ j = .int .i64 k ∧ ∃ s : Int, v = .int .i64 s ∧ 0 ≤ s ∧ s ≤ 1048576) (fun _ j => n2 - (intOf j).toNat)
                case atStart => exact ⟨0, Nat.zero_le _, rfl, _, rfl, by omega, by omega⟩
                case round =>
                  obtain ⟨k2, hk2, rfl, s2, rfl, hs2, ht2⟩ := hrel
                  by_cases hlt : k2 < n2
                  · obtain ⟨b, off, rfl, hc⟩ := v2 k2 (by omega)
                    obtain ⟨y, hy⟩ : ∃ y, x2.getD k2 ⟨#[]⟩ = y := ⟨_, rfl⟩
                    rw [hy] at hc
                    clear hy
                    by_cases hy2 : (1048576 : Int) < (y.size : Int)
                    · go_wp2
                      go_ret
                      exact ⟨false, rfl, rfl⟩
                    · by_cases hy3 : 1048576 < s2 + (y.size : Int)
                      · go_wp2
                        go_ret
                        exact ⟨false, rfl, rfl⟩
                      · go_wp2
                        go_round
                        case rel => exact ⟨k2 + 1, by omega, by go_num, _, rfl, by omega, by omega⟩
                        case measure => simp [intOf]; omega
                  · have hle : ¬ (k2 : Int) < (n2 : Int) := by omega
                    by_cases hA3 : (1048576 : Int) < (n3 : Int)
                    · go_wp2
                      go_ret
                      exact ⟨false, rfl, rfl⟩
                    · by_cases hB3 : 1048576 < s2 + (n3 : Int)
                      · go_wp2
                        go_ret
                        exact ⟨false, rfl, rfl⟩
                      · skip
                        obtain ⟨s3, hs3⟩ : ∃ s, s2 + (n3 : Int) = s := ⟨_, rfl⟩
                        have ht3 : 0 ≤ s3 := by omega
                        have hu3 : s3 ≤ 1048576 := by omega
                        by_cases hA4 : (1048576 : Int) < (n4 : Int)
                        · go_wp2
                          go_ret
                          exact ⟨false, rfl, rfl⟩
                        · by_cases hB4 : 1048576 < s3 + (n4 : Int)
                          · go_wp2
                            go_ret
                            exact ⟨false, rfl, rfl⟩
                          · skip
                            go_wp2_with fail
                            go_loop [25, 28] (fun v j => ∃ k : Nat, k ≤ n4 ∧ j = .int .i64 k ∧ ∃ s : Int, v = .int .i64 s ∧ 0 ≤ s ∧ s ≤ 1048576) (fun _ j => n4 - (intOf j).toNat)
                            case atStart => exact ⟨0, Nat.zero_le _, rfl, _, rfl, by omega, by omega⟩
                            case round =>
                              obtain ⟨k4, hk4, rfl, s4, rfl, hs4, ht4⟩ := hrel
                              by_cases hlt : k4 < n4
                              · obtain ⟨b, off, rfl, hc⟩ := v4 k4 (by omega)
                                obtain ⟨y, hy⟩ : ∃ y, x4.getD k4 ⟨#[]⟩ = y := ⟨_, rfl⟩
                                rw [hy] at hc
                                clear hy
                                by_cases hy2 : (1048576 : Int) < (y.size : Int)
                                · go_wp2
                                  go_ret
                                  exact ⟨false, rfl, rfl⟩
                                · by_cases hy3 : 1048576 < s4 + (y.size : Int)
                                  · go_wp2
                                    go_ret
                                    exact ⟨false, rfl, rfl⟩
                                  · go_wp2
                                    go_round
                                    case rel => exact ⟨k4 + 1, by omega, by go_num, _, rfl, by omega, by omega⟩
                                    case measure => simp [intOf]; omega
                              · have hle : ¬ (k4 : Int) < (n4 : Int) := by omega
                                by_cases hA5 : (1048576 : Int) < (n5 : Int)
                                · go_wp2
                                  go_ret
                                  exact ⟨false, rfl, rfl⟩
                                · by_cases hB5 : 1048576 < s4 + (n5 : Int)
                                  · go_wp2
                                    go_ret
                                    exact ⟨false, rfl, rfl⟩
                                  · skip
                                    obtain ⟨s5, hs5⟩ : ∃ s, s4 + (n5 : Int) = s := ⟨_, rfl⟩
                                    have ht5 : 0 ≤ s5 := by omega
                                    have hu5 : s5 ≤ 1048576 := by omega
                                    by_cases hA6 : (1048576 : Int) < (n6 : Int)
                                    · go_wp2
                                      go_ret
                                      exact ⟨false, rfl, rfl⟩
                                    · by_cases hB6 : 1048576 < s5 + (n6 : Int)
                                      · go_wp2
                                        go_ret
                                        exact ⟨false, rfl, rfl⟩
                                      · skip
                                        go_wp2_with fail
                                        go_loop [25, 29] (fun v j => ∃ k : Nat, k ≤ n6 ∧ j = .int .i64 k ∧ ∃ s : Int, v = .int .i64 s ∧ 0 ≤ s ∧ s ≤ 1048576) (fun _ j => n6 - (intOf j).toNat)
                                        case atStart => exact ⟨0, Nat.zero_le _, rfl, _, rfl, by omega, by omega⟩
                                        case round =>
                                          obtain ⟨k6, hk6, rfl, s6, rfl, hs6, ht6⟩ := hrel
                                          by_cases hlt : k6 < n6
                                          · obtain ⟨b, off, rfl, hc⟩ := v6 k6 (by omega)
                                            obtain ⟨y, hy⟩ : ∃ y, x6.getD k6 ⟨#[]⟩ = y := ⟨_, rfl⟩
                                            rw [hy] at hc
                                            clear hy
                                            by_cases hy2 : (1048576 : Int) < (y.size : Int)
                                            · go_wp2
                                              go_ret
                                              exact ⟨false, rfl, rfl⟩
                                            · by_cases hy3 : 1048576 < s6 + (y.size : Int)
                                              · go_wp2
                                                go_ret
                                                exact ⟨false, rfl, rfl⟩
                                              · go_wp2
                                                go_round
                                                case rel => exact ⟨k6 + 1, by omega, by go_num, _, rfl, by omega, by omega⟩
                                                case measure => simp [intOf]; omega
                                          · have hle : ¬ (k6 : Int) < (n6 : Int) := by omega
                                            by_cases hA7 : (1048576 : Int) < (n7 : Int)
                                            · go_wp2
                                              go_ret
                                              exact ⟨false, rfl, rfl⟩
                                            · by_cases hB7 : 1048576 < s6 + (n7 : Int)
                                              · go_wp2
                                                go_ret
                                                exact ⟨false, rfl, rfl⟩
                                              · skip
                                                obtain ⟨s7, hs7⟩ : ∃ s, s6 + (n7 : Int) = s := ⟨_, rfl⟩
                                                have ht7 : 0 ≤ s7 := by omega
                                                have hu7 : s7 ≤ 1048576 := by omega
                                                by_cases hA8 : (1048576 : Int) < (n8 : Int)
                                                · go_wp2
                                                  go_ret
                                                  exact ⟨false, rfl, rfl⟩
                                                · by_cases hB8 : 1048576 < s7 + (n8 : Int)
                                                  · go_wp2
                                                    go_ret
                                                    exact ⟨false, rfl, rfl⟩
                                                  · skip
                                                    go_wp2_with fail
                                                    go_loop [25, 30] (fun v j => ∃ k : Nat, k ≤ n8 ∧ j = .int .i64 k ∧ ∃ s : Int, v = .int .i64 s ∧ 0 ≤ s ∧ s ≤ 1048576) (fun _ j => n8 - (intOf j).toNat)
                                                    case atStart => exact ⟨0, Nat.zero_le _, rfl, _, rfl, by omega, by omega⟩
                                                    case round =>
                                                      obtain ⟨k8, hk8, rfl, s8, rfl, hs8, ht8⟩ := hrel
                                                      by_cases hlt : k8 < n8
                                                      · obtain ⟨b, off, rfl, hc⟩ := v8 k8 (by omega)
                                                        obtain ⟨y, hy⟩ : ∃ y, x8.getD k8 ⟨#[]⟩ = y := ⟨_, rfl⟩
                                                        rw [hy] at hc
                                                        clear hy
                                                        by_cases hy2 : (1048576 : Int) < (y.size : Int)
                                                        · go_wp2
                                                          go_ret
                                                          exact ⟨false, rfl, rfl⟩
                                                        · by_cases hy3 : 1048576 < s8 + (y.size : Int)
                                                          · go_wp2
                                                            go_ret
                                                            exact ⟨false, rfl, rfl⟩
                                                          · go_wp2
                                                            go_round
                                                            case rel => exact ⟨k8 + 1, by omega, by go_num, _, rfl, by omega, by omega⟩
                                                            case measure => simp [intOf]; omega
                                                      · have hle : ¬ (k8 : Int) < (n8 : Int) := by omega
                                                        by_cases hA9 : (1048576 : Int) < (n9 : Int)
                                                        · go_wp2
                                                          go_ret
                                                          exact ⟨false, rfl, rfl⟩
                                                        · by_cases hB9 : 1048576 < s8 + (n9 : Int)
                                                          · go_wp2
                                                            go_ret
                                                            exact ⟨false, rfl, rfl⟩
                                                          · skip
                                                            go_wp2_with fail
                                                            go_loop [25, 31] (fun v j => ∃ k : Nat, k ≤ n9 ∧ j = .int .i64 k ∧ ∃ s : Int, v = .int .i64 s ∧ 0 ≤ s ∧ s ≤ 1048576) (fun _ j => n9 - (intOf j).toNat)
                                                            case atStart => exact ⟨0, Nat.zero_le _, rfl, _, rfl, by omega, by omega⟩
                                                            case round =>
                                                              obtain ⟨k9, hk9, rfl, s9, rfl, hs9, ht9⟩ := hrel
                                                              by_cases hlt : k9 < n9
                                                              · obtain ⟨b, off, rfl, hc⟩ := v9 k9 (by omega)
                                                                obtain ⟨y, hy⟩ : ∃ y, x9.getD k9 ⟨#[]⟩ = y := ⟨_, rfl⟩
                                                                rw [hy] at hc
                                                                clear hy
                                                                by_cases hy2 : (1048576 : Int) < (y.size : Int)
                                                                · go_wp2
                                                                  go_ret
                                                                  exact ⟨false, rfl, rfl⟩
                                                                · by_cases hy3 : 1048576 < s9 + (y.size : Int)
                                                                  · go_wp2
                                                                    go_ret
                                                                    exact ⟨false, rfl, rfl⟩
                                                                  · go_wp2
                                                                    go_round
                                                                    case rel => exact ⟨k9 + 1, by omega, by go_num, _, rfl, by omega, by omega⟩
                                                                    case measure => simp [intOf]; omega
                                                              · have hle : ¬ (k9 : Int) < (n9 : Int) := by omega
                                                                by_cases hA10 : (1048576 : Int) < (n10 : Int)
                                                                · go_wp2
                                                                  go_ret
                                                                  exact ⟨false, rfl, rfl⟩
                                                                · by_cases hB10 : 1048576 < s9 + (n10 : Int)
                                                                  · go_wp2
                                                                    go_ret
                                                                    exact ⟨false, rfl, rfl⟩
                                                                  · skip
                                                                    obtain ⟨s10, hs10⟩ : ∃ s, s9 + (n10 : Int) = s := ⟨_, rfl⟩
                                                                    have ht10 : 0 ≤ s10 := by omega
                                                                    have hu10 : s10 ≤ 1048576 := by omega
                                                                    by_cases hA11 : (1048576 : Int) < (n11 : Int)
                                                                    · go_wp2
                                                                      go_ret
                                                                      exact ⟨false, rfl, rfl⟩
                                                                    · by_cases hB11 : 1048576 < s10 + (n11 : Int)
                                                                      · go_wp2
                                                                        go_ret
                                                                        exact ⟨false, rfl, rfl⟩
                                                                      · skip
                                                                        go_wp2_with fail
                                                                        go_loop [25, 32] (fun v j => ∃ k : Nat, k ≤ n11 ∧ j = .int .i64 k ∧ ∃ s : Int, v = .int .i64 s ∧ 0 ≤ s ∧ s ≤ 1048576) (fun _ j => n11 - (intOf j).toNat)
                                                                        case atStart => exact ⟨0, Nat.zero_le _, rfl, _, rfl, by omega, by omega⟩
                                                                        case round =>
                                                                          obtain ⟨k11, hk11, rfl, s11, rfl, hs11, ht11⟩ := hrel
                                                                          by_cases hlt : k11 < n11
                                                                          · obtain ⟨b, off, rfl, hc⟩ := v11 k11 (by omega)
                                                                            obtain ⟨y, hy⟩ : ∃ y, x11.getD k11 ⟨#[]⟩ = y := ⟨_, rfl⟩
                                                                            rw [hy] at hc
                                                                            clear hy
                                                                            by_cases hy2 : (1048576 : Int) < (y.size : Int)
                                                                            · go_wp2
                                                                              go_ret
                                                                              exact ⟨false, rfl, rfl⟩
                                                                            · by_cases hy3 : 1048576 < s11 + (y.size : Int)
                                                                              · go_wp2
                                                                                go_ret
                                                                                exact ⟨false, rfl, rfl⟩
                                                                              · go_wp2
                                                                                go_round
                                                                                case rel => exact ⟨k11 + 1, by omega, by go_num, _, rfl, by omega, by omega⟩
                                                                                case measure => simp [intOf]; omega
                                                                          · have hle : ¬ (k11 : Int) < (n11 : Int) := by omega
                                                                            go_wp2
                                                                            go_ret
                                                                            exact ⟨true, rfl, rfl⟩

end Go.Proofs.Qxb6614579a

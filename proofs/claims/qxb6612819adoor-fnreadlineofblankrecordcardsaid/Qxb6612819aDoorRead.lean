import Derived.Test.Qxb6612819aDoorView
import Derived.Deep.QuietTactic
import Derived.BigQuiet
import Derived.Lib.BytesEntry
namespace Go.Proofs.Qxb6612819aDoor
open Go.RowKit
set_option linter.unusedVariables false

theorem spaces_at (n j : Nat) (h : j < n) : (List.replicate n (32 : Int)).getD j 0 = 32 := by simp [List.getD, h]

set_option maxHeartbeats 400000 in
theorem allSpaces_any (a : Option Addr) (n ca : Nat) (w : World) (hm : n ≤ 1048576) (hx : View .u8 w a (List.replicate n 32)) :
    Calls Tryd.prog 14 #[.slice a n ca] w fun e w' => e = .returned (.bool true) ∧ w' = w := by
  go_enter Tryd.func14, Tryd.ntmps14
  go_wp2
  go_loop [3] (fun i => ∃ k : Nat, k ≤ n ∧ i = .int .i64 k) (fun i => n - (intOf i).toNat)
  case atStart => exact ⟨0, Nat.zero_le _, rfl⟩
  case round =>
    obtain ⟨k, hk, rfl⟩ := hrel
    by_cases hlt : k < n
    · obtain ⟨b, off, rfl, hc⟩ := hx k (by simpa using hlt)
      rw [spaces_at n k hlt] at hc
      go_wp2
      go_round
      case rel => exact ⟨k + 1, by omega, by go_num⟩
      case measure => simp [intOf]; omega
    · go_wp2
      go_ret
      exact ⟨rfl, rfl⟩

set_option maxHeartbeats 400000 in
theorem same_any (a b : Option Addr) (n ca cb : Nat) (xs : List Int) (w : World) (hl : xs.length = n) (hm : n ≤ 1048576) (hx : View .u8 w a xs) (hy : View .u8 w b xs) :
    Calls Tryd.prog 10 #[.slice a n ca, .slice b n cb] w fun e w' => e = .returned (.bool true) ∧ ∃ q, w' = w.drewN q := by
  have Hl : Hid _ := hl
  clear hl
  go_enter Tryd.func10, Tryd.ntmps10
  go_wp2
  go_loopw [5] (fun i wr => ∃ k : Nat, k ≤ n ∧ i = .int .i64 k ∧ ∃ q, wr = w.drewN q) (fun i _ => n - (intOf i).toNat)
  case atStart => exact ⟨0, Nat.zero_le _, rfl, 0, rfl⟩
  case round =>
    obtain ⟨k, hk, rfl, q, rfl⟩ := hrel
    by_cases hlt : k < n
    · obtain ⟨b1, off1, rfl, hc⟩ := hx k (by rw [Hl.out]; exact hlt)
      obtain ⟨b2, off2, rfl, hd⟩ := hy k (by rw [Hl.out]; exact hlt)
      generalize xs.getD k 0 = v at hc hd
      go_wp2
      go_quiet (fail)
      go_wp2
      go_roundw
      case rel => exact ⟨k + 1, by omega, by go_num, _, rfl⟩
      case measure => simp [intOf]; omega
    · go_wp2
      go_ret
      exact ⟨rfl, _, rfl⟩
end Go.Proofs.Qxb6612819aDoor

import Derived.Test.Qxb6608861aOpen
namespace Go.Proofs.Qxb6608861a
open Go.RowKit
set_option linter.unusedVariables false
set_option maxRecDepth 100000
set_option maxHeartbeats 1000000

theorem bytes24_any (a b c : Option Addr) (m ca n cb l cl : Nat) (w : World) (h : m + n + l ≤ 1048576) :
    Calls Try.prog 24 #[.slice a m ca, .slice b n cb, .slice c l cl] w fun e w' => e = .returned (.bool true) ∧ w' = w := by
  go_enter Try.func24, Try.ntmps24
  go_wp2
  go_ret
  exact ⟨rfl, rfl⟩

theorem bytes24_not (a b c : Option Addr) (m ca n cb l cl : Nat) (w : World) (hm : m ≤ 9223372036854775807) (hn : n ≤ 9223372036854775807) (hl : l ≤ 9223372036854775807) (h : ¬ m + n + l ≤ 1048576) :
    Calls Try.prog 24 #[.slice a m ca, .slice b n cb, .slice c l cl] w fun e w' => e = .returned (.bool false) ∧ w' = w := by
  go_enter Try.func24, Try.ntmps24
  go_wp2
  all_goals go_ret
  all_goals exact ⟨rfl, rfl⟩

section
variable (a0 : Option Addr) (m ca : Nat) (a1 : Option Addr) (n cb : Nat) (a2 : Option Addr) (l cl : Nat) (xs es ws : List Int) (w : World)

theorem two_long (hm : m ≤ maxLen) (hn : n ≤ maxLen) (hl : l ≤ maxLen) (h : ¬ m + n + l ≤ 1048576) :
    Calls Try.prog 6 #[.slice a0 m ca, .slice a1 n cb, .slice a2 l cl] w fun e w' => e = .returned (.bool true) ∧ Below w.heap.size w w' := by
  unfold maxLen at hm hn hl
  go_enter Try.func6, Try.ntmps6
  go_wp2_with (go_at_call 24; refine (bytes24_not _ _ _ _ _ _ _ _ _ _ hm hn hl h).mono ?_; rintro e w' ⟨rfl, rfl⟩)
  go_ret
  exact ⟨rfl, Below.refl _ _⟩

theorem two_bound (h : m + n + l ≤ 1048576) (h2 : 262144 < n ∨ 131072 < l ∨ 1048576 < m + 4 * n + 8 * l) :
    Calls Try.prog 6 #[.slice a0 m ca, .slice a1 n cb, .slice a2 l cl] w fun e w' => e = .returned (.bool true) ∧ Below w.heap.size w w' := by
  by_cases g1 : 262144 < n
  · go_enter Try.func6, Try.ntmps6
    go_wp2_with (go_at_call 24; refine (bytes24_any _ _ _ _ _ _ _ _ _ _ h).mono ?_; rintro e w' ⟨rfl, rfl⟩)
    go_ret
    exact ⟨rfl, Below.refl _ _⟩
  · by_cases g2 : 131072 < l
    · go_enter Try.func6, Try.ntmps6
      go_wp2_with (go_at_call 24; refine (bytes24_any _ _ _ _ _ _ _ _ _ _ h).mono ?_; rintro e w' ⟨rfl, rfl⟩)
      go_ret
      exact ⟨rfl, Below.refl _ _⟩
    · have g3 : 1048576 < m + 4 * n + 8 * l := by omega
      clear h2
      go_enter Try.func6, Try.ntmps6
      go_wp2_with (go_at_call 24; refine (bytes24_any _ _ _ _ _ _ _ _ _ _ h).mono ?_; rintro e w' ⟨rfl, rfl⟩)
      go_ret
      exact ⟨rfl, Below.refl _ _⟩

theorem two_ends (hxl : xs.length = m) (hel : es.length = n) (h : m + n + l ≤ 1048576) (h1 : n ≤ 262144) (h2 : l ≤ 131072) (h3 : m + 4 * n + 8 * l ≤ 1048576) (hy : View .u32 w a1 es) (he : endsOK m 0 es = false) :
    Calls Try.prog 6 #[.slice a0 m ca, .slice a1 n cb, .slice a2 l cl] w fun e w' => e = .returned (.bool true) ∧ Below w.heap.size w w' := by
  have hE := endsOK_is a0 a1 m ca n cb es false w hel (by omega) (by omega) hy he
  clear he
  go_enter Try.func6, Try.ntmps6
  go_wp2_with (first | (go_at_call 24; refine (bytes24_any _ _ _ _ _ _ _ _ _ _ h).mono ?_; rintro e w' ⟨rfl, hww⟩; (have hw2 := hww.symm); subst hw2) | (go_at_call 12; refine hE.mono ?_; rintro e w' ⟨rfl, hww⟩; (have hw2 := hww.symm); subst hw2))
  go_ret
  exact ⟨rfl, Below.refl _ _⟩
end
end Go.Proofs.Qxb6608861a

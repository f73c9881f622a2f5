import Derived.Test.Qxb6614770aFmtRd
namespace Go.Proofs.Qxb6614770aFmt
open Go.RowKit
set_option linter.unusedVariables false

/-- k is where the first line of D ends. -/
structure LE (D : List Int) (k : Nat) : Prop where
  le : k ≤ D.length
  no : ∀ j, j + 1 < k → D.getD j 0 ≠ 10
  at_ : k = D.length ∨ (0 < k ∧ D.getD (k - 1) 0 = 10)
  pos : 0 < D.length → 0 < k

theorem LE.unique {D : List Int} {k m : Nat} (h : LE D k) (g : LE D m) : k = m := by
  have h1 := h.le
  have g1 := g.le
  rcases Nat.lt_trichotomy k m with hlt | he | hgt
  · have hp := h.pos (by omega)
    rcases h.at_ with e | ⟨_, e⟩
    · omega
    · exact absurd e (g.no (k - 1) (by omega))
  · exact he
  · have hp := g.pos (by omega)
    rcases g.at_ with e | ⟨_, e⟩
    · omega
    · exact absurd e (h.no (m - 1) (by omega))

set_option maxHeartbeats 1000000 in
theorem lineEnd_any (a : Option Addr) (n c : Nat) (D : List Int) (w : World) (hl : D.length = n) (hm : n ≤ 1048576) (hx : View .u8 w a D) :
    Calls Tryf.prog 7 #[.slice a n c] w fun e w' => ∃ k : Nat, e = .returned (.int .i64 k) ∧ LE D k ∧ w' = w := by
  have HL : Hid _ := hl
  clear hl
  go_enter Tryf.func7, Tryf.ntmps7
  go_wp2
  go_loopw [3] (fun v wr => ∃ k : Nat, k ≤ n ∧ v = .int .i64 k ∧ Hid (∀ j, j < k → D.getD j 0 ≠ 10) ∧ wr = w) (fun v _ => n - (intOf v).toNat)
  case atStart => exact ⟨0, Nat.zero_le _, by simp, fun j hj => by omega, rfl⟩
  case round =>
    obtain ⟨k, hk, rfl, hno, rfl⟩ := hrel
    by_cases hlt : k < n
    · obtain ⟨b9, o9, rfl, cL⟩ := hx k (by rw [HL.out]; exact hlt)
      obtain ⟨z, hzd⟩ : ∃ z, z = D.getD k 0 := ⟨_, rfl⟩
      rw [← hzd] at cL
      have HZ : Hid _ := hzd
      clear hzd
      by_cases h10 : z = 10
      · subst h10
        go_wp2
        go_ret
        refine ⟨k + 1, by simp, ⟨by rw [HL.out]; omega, fun j hj => hno.out j (by omega), .inr ⟨by omega, HZ.out.symm⟩, fun _ => by omega⟩, rfl⟩
      · go_wp2
        refine ⟨⟨k + 1, by omega, by simp, fun j hj => ?_, trivial⟩, ?_⟩
        · by_cases hjk : j < k
          · exact hno.out j hjk
          · obtain rfl : j = k := by omega
            rw [← HZ.out]; exact h10
        · simp [intOf]; omega
    · have hkm : k = n := by omega
      subst hkm
      go_wp2
      go_ret
      exact ⟨k, by simp, ⟨by rw [HL.out]; omega, fun j hj => hno.out j (by omega), .inl HL.out.symm, fun h => by rw [HL.out] at h; exact h⟩, rfl⟩

theorem bytes3_any (a : Option Addr) (n c : Nat) (w : World) (hm : n ≤ 1048576) : Calls Tryf.prog 5 #[.slice a n c] w fun e w' => e = .returned (.bool true) ∧ w' = w := by
  go_enter Tryf.func5, Tryf.ntmps5
  go_wp2
  go_ret
  exact ⟨rfl, rfl⟩
theorem bytes3_far (a : Option Addr) (n c : Nat) (w : World) (hm : 1048576 < n) (hM : n ≤ maxLen) : Calls Tryf.prog 5 #[.slice a n c] w fun e w' => e = .returned (.bool false) ∧ w' = w := by
  go_enter Tryf.func5, Tryf.ntmps5
  go_wp2
  go_ret
  exact ⟨rfl, rfl⟩
theorem bytes4_any (a : Option Addr) (n c : Nat) (w : World) (hm : n ≤ 1048576) : Calls Tryf.prog 11 #[.slice a n c] w fun e w' => e = .returned (.bool true) ∧ w' = w := by
  go_enter Tryf.func11, Tryf.ntmps11
  go_wp2
  go_ret
  exact ⟨rfl, rfl⟩
theorem bytes4_far (a : Option Addr) (n c : Nat) (w : World) (hm : 1048576 < n) (hM : n ≤ maxLen) : Calls Tryf.prog 11 #[.slice a n c] w fun e w' => e = .returned (.bool false) ∧ w' = w := by
  go_enter Tryf.func11, Tryf.ntmps11
  go_wp2
  go_ret
  exact ⟨rfl, rfl⟩

theorem bnew_any (a : Option Addr) (N : Nat) (w : World) :
    Calls Tryf.prog 12 #[.slice a N N] w fun e w' => e = .returned (.pointer (some ⟨w.heap.size, 0, none⟩)) ∧
      w' = w.alloc (.cells #[.slice a N N, .int .i64 0, .int .i64 (-1)] 41 (0, 0)) := by
  go_enter Tryf.func12, Tryf.ntmps12
  go_wp2
  go_ret
  exact ⟨rfl, rfl⟩

end Go.Proofs.Qxb6614770aFmt

import Derived.Test.Qxb6614579aNode3
namespace Go.Proofs.Qxb6614579a
open Go.RowKit
set_option linter.unusedVariables false

/-- The test of membership that ZZUntold hands over. -/
theorem knows_any (p7 sb : Nat) (kn : ByteArray → Bool) (x : ByteArray) (w : World) (hp : w.cell? ⟨p7, 0, none⟩ = some (.map (some sb))) (hs : MapOf w sb (setF kn)) :
    Calls Try.prog 39 #[.string x, .pointer (some ⟨p7, 0, none⟩)] w fun e w' => e = .returned (.bool (kn x)) ∧ w' = w := by
  have hlk := hs.lookup (P := Try.prog) (t := 40) Try.underlying40 Try.underlying9 (zero40b w) x
  have hx : (setF kn x).getD (.bool false) = .bool (kn x) := by cases h : kn x <;> simp [setF, h]
  rw [hx] at hlk
  clear hx hs
  go_enter Try.func39, Try.ntmps39
  go_wp2
  go_ret
  exact ⟨rfl, rfl⟩

end Go.Proofs.Qxb6614579a

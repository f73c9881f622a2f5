import Derived.Test.Qxb6614579aNode
namespace Go.Proofs.Qxb6614579a
open Go.RowKit
set_option linter.unusedVariables false

/-- The part of a name ahead of its first '~'. -/
def nodeB (s : ByteArray) : ByteArray := if ixT s < 0 then s else s.extract 0 (ixT s).toNat

set_option maxHeartbeats 1000000 in
set_option maxRecDepth 100000 in
theorem slCut_no (s : ByteArray) (w : World) (h : ixT s < 0) :
    Calls Try.prog 46 #[.string s, .string ⟨#[126]⟩] w fun e w' => e = .returned (.tuple #[.string s, .string ⟨#[]⟩, .bool false]) ∧ w' = w := by
  have HT : Hid _ := slIndex s w
  go_enter Try.func46, Try.ntmps46
  go_wp2_with fail
  refine Calls.mono HT.out ?_
  rintro e w' ⟨rfl, hww⟩
  have hw2 := hww.symm
  subst hw2
  generalize ixT s = i at *
  go_wp2
  go_ret3
  exact ⟨rfl, rfl⟩

set_option maxHeartbeats 1000000 in
set_option maxRecDepth 100000 in
theorem slCut_yes (s : ByteArray) (i : Nat) (w : World) (h : ixT s = (i : Int)) (hi : i < s.size) (hm : s.size ≤ maxLen) :
    Calls Try.prog 46 #[.string s, .string ⟨#[126]⟩] w fun e w' => ∃ t, e = .returned (.tuple #[.string (s.extract 0 i), .string t, .bool true]) ∧ ∃ k, w' = w.drewN k := by
  have HT : Hid _ := slIndex s w
  rw [h] at HT
  have hm2 : (s.size : Int) ≤ 9223372036854775807 := by unfold maxLen at hm; omega
  have hi2 : (i : Int) < (s.size : Int) := by omega
  have hi3 : (i : Int) ≤ (s.size : Int) := by omega
  have hi4 : (i : Int) + 1 ≤ (s.size : Int) := by omega
  clear h
  go_enter Try.func46, Try.ntmps46
  go_wp2_with fail
  refine Calls.mono HT.out ?_
  rintro e w' ⟨rfl, hww⟩
  have hw2 := hww.symm
  subst hw2
  go_wp2
  go_quiet (fail)
  go_wp2
  go_ret3
  exact ⟨_, rfl, _, rfl⟩

end Go.Proofs.Qxb6614579a

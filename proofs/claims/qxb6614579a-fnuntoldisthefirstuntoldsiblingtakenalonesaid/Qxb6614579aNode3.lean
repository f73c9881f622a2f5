import Derived.Test.Qxb6614579aNode2
namespace Go.Proofs.Qxb6614579a
open Go.RowKit
set_option linter.unusedVariables false

theorem indexByte_range (c : UInt8) : ∀ l : List UInt8, -1 ≤ Lib.indexByte l c ∧ Lib.indexByte l c < l.length := by
  intro l
  induction l with
  | nil => simp [Lib.indexByte]
  | cons a l ih =>
    simp only [Lib.indexByte, List.length_cons]
    split
    · omega
    · split <;> omega

theorem ixT_range (s : ByteArray) : -1 ≤ ixT s ∧ ixT s < s.size := by
  have := indexByte_range 126 s.data.toList
  simpa [ixT] using this

theorem cut_of (s : ByteArray) (w : World) (R : Ending → World → Prop) (h : Calls Try.prog 46 #[.string s, .string ⟨#[126]⟩] w fun e w' => ∃ x y z, e = .returned (.tuple #[x, y, z]) ∧ R e w') :
    Calls Try.prog 45 #[.string s, .string ⟨#[126]⟩] w R := by
  have T : Hid _ := h
  clear h
  go_enter Try.func45, Try.ntmps45
  go_wp2_with fail
  refine Calls.mono T.out ?_
  clear T
  rintro e W1 ⟨x, y, z, rfl, hR⟩
  go_wp2
  go_ret3
  exact hR

/-- NodeOf. -/
theorem nodeOf_any (s : ByteArray) (w : World) (hm : s.size ≤ maxLen) :
    Calls Try.prog 44 #[.string s] w fun e w' => e = .returned (.string (nodeB s)) ∧ ∃ k, w' = w.drewN k := by
  have hc : Calls Try.prog 45 #[.string s, .string ⟨#[126]⟩] w fun e w' => ∃ y z, e = .returned (.tuple #[.string (nodeB s), y, z]) ∧ ∃ k, w' = w.drewN k := by
    refine cut_of s w _ ?_
    obtain ⟨h1, h2⟩ := ixT_range s
    by_cases h : ixT s < 0
    · refine Calls.mono (slCut_no s w h) ?_
      rintro e w' ⟨rfl, rfl⟩
      exact ⟨_, _, _, rfl, _, _, by rw [nodeB, if_pos h], 0, rfl⟩
    · obtain ⟨i, hi⟩ := Int.eq_ofNat_of_zero_le (by omega : 0 ≤ ixT s)
      refine Calls.mono (slCut_yes s i w hi (by omega) hm) ?_
      rintro e w' ⟨t, rfl, k, rfl⟩
      exact ⟨_, _, _, rfl, _, _, by rw [nodeB, if_neg h, hi]; rfl, k, rfl⟩
  have T : Hid _ := hc
  clear hc
  generalize nodeB s = nb at *
  go_enter Try.func44, Try.ntmps44
  go_wp2_with fail
  refine Calls.mono T.out ?_
  clear T
  rintro e w' ⟨y, z, rfl, k, hww⟩
  go_wp2
  go_ret
  exact ⟨rfl, k, rfl⟩

end Go.Proofs.Qxb6614579a

import Derived.Test.Qxb6614579aKn
namespace Go.Proofs.Qxb6614579a
open Go.RowKit
set_option linter.unusedVariables false

/-- Go's '<' on strings. -/
def sLt (a b : ByteArray) : Bool := Op.bytesLess a.toList b.toList

theorem bl_irrefl : ∀ x : List UInt8, Op.bytesLess x x = false
  | [] => rfl
  | a :: x => by simp [Op.bytesLess, bl_irrefl x]

theorem bl_trans : ∀ x y z : List UInt8, Op.bytesLess x y = true → Op.bytesLess y z = true → Op.bytesLess x z = true
  | _, [], _ => fun h => by simp [Op.bytesLess] at h
  | _, _ :: _, [] => fun _ h => by simp [Op.bytesLess] at h
  | [], _ :: _, _ :: _ => fun _ _ => rfl
  | a :: x, b :: y, c :: z => fun h1 h2 => by
    simp only [Op.bytesLess, Bool.or_eq_true, decide_eq_true_eq, Bool.and_eq_true, beq_iff_eq] at h1 h2 ⊢
    rcases h1 with h1 | ⟨rfl, h1⟩
    · rcases h2 with h2 | ⟨rfl, h2⟩
      · exact .inl (UInt8.lt_trans h1 h2)
      · exact .inl h1
    · rcases h2 with h2 | ⟨rfl, h2⟩
      · exact .inl h2
      · exact .inr ⟨rfl, bl_trans x y z h1 h2⟩

theorem bl_total : ∀ x y : List UInt8, Op.bytesLess x y = false → Op.bytesLess y x = false → x = y
  | [], [] => fun _ _ => rfl
  | [], _ :: _ => fun h _ => by simp [Op.bytesLess] at h
  | _ :: _, [] => fun _ h => by simp [Op.bytesLess] at h
  | a :: x, b :: y => fun h1 h2 => by
    simp only [Op.bytesLess, Bool.or_eq_false_iff, decide_eq_false_iff_not, Bool.and_eq_false_iff] at h1 h2
    have hab : a = b := by
      rcases UInt8.lt_or_le a b with h | h
      · exact absurd h h1.1
      · rcases UInt8.lt_or_le b a with h' | h'
        · exact absurd h' h2.1
        · exact UInt8.le_antisymm h' h
    subst hab
    have e1 : Op.bytesLess x y = false := by rcases h1.2 with h | h; simp at h; exact h
    have e2 : Op.bytesLess y x = false := by rcases h2.2 with h | h; simp at h; exact h
    rw [bl_total x y e1 e2]

theorem sLt_total (a b : ByteArray) (h1 : sLt a b = false) (h2 : sLt b a = false) : a = b := by
  have := bl_total _ _ h1 h2
  rw [Go.ByteArray.toList_eq, Go.ByteArray.toList_eq] at this
  exact WideShapes.bytes_inj this

end Go.Proofs.Qxb6614579a

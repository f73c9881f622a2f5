import Derived.Test.Qxb6614579aUnt2
namespace Go.Proofs.Qxb6614579a
open Go.RowKit
set_option linter.unusedVariables false

/-- The two cells of a Dot that stands for an answer. -/
def dotCells (r : Option ByteArray) : Array Value :=
  match r with
  | none => #[.string ⟨#[]⟩, .int .u64 0]
  | some m => #[.string m, .int .u64 1]

theorem least_skip {p : ByteArray → Prop} {q : ByteArray → Prop} {k : ByteArray} {r : Option ByteArray} (h : Least (fun x => p x ∧ q x) r) (hk : ¬ q k) : Least (fun x => (p x ∨ x = k) ∧ q x) r := by
  cases r with
  | none =>
    rintro x ⟨hx | rfl, hq⟩
    · exact h x ⟨hx, hq⟩
    · exact hk hq
  | some m =>
    refine ⟨⟨.inl h.1.1, h.1.2⟩, ?_⟩
    rintro x ⟨hx | rfl, hq⟩
    · exact h.2 x ⟨hx, hq⟩
    · exact absurd hq hk

theorem least_first {p : ByteArray → Prop} {q : ByteArray → Prop} {k : ByteArray} (h : Least (fun x => p x ∧ q x) none) (hk : q k) : Least (fun x => (p x ∨ x = k) ∧ q x) (some k) := by
  refine ⟨⟨.inr rfl, hk⟩, ?_⟩
  rintro x ⟨hx | rfl, hq⟩
  · exact absurd ⟨hx, hq⟩ (h x)
  · exact bl_irrefl _

theorem least_less {p : ByteArray → Prop} {q : ByteArray → Prop} {k m : ByteArray} (h : Least (fun x => p x ∧ q x) (some m)) (hk : q k) (hl : sLt k m = true) : Least (fun x => (p x ∨ x = k) ∧ q x) (some k) := by
  refine ⟨⟨.inr rfl, hk⟩, ?_⟩
  rintro x ⟨hx | rfl, hq⟩
  · cases hc : sLt x k with
    | false => rfl
    | true =>
      have := h.2 x ⟨hx, hq⟩
      rw [show sLt x m = true from bl_trans _ _ _ hc hl] at this
      cases this
  · exact bl_irrefl _

theorem least_keep {p : ByteArray → Prop} {q : ByteArray → Prop} {k m : ByteArray} (h : Least (fun x => p x ∧ q x) (some m)) (hl : sLt k m = false) : Least (fun x => (p x ∨ x = k) ∧ q x) (some m) := by
  refine ⟨⟨.inl h.1.1, h.1.2⟩, ?_⟩
  rintro x ⟨hx | rfl, hq⟩
  · exact h.2 x ⟨hx, hq⟩
  · exact hl

end Go.Proofs.Qxb6614579a

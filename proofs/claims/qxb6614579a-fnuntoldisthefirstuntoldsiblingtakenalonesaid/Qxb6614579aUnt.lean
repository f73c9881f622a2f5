import Derived.Test.Qxb6614579aOrd
namespace Go.Proofs.Qxb6614579a
open Go.RowKit
set_option linter.unusedVariables false

/-- k is a name that may be told: of n's node, not n, not known. -/
def Fits (kn : ByteArray → Bool) (n k : ByteArray) : Prop := k ≠ n ∧ nodeB k = nodeB n ∧ kn k = false

/-- The least of the names of which p holds, where there is one. -/
def Least (p : ByteArray → Prop) (r : Option ByteArray) : Prop :=
  match r with
  | none => ∀ k, ¬ p k
  | some m => p m ∧ ∀ k, p k → sLt k m = false

theorem Least.unique {p : ByteArray → Prop} {r r' : Option ByteArray} (h : Least p r) (h' : Least p r') : r = r' := by
  cases r with
  | none =>
    cases r' with
    | none => rfl
    | some m => exact absurd h'.1 (h m)
  | some m =>
    cases r' with
    | none => exact absurd h.1 (h' m)
    | some m' => rw [sLt_total m m' (h'.2 m h.1) (h.2 m' h'.1)]

/-- What untold answers of one write. -/
def Told (E : ByteArray → ByteArray → Option Int) (V : ByteArray → Option Int) (kn : ByteArray → Bool) (d : ByteArray × Int) (r : Option ByteArray) : Prop :=
  (Covered E V d ∧ r = none) ∨ (¬ Covered E V d ∧ Least (fun k => V k ≠ none ∧ Fits kn d.1 k) r)

theorem Told.unique {E : ByteArray → ByteArray → Option Int} {V : ByteArray → Option Int} {kn : ByteArray → Bool} {d : ByteArray × Int} {r r' : Option ByteArray} (h : Told E V kn d r) (h' : Told E V kn d r') : r = r' := by
  rcases h with ⟨h1, rfl⟩ | ⟨h1, h2⟩
  · rcases h' with ⟨_, rfl⟩ | ⟨h3, _⟩
    · rfl
    · exact absurd h1 h3
  · rcases h' with ⟨h3, _⟩ | ⟨_, h3⟩
    · exact absurd h3 h1
    · exact h2.unique h3

/-- The Dot that stands for an answer. -/
def dotOf (r : Option ByteArray) : Value :=
  match r with
  | none => .agg #[.string ⟨#[]⟩, .int .u64 0]
  | some m => .agg #[.string m, .int .u64 1]

end Go.Proofs.Qxb6614579a

import Derived.Test.Qxb6614579aIter
namespace Go.Proofs.Qxb6614579a
open Go.RowKit
set_option linter.unusedVariables false

/-- d is implied: by edges of E a target is reached at which a way ends. -/
def Reach (E : ByteArray → ByteArray → Option Int) (Fin : ByteArray → Prop) (d : ByteArray × Int) : Prop :=
  ∀ P : ByteArray × Int → Prop, (∀ n q z s, E n z = some s → q ≤ s → (Fin z ∨ P (z, 1)) → P (n, q)) → P d

theorem Reach.step {E : ByteArray → ByteArray → Option Int} {Fin : ByteArray → Prop} {n z : ByteArray} {q s : Int} (h : E n z = some s) (hq : q ≤ s) (hz : Fin z ∨ Reach E Fin (z, 1)) : Reach E Fin (n, q) := by
  intro P hP
  refine hP n q z s h hq ?_
  rcases hz with hz | hz
  · exact .inl hz
  · exact .inr (hz P hP)

/-- Every edge out of d that may be gone leads into K. -/
def Good (E : ByteArray → ByteArray → Option Int) (K : ByteArray → Bool) (d : ByteArray × Int) : Prop := ∀ z s, E d.1 z = some s → d.2 ≤ s → K z = true

theorem Good.mono {E : ByteArray → ByteArray → Option Int} {K K' : ByteArray → Bool} {d : ByteArray × Int} (h : Good E K d) (hK : ∀ y, K y = true → K' y = true) : Good E K' d :=
  fun z s h1 h2 => hK z (h z s h1 h2)

theorem not_reach {E : ByteArray → ByteArray → Option Int} {Fin : ByteArray → Prop} {K : ByteArray → Bool} {d : ByteArray × Int} (hK : ∀ y, K y = true → ¬ Fin y ∧ Good E K (y, 1)) (hd : Good E K d) : ¬ Reach E Fin d := by
  intro h
  refine h (fun x => ¬ Good E K x) ?_ hd
  intro n q z s h1 h2 h3 h4
  have hz := h4 z s h1 h2
  obtain ⟨g1, g2⟩ := hK z hz
  rcases h3 with h3 | h3
  · exact g1 h3
  · exact h3 g2

/-- The lineage: block lb holds, for each n that has edges, a map of them. -/
def Lin (w : World) (lb : Nat) (G : ByteArray → Option Nat) (E : ByteArray → ByteArray → Option Int) : Prop :=
  MapOf w lb (fun n => (G n).map (fun b => .map (some b))) ∧ (∀ n b, G n = some b → MapOf w b (fun z => (E n z).map (Value.int .u64))) ∧ ∀ n, G n = none → ∀ z, E n z = none

theorem Lin.frame {S : List Nat} {w w' : World} {lb : Nat} {G : ByteArray → Option Nat} {E : ByteArray → ByteArray → Option Int} (h : Lin w lb G E) (hf : Frame S w w') (hl : lb ∉ S) (hg : ∀ n b, G n = some b → b ∉ S) : Lin w' lb G E :=
  ⟨h.1.frame hf hl, fun n b hb => (h.2.1 n b hb).frame hf (hg n b hb), h.2.2⟩

/-- The set of what has been looked at, as the map that holds it. -/
def setF (K : ByteArray → Bool) : ByteArray → Option Value := fun y => if K y = true then some (.bool true) else none

theorem setF_put (K : ByteArray → Bool) (s : ByteArray) : putF (setF K) s (.bool true) = setF (fun y => K y || decide (y = s)) := by
  funext y
  by_cases h : y = s
  · subst h; simp [putF, setF]
  · simp [putF, setF, h]

/-- How many of U are not in K. -/
def leftIn (U : List ByteArray) (K : ByteArray → Bool) : Nat := (U.filter (fun z => !K z)).length

theorem leftIn_lt (U : List ByteArray) (K K' : ByteArray → Bool) (hK : ∀ y, K y = true → K' y = true) (z : ByteArray) (hz : z ∈ U) (h0 : K z = false) (h1 : K' z = true) : leftIn U K' < leftIn U K :=
  filter_lt (fun z => !K z) (fun z => !K' z) (fun x hx => by
    cases hx1 : K x with
    | false => rfl
    | true => rw [hK x hx1] at hx; cases hx) z (by rw [h0]; rfl) (by rw [h1]; rfl) U hz

theorem leftIn_le (U : List ByteArray) (K K' : ByteArray → Bool) (hK : ∀ y, K y = true → K' y = true) : leftIn U K' ≤ leftIn U K := by
  unfold leftIn
  induction U with
  | nil => simp
  | cons a U ih =>
    simp only [List.filter_cons]
    cases h : K a with
    | true => rw [hK a h]; simpa using ih
    | false =>
      cases h' : K' a with
      | true => simp; omega
      | false => simp; omega

end Go.Proofs.Qxb6614579a

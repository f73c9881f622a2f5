import Derived.Test.Qxb6614579aUnt3
namespace Go.Proofs.Qxb6614579a
open Go.RowKit
set_option linter.unusedVariables false

/-- What untold answers of one write, as a function. -/
def IsTold (E : ByteArray → ByteArray → Option Int) (V : ByteArray → Option Int) (kn : ByteArray → Bool) (T : ByteArray × Int → Option ByteArray) : Prop :=
  ∀ d r, Told E V kn d r → T d = r

theorem exists_told (E : ByteArray → ByteArray → Option Int) (V : ByteArray → Option Int) (kn : ByteArray → Bool) : ∃ T, IsTold E V kn T :=
  ⟨fun d => Classical.epsilon (fun r => Told E V kn d r), fun d r h => (Classical.epsilon_spec (p := fun r => Told E V kn d r) ⟨r, h⟩).unique h⟩

/-- a, or else b. -/
def orF (a b : Option ByteArray) : Option ByteArray :=
  match a with
  | some m => some m
  | none => b

/-- The first answer among f 0 .. f (n-1). -/
def firstF (f : Nat → Option ByteArray) : Nat → Option ByteArray
  | 0 => none
  | n + 1 => orF (firstF f n) (f n)

theorem firstF_stays {f : Nat → Option ByteArray} {m : ByteArray} {i : Nat} (h : firstF f i = some m) : ∀ n, i ≤ n → firstF f n = some m := by
  intro n
  induction n with
  | zero => intro hi; obtain rfl : i = 0 := by omega
            exact h
  | succ n ih =>
    intro hi
    by_cases he : i = n + 1
    · subst he; exact h
    · rw [firstF, ih (by omega)]; rfl

theorem firstF_zero {f : Nat → Option ByteArray} {m : ByteArray} (h : f 0 = some m) : ∀ n, 0 < n → firstF f n = some m := by
  have h1 : firstF f 1 = some m := by simp only [firstF, orF, h]
  exact fun n hn => firstF_stays h1 n hn

/-- What the pairs' map holds after n of them. -/
def verF (ks : List ByteArray) (vs : List Int) : Nat → ByteArray → Option Int
  | 0 => fun _ => none
  | n + 1 => fun x => if x = ks.getD n ⟨#[]⟩ then some (vs.getD n 0) else verF ks vs n x

theorem verF_succ (ks : List ByteArray) (vs : List Int) (n : Nat) (x : ByteArray) : verF ks vs (n + 1) x = if x = ks.getD n ⟨#[]⟩ then some (vs.getD n 0) else verF ks vs n x := rfl

theorem verF_some (ks : List ByteArray) (vs : List Int) (x : ByteArray) : ∀ n, verF ks vs n x ≠ none ↔ ∃ i, i < n ∧ ks.getD i ⟨#[]⟩ = x := by
  intro n
  induction n with
  | zero => simp [verF]
  | succ n ih =>
    simp only [verF]
    by_cases h : x = ks.getD n ⟨#[]⟩
    · rw [if_pos h]
      exact ⟨fun _ => ⟨n, by omega, h.symm⟩, fun _ => by simp⟩
    · rw [if_neg h, ih]
      constructor
      · rintro ⟨i, hi, e⟩; exact ⟨i, by omega, e⟩
      · rintro ⟨i, hi, e⟩
        refine ⟨i, ?_, e⟩
        rcases (by omega : i < n ∨ i = n) with h1 | rfl
        · exact h1
        · exact absurd e.symm h

/-- What the lineage holds after n edges. -/
def edF (fs ts : List ByteArray) (ss : List Int) : Nat → ByteArray → ByteArray → Option Int
  | 0 => fun _ _ => none
  | n + 1 => fun x z => if x = fs.getD n ⟨#[]⟩ ∧ z = ts.getD n ⟨#[]⟩ then some (ss.getD n 0) else edF fs ts ss n x z

theorem edF_none (fs ts : List ByteArray) (ss : List Int) (x z : ByteArray) : ∀ n, (∀ i, i < n → fs.getD i ⟨#[]⟩ ≠ x) → edF fs ts ss n x z = none := by
  intro n
  induction n with
  | zero => intro _; rfl
  | succ n ih =>
    intro h
    simp only [edF]
    rw [if_neg (fun e => h n (by omega) e.1.symm)]
    exact ih (fun i hi => h i (by omega))

theorem edF_mem (fs ts : List ByteArray) (ss : List Int) (x z : ByteArray) (s : Int) : ∀ n, n ≤ ts.length → edF fs ts ss n x z = some s → z ∈ ts := by
  intro n
  induction n with
  | zero => intro _ h; simp [edF] at h
  | succ n ih =>
    intro hn h
    simp only [edF] at h
    split at h
    · rename_i hc
      rw [hc.2, List.getD, List.getElem?_eq_getElem (by omega)]
      exact List.getElem_mem _
    · exact ih (by omega) h

/-- The members of a list's first n. -/
def knF (xs : List ByteArray) : Nat → ByteArray → Bool
  | 0 => fun _ => false
  | n + 1 => fun y => knF xs n y || decide (y = xs.getD n ⟨#[]⟩)

theorem knF_succ (xs : List ByteArray) (n : Nat) (y : ByteArray) : knF xs (n + 1) y = (knF xs n y || decide (y = xs.getD n ⟨#[]⟩)) := rfl

theorem knF_stays (xs : List ByteArray) (y : ByteArray) (i : Nat) (h : xs.getD i ⟨#[]⟩ = y) : ∀ n, i < n → knF xs n y = true := by
  intro n
  induction n with
  | zero => intro hi; omega
  | succ n ih =>
    intro hi
    rcases (by omega : i < n ∨ i = n) with h1 | rfl
    · simp only [knF, ih h1, Bool.true_or]
    · rw [knF, h]; simp

end Go.Proofs.Qxb6614579a

/-
  THE PLAIN FUNCTIONS: no Go in sight.
-/
import Derived.Below
namespace Go.Proofs.Qxb6608861a

/-- Where c stands first, or -1. -/
def ixB (xs : List Int) (c : Int) : Int := if xs.idxOf c < xs.length then (xs.idxOf c : Int) else -1

theorem ixB_hit (xs : List Int) (c : Int) (k : Nat) (hk : k < xs.length) (h : xs.getD k 0 = c) (hn : ∀ j, j < k → xs.getD j 0 ≠ c) : ixB xs c = (k : Int) := by
  have e : xs.idxOf c = k := by
    induction xs generalizing k with
    | nil => simp at hk
    | cons x xs ih =>
      cases k with
      | zero => simp at h; subst h; simp
      | succ k =>
        have h0 := hn 0 (by omega)
        simp at h0
        rw [List.idxOf_cons]
        have hx : (x == c) = false := by simpa using h0
        rw [hx]
        simp at hk h
        have := ih k (by omega) (by simpa using h) (fun j hj => by have := hn (j + 1) (by omega); simpa using this)
        simp [this]
  unfold ixB
  rw [e, if_pos hk]

theorem ixB_miss (xs : List Int) (c : Int) (hn : ∀ j, j < xs.length → xs.getD j 0 ≠ c) : ixB xs c = -1 := by
  unfold ixB
  rw [if_neg]
  intro h
  refine hn _ h ?_
  simp [List.getD, h]

theorem ixB_range (xs : List Int) (c : Int) : -1 ≤ ixB xs c ∧ ixB xs c < xs.length := by
  unfold ixB; split <;> omega

/-- How often c stands there. -/
def cntB (xs : List Int) (c : Int) : Int := (xs.count c : Int)

theorem cntB_range (xs : List Int) (c : Int) : 0 ≤ cntB xs c ∧ cntB xs c ≤ xs.length := by
  unfold cntB; have := List.count_le_length (a := c) (l := xs); omega

theorem take_snoc (xs : List Int) (k : Nat) (h : k < xs.length) : xs.take (k + 1) = xs.take k ++ [xs.getD k 0] := by
  rw [List.take_succ_eq_append_getElem h]; simp [List.getD, h]

theorem cntB_step (xs : List Int) (c : Int) (k : Nat) (h : k < xs.length) : cntB (xs.take (k + 1)) c = cntB (xs.take k) c + if xs.getD k 0 = c then 1 else 0 := by
  rw [take_snoc xs k h]
  unfold cntB
  rw [List.count_append]
  by_cases e : xs.getD k 0 = c
  · rw [if_pos e, e]; simp
  · rw [if_neg e, List.count_cons, if_neg (by simpa using e)]; simp

/-- Are they the same? -/
def sameB (xs ys : List Int) : Bool := xs == ys

theorem sameB_len (xs ys : List Int) (h : xs.length ≠ ys.length) : sameB xs ys = false := by
  unfold sameB; rw [beq_eq_false_iff_ne]; intro e; exact h (by rw [e])

theorem sameB_part (xs ys : List Int) (k : Nat) (h : xs.getD k 0 ≠ ys.getD k 0) : sameB xs ys = false := by
  unfold sameB; rw [beq_eq_false_iff_ne]; intro e; exact h (by rw [e])

theorem sameB_all (xs ys : List Int) (hl : xs.length = ys.length) (h : ∀ j, j < xs.length → xs.getD j 0 = ys.getD j 0) : sameB xs ys = true := by
  unfold sameB
  rw [beq_iff_eq]
  apply List.ext_getElem hl
  intro i h1 h2
  have := h i h1
  simpa [List.getD, h1, h2] using this

/-- The ends never fall (from p on) and never pass n. -/
def endsOK (n : Int) : Int → List Int → Bool
  | _, [] => true
  | p, e :: es => if e < p ∨ n < e then false else endsOK n e es

/-- What stood last, or p. -/
def lastOr (p : Int) (xs : List Int) (k : Nat) : Int := if k = 0 then p else xs.getD (k - 1) 0

theorem endsOK_split (n p : Int) (xs : List Int) (k : Nat) (hk : k ≤ xs.length) (h : ∀ j, j < k → lastOr p xs j ≤ xs.getD j 0 ∧ xs.getD j 0 ≤ n) : endsOK n p xs = endsOK n (lastOr p xs k) (xs.drop k) := by
  induction k with
  | zero => simp [lastOr]
  | succ k ih =>
    rw [ih (by omega) (fun j hj => h j (by omega))]
    have hk' : k < xs.length := by omega
    have e : xs.drop k = xs.getD k 0 :: xs.drop (k + 1) := by rw [List.drop_eq_getElem_cons hk']; simp [List.getD, hk']
    rw [e]
    have := h k (by omega)
    simp only [endsOK]
    rw [if_neg (by omega)]
    simp [lastOr]

theorem endsOK_all (n p : Int) (xs : List Int) (h : ∀ j, j < xs.length → lastOr p xs j ≤ xs.getD j 0 ∧ xs.getD j 0 ≤ n) : endsOK n p xs = true := by
  rw [endsOK_split n p xs xs.length (Nat.le_refl _) h]; simp [endsOK]

theorem endsOK_bad (n p : Int) (xs : List Int) (k : Nat) (hk : k < xs.length) (h : ∀ j, j < k → lastOr p xs j ≤ xs.getD j 0 ∧ xs.getD j 0 ≤ n) (hb : xs.getD k 0 < lastOr p xs k ∨ n < xs.getD k 0) : endsOK n p xs = false := by
  rw [endsOK_split n p xs k (by omega) h]
  have e : xs.drop k = xs.getD k 0 :: xs.drop (k + 1) := by rw [List.drop_eq_getElem_cons hk]; simp [List.getD, hk]
  rw [e]
  simp only [endsOK]
  rw [if_pos hb]

theorem endsOK_out (n : Int) : ∀ (p : Int) (xs : List Int), endsOK n p xs = true → ∀ j, j < xs.length → lastOr p xs j ≤ xs.getD j 0 ∧ xs.getD j 0 ≤ n
  | p, [], _, j, hj => by simp at hj
  | p, e :: es, h, j, hj => by
    simp only [endsOK] at h
    split at h
    · simp at h
    · rename_i hc
      cases j with
      | zero => simp [lastOr]; omega
      | succ j =>
        have := endsOK_out n e es h j (by simpa using hj)
        cases j with
        | zero => simpa [lastOr] using this
        | succ j => simpa [lastOr] using this

/-- Is number i in the set? -/
def bitB (ws : List Int) (i : Nat) : Bool := decide (ws.getD (i / 64) 0 / 2 ^ (i % 64) % 2 = 1)

/-- The bytes of 'X-Prior-'. -/
def pfx : List Int := [88, 45, 80, 114, 105, 111, 114, 45]
def isPrior (f : List Int) : Bool := decide (8 ≤ f.length) && sameB (f.take 8) pfx && decide (0 ≤ ixB f 58) && decide (2 ≤ cntB (f.drop (ixB f 58 + 1).toNat) 59)

end Go.Proofs.Qxb6608861a

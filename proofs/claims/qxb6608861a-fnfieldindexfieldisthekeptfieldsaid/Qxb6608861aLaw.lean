/-
  THE PLAIN LAWS OF A RECORD: no Go in sight (the world's words come in by the import of 'Rec' alone).
-/
import Derived.Test.Qxb6608861aField
namespace Go.Proofs.Qxb6608861a
set_option linter.unusedVariables false

theorem idxOf_none (xs : List Int) (c : Int) (k : Nat) (hk : k < xs.idxOf c) : xs.getD k 0 ≠ c ∨ xs.length ≤ k := by
  induction xs generalizing k with
  | nil => right; simp
  | cons x xs ih =>
    rw [List.idxOf_cons] at hk
    by_cases e : x = c
    · subst e; simp at hk
    · have hb : (x == c) = false := by simpa using e
      rw [hb] at hk
      simp at hk
      cases k with
      | zero => left; simpa using e
      | succ k =>
        rcases ih k (by omega) with h | h
        · left; simpa using h
        · right; simp; omega

theorem ixB_out (xs : List Int) (c : Int) (k : Nat) (h : ixB xs c = (k : Int)) : k < xs.length ∧ xs.getD k 0 = c ∧ ∀ j, j < k → xs.getD j 0 ≠ c := by
  unfold ixB at h
  split at h
  · rename_i hl
    have e : xs.idxOf c = k := by omega
    subst e
    refine ⟨hl, by simp [List.getD, hl], fun j hj => ?_⟩
    rcases idxOf_none xs c j hj with h | h
    · exact h
    · omega
  · omega

theorem cntB_append (xs ys : List Int) (c : Int) : cntB (xs ++ ys) c = cntB xs c + cntB ys c := by
  unfold cntB; rw [List.count_append]; omega

theorem cntB_none (xs : List Int) (c : Int) (h : ∀ j, j < xs.length → xs.getD j 0 ≠ c) : cntB xs c = 0 := by
  unfold cntB
  rw [List.count_eq_zero.2]
  · rfl
  · intro hm
    obtain ⟨j, hj, e⟩ := List.mem_iff_getElem.1 hm
    exact h j hj (by simp [List.getD, hj, e])

theorem cntB_first (xs : List Int) (c : Int) (k : Nat) (h : ixB xs c = (k : Int)) : cntB (xs.take (k + 1)) c = 1 := by
  obtain ⟨h1, h2, h3⟩ := ixB_out xs c k h
  rw [cntB_step xs c k h1, if_pos h2, cntB_none]
  · rfl
  · intro j hj
    simp at hj
    have := h3 j (by omega)
    simpa [List.getD, show j < k from by omega] using this

theorem cntB_split (xs : List Int) (c : Int) (k : Nat) (h : ixB xs c = (k : Int)) : cntB xs c = 1 + cntB (xs.drop (k + 1)) c := by
  have e := cntB_append (xs.take (k + 1)) (xs.drop (k + 1)) c
  rw [List.take_append_drop, cntB_first xs c k h] at e
  exact e

theorem ixB_some (xs : List Int) (c : Int) (h : 1 ≤ cntB xs c) : ∃ k : Nat, ixB xs c = (k : Int) := by
  by_cases hn : 0 ≤ ixB xs c
  · exact Int.eq_ofNat_of_zero_le hn
  · exfalso
    have : cntB xs c = 0 := by
      apply cntB_none
      intro j hj e
      apply hn
      unfold ixB
      have : xs.idxOf c < xs.length := List.idxOf_lt_length_iff.2 (by rw [← e]; simp [List.getD, hj])
      rw [if_pos this]; omega
    omega

/-- A record has its parts. -/
theorem rec_of_prior (f : List Int) (h : isPrior f = true) : ∃ c i1 i2, Rec f c i1 i2 := by
  simp only [isPrior, Bool.and_eq_true, decide_eq_true_eq] at h
  obtain ⟨⟨⟨h8, hp⟩, h0⟩, h2⟩ := h
  obtain ⟨c, hc⟩ := Int.eq_ofNat_of_zero_le h0
  rw [hc, show ((c : Int) + 1).toNat = c + 1 from by omega] at h2
  obtain ⟨i1, h1⟩ := ixB_some _ _ (by omega : 1 ≤ cntB (f.drop (c + 1)) 59)
  have hs := cntB_split _ _ _ h1
  rw [List.drop_drop] at hs
  obtain ⟨i2, h2'⟩ := ixB_some (f.drop (c + 1 + (i1 + 1))) 59 (by omega)
  obtain ⟨g1, g2, g3⟩ := ixB_out _ _ _ h2'
  obtain ⟨k1, k2, k3⟩ := ixB_out _ _ _ hc
  refine ⟨c, i1, i2, hc, h1, h2', by simp at g1; omega, ?_⟩
  have hp' : f.take 8 = pfx := by simpa [sameB] using hp
  rcases (by omega : 8 ≤ c ∨ c < 8) with h | h
  · exact h
  · exfalso
    have e : f.getD c 0 = pfx.getD c 0 := by rw [← hp']; simp [List.getD, h]
    rw [k2] at e
    rcases (by omega : c = 0 ∨ c = 1 ∨ c = 2 ∨ c = 3 ∨ c = 4 ∨ c = 5 ∨ c = 6 ∨ c = 7) with rfl | rfl | rfl | rfl | rfl | rfl | rfl | rfl <;> simp [pfx] at e

theorem ixB_append (xs ys : List Int) (c : Int) (h : ∀ j, j < xs.length → xs.getD j 0 ≠ c) : ixB (xs ++ c :: ys) c = xs.length := by
  refine ixB_hit _ _ _ (by simp) (by simp) (fun j hj => ?_)
  have := h j hj
  simpa [List.getD, List.getElem?_append_left hj] using this


theorem Rec.at_c {f : List Int} {c i1 i2 : Nat} (R : Rec f c i1 i2) : f.getD c 0 = 58 := (ixB_out _ _ _ R.col).2.1
theorem Rec.no_c {f : List Int} {c i1 i2 : Nat} (R : Rec f c i1 i2) : ∀ j, j < c → f.getD j 0 ≠ 58 := (ixB_out _ _ _ R.col).2.2

theorem Rec.name {f : List Int} {c i1 i2 : Nat} (R : Rec f c i1 i2) : (kept f c (c + 1 + (i1 + 1) + (i2 + 1))).take (c - 8) = (f.take c).drop 8 := by
  have := R.le
  have e : ((f.take c).drop 8).length = c - 8 := by simp; omega
  rw [kept, List.append_assoc, List.take_append_of_le_length (by omega), List.take_of_length_le (by omega)]

theorem Rec.sep {f : List Int} {c i1 i2 : Nat} (R : Rec f c i1 i2) : (kept f c (c + 1 + (i1 + 1) + (i2 + 1))).getD (c - 8) 0 = 58 := by
  have := R.le
  have e : ((f.take c).drop 8).length = c - 8 := by simp; omega
  rw [kept, List.append_assoc, List.getD_eq_getElem?_getD, List.getElem?_append_right (by omega), e]
  simp

theorem Rec.tail {f : List Int} {c i1 i2 : Nat} (R : Rec f c i1 i2) : (kept f c (c + 1 + (i1 + 1) + (i2 + 1))).drop (c - 8 + 1) = f.drop (c + 1 + (i1 + 1) + (i2 + 1)) := by
  have := R.le
  have e : ((f.take c).drop 8 ++ [58]).length = c - 8 + 1 := by simp; omega
  rw [kept, List.drop_append_of_le_length (by omega), List.drop_of_length_le (by omega)]
  simp

theorem Rec.len {f : List Int} {c i1 i2 : Nat} (R : Rec f c i1 i2) : (kept f c (c + 1 + (i1 + 1) + (i2 + 1))).length = c - 8 + 1 + (f.length - (c + 1 + (i1 + 1) + (i2 + 1))) :=
  kept_length f c _ R.eight (by have := R.le; omega)

theorem Rec.last {f : List Int} {c i1 i2 : Nat} (R : Rec f c i1 i2) : f.getD (c + 1 + (i1 + 1) + i2) 0 = 59 := by
  have := (ixB_out _ _ _ R.two).2.1
  simpa [List.getD] using this

theorem Rec.mid {f : List Int} {c i1 i2 : Nat} (R : Rec f c i1 i2) : cntB ((f.take (c + 1 + (i1 + 1) + (i2 + 1))).drop (c + 1)) 59 = 2 := by
  have e : (f.take (c + 1 + (i1 + 1) + (i2 + 1))).drop (c + 1) = (f.drop (c + 1)).take (i1 + 1) ++ (f.drop (c + 1 + (i1 + 1))).take (i2 + 1) := by
    rw [List.drop_take, show c + 1 + (i1 + 1) + (i2 + 1) - (c + 1) = (i1 + 1) + (i2 + 1) from by omega, List.take_add, List.drop_drop]
  rw [e, cntB_append, cntB_first _ _ _ R.one, cntB_first _ _ _ R.two]
  rfl

/-- The first colon of the field that a record keeps stands behind its name. -/
theorem Rec.colon {f : List Int} {c i1 i2 : Nat} (R : Rec f c i1 i2) : ixB (kept f c (c + 1 + (i1 + 1) + (i2 + 1))) 58 = ((c - 8 : Nat) : Int) := by
  have hle := R.le
  have e : ((f.take c).drop 8).length = c - 8 := by simp; omega
  rw [kept, List.append_assoc, List.singleton_append, ixB_append, e]
  intro j hj
  have := R.no_c (8 + j) (by omega)
  simpa [List.getD, show 8 + j < c from by omega] using this

/-- All that the laws need of a record and of the field K that it keeps: d: the length of the name; P: where the kept value begins; T: how long it is. -/
structure KeptOf (F K : List Int) (d P T : Nat) : Prop where
  col : ixB F 58 = ((d + 8 : Nat) : Int)
  lt : d + 11 ≤ P
  flen : F.length = P + T
  len : K.length = d + 1 + T
  name : K.take d = (F.take (d + 8)).drop 8
  sep : K.getD d 0 = 58
  tail : K.drop (d + 1) = F.drop P
  last : F.getD (P - 1) 0 = 59
  mid : cntB ((F.take P).drop (d + 8 + 1)) 59 = 2
  colon : ixB K 58 = (d : Int)
  sep8 : F.getD (d + 8) 0 = 58

theorem Rec.keptOf {f : List Int} {c i1 i2 : Nat} (R : Rec f c i1 i2) : ∃ d P T, c = d + 8 ∧ c + 1 + (i1 + 1) + (i2 + 1) = P ∧ KeptOf f (kept f c P) d P T := by
  have h8 := R.eight
  have hle := R.le
  obtain ⟨d, rfl⟩ : ∃ d, c = d + 8 := ⟨c - 8, by omega⟩
  refine ⟨d, _, f.length - (d + 8 + 1 + (i1 + 1) + (i2 + 1)), rfl, rfl, ?_⟩
  have e8 : d + 8 - 8 = d := by omega
  have hl := R.len
  have hn := R.name
  have hs := R.sep
  have ht := R.tail
  have hc := R.colon
  rw [e8] at hl hn hs ht hc
  exact ⟨R.col, by omega, by omega, hl, hn, hs, ht, R.last, R.mid, hc, R.at_c⟩

theorem sameB_refl (xs : List Int) : sameB xs xs = true := by simp [sameB]
end Go.Proofs.Qxb6608861a

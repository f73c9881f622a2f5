import Derived.Test.Qxb6614579aMap
namespace Go.Proofs.Qxb6614579a
open Go.RowKit
open Go.ChangeMaps (setBlock)
set_option linter.unusedVariables false

theorem Frame.setBlock {S : List Nat} {a w : World} (h : Frame S a w) {b : Nat} (hb : b ∈ S) (o : Obj) : Frame S a (setBlock w b o) := by
  refine h.trans ⟨rfl, rfl, rfl, by simp [Go.ChangeMaps.setBlock], fun k hk hn => ?_⟩
  simp only [Go.ChangeMaps.setBlock]
  rw [Array.getElem?_setIfInBounds]
  have hne : ¬ b = k := fun e => hn (by rw [← e]; exact hb)
  rw [if_neg hne]

/-- What a map holds behind 'm[s] = v'. -/
def putF (f : ByteArray → Option Value) (s : ByteArray) (v : Value) : ByteArray → Option Value := fun x => if x = s then some v else f x

theorem mem_modify (es : Array MapEntry) (j : Nat) (g : MapEntry → MapEntry) (e0 : MapEntry) (hj : es[j]? = some e0) (s : ByteArray) (hk : e0.key = .string s) (hn : (es.toList.map (·.key)).Nodup) (x : MapEntry) :
    x ∈ (es.modify j g).toList ↔ x = g e0 ∨ (x ∈ es.toList ∧ x.key ≠ .string s) := by
  have key : ∀ i y, es[i]? = some y → y.key = .string s → i = j := fun i y hy hs => by
    have h1 : (es.toList.map (·.key))[i]? = some (.string s) := by simp [hy, hs]
    have h2 : (es.toList.map (·.key))[j]? = some (.string s) := by simp [hj, hk]
    exact (List.getElem?_inj (by simpa using (Array.getElem?_eq_some_iff.1 hy).1) hn).1 (h1.trans h2.symm)
  rw [Array.mem_toList_iff, Array.mem_toList_iff, Array.mem_iff_getElem?, Array.mem_iff_getElem?]
  constructor
  · rintro ⟨i, hi⟩
    rw [Array.getElem?_modify] at hi
    split at hi
    · rename_i hji
      subst hji
      rw [hj] at hi
      simp at hi
      exact .inl hi.symm
    · rename_i hji
      exact .inr ⟨⟨i, hi⟩, fun e => hji (key i x hi e).symm⟩
  · rintro (rfl | ⟨⟨i, hi⟩, hne⟩)
    · exact ⟨j, by rw [Array.getElem?_modify, if_pos rfl, hj]; rfl⟩
    · refine ⟨i, ?_⟩
      rw [Array.getElem?_modify, if_neg]
      · exact hi
      · rintro rfl
        rw [hj] at hi
        cases hi
        exact hne hk

theorem MapOf.update {P : Program} {w : World} {b : Nat} {f : ByteArray → Option Value} (h : MapOf w b f) {t k e : TypeId} (ht : P.underlying t = some (.map k e)) (hk : P.underlying k = some .string) (s : ByteArray) (v : Value) :
    ∃ w', (Instr.mapUpdate t (.map (some b)) (.string s) v).run P w = .ok () w' ∧ MapOf w' b (putF f s v) ∧ Frame [b] w w' := by
  obtain ⟨es, clock, hb, hst, h1, h2⟩ := h
  have hks : ∀ x ∈ es.toList, MapKept.IsKey .string x.key := fun x hx => by
    obtain ⟨s, e1, _⟩ := h1 x hx
    rw [e1]; trivial
  have hlt : b < w.heap.size := (Array.getElem?_eq_some_iff.1 hb).1
  rcases MapKept.findNow_spec (d := .string) (k := .string s) trivial es.toList 0 hks with ⟨g1, g2⟩ | ⟨j, e0, g1, g2, g3⟩
  · refine ⟨Go.ChangeMaps.setBlock w b (.map (es.push { key := .string s, val := v, born := clock }) (clock + 1)), ?_, ?_, (Frame.refl _ _).setBlock (by simp) _⟩
    · simp [Instr.mapUpdate, run_underlying ht, MapKept.run_getObj_map hb, MapKept.run_checkKey hk (k := .string s) trivial, MapKept.run_findKey hk g1, MapKept.run_setObj_map _ hb, Result.andThen, Go.ChangeMaps.setBlock]
    · refine ⟨_, _, (MapKept.heap_set hb).1, MapKept.stamped_push hst g2, ?_, ?_⟩
      · intro x hx
        simp only [Array.toList_push, List.mem_append, List.mem_singleton] at hx
        rcases hx with hx | rfl
        · obtain ⟨s', e1, e2⟩ := h1 x hx
          refine ⟨s', e1, ?_⟩
          have hne : ¬ s' = s := fun e => g2 x hx (by rw [e1, e])
          simp only [putF, if_neg hne]
          exact e2
        · exact ⟨s, rfl, by simp [putF]⟩
      · intro s' v' hv
        by_cases hs : s' = s
        · subst hs
          simp only [putF, if_pos] at hv
          cases hv
          exact ⟨_, by simp; exact .inr rfl, rfl, rfl⟩
        · simp only [putF, if_neg hs] at hv
          obtain ⟨x, hx, e1, e2⟩ := h2 s' v' hv
          exact ⟨x, by simp; exact .inl (by simpa using hx), e1, e2⟩
  · have hj : es[j]? = some e0 := by simpa using g2
    have hj2 : j < es.size := (Array.getElem?_eq_some_iff.1 hj).1
    refine ⟨Go.ChangeMaps.setBlock w b (.map (es.modify j fun e => { e with key := .string s, val := v }) clock), ?_, ?_, (Frame.refl _ _).setBlock (by simp) _⟩
    · simp [Instr.mapUpdate, run_underlying ht, MapKept.run_getObj_map hb, MapKept.run_checkKey hk (k := .string s) trivial, MapKept.run_findKey hk g1, hj, g3, MapKept.run_keyThatStays (d := .string) (k := .string s) trivial, MapKept.run_setObj_map _ hb, Result.andThen, Go.ChangeMaps.setBlock]
    · have hkey : ∀ e', es[j]? = some e' → ({ e' with key := .string s, val := v } : MapEntry).key = e'.key := fun e' he' => by rw [hj] at he'; cases he'; exact g3.symm
      have hmem : ∀ x, x ∈ (es.modify j fun e => { e with key := .string s, val := v }).toList ↔ x = { e0 with key := .string s, val := v } ∨ (x ∈ es.toList ∧ x.key ≠ .string s) := by
        exact fun x => mem_modify es j _ e0 hj s g3 hst.2.2 x
      refine ⟨_, _, (MapKept.heap_set hb).1, MapKept.stamped_modify hst _ _ (fun _ _ => rfl) (fun e' _ he' => hkey e' he'), ?_, ?_⟩
      · intro x hx
        rcases (hmem x).1 hx with rfl | ⟨hx, hne⟩
        · exact ⟨s, rfl, by simp [putF]⟩
        · obtain ⟨s', e1, e2⟩ := h1 x hx
          refine ⟨s', e1, ?_⟩
          have hn2 : ¬ s' = s := fun e => hne (by rw [e1, e])
          simp only [putF, if_neg hn2]
          exact e2
      · intro s' v' hv
        by_cases hs : s' = s
        · subst hs
          simp only [putF, if_pos] at hv
          cases hv
          exact ⟨_, (hmem _).2 (.inl rfl), rfl, rfl⟩
        · simp only [putF, if_neg hs] at hv
          obtain ⟨x, hx, e1, e2⟩ := h2 s' v' hv
          exact ⟨x, (hmem _).2 (.inr ⟨hx, by rw [e1]; intro e; cases e; exact hs rfl⟩), e1, e2⟩

end Go.Proofs.Qxb6614579a

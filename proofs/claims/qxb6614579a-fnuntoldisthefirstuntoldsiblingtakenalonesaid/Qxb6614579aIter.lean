import Derived.Test.Qxb6614579aMap2
namespace Go.Proofs.Qxb6614579a
open Go.RowKit
open Go.ChangeMaps (setBlock)
set_option linter.unusedVariables false

/-- Block r is an iterator over the map in block b, which holds f: 'done' has come, 'cnt' entries are to come. -/
def Iter (w : World) (r b : Nat) (f : ByteArray → Option Value) (done : ByteArray → Prop) (cnt : Nat) : Prop :=
  ∃ es clock since seen c0, w.heap[r]? = some (.mapIter (some b) since seen c0) ∧ w.heap[b]? = some (.map es clock) ∧ MapKept.Stamped es clock ∧ (∀ x ∈ es.toList, x.born < since) ∧ since ≤ c0 ∧ since ≤ clock ∧
    (∀ e ∈ es.toList, ∃ s, e.key = .string s ∧ f s = some e.val) ∧ (∀ s v, f s = some v → ∃ e ∈ es.toList, e.key = .string s ∧ e.val = v) ∧
    (∀ e ∈ es.toList, ∀ s, e.key = .string s → (seen.contains e.born = true ↔ done s)) ∧ (leftOf es seen).size = cnt

theorem Iter.frame {S : List Nat} {w w' : World} {r b cnt : Nat} {f : ByteArray → Option Value} {done : ByteArray → Prop} (h : Iter w r b f done cnt) (hf : Frame S w w') (hr : r ∉ S) (hb : b ∉ S) : Iter w' r b f done cnt := by
  obtain ⟨es, clock, since, seen, c0, h1, h2, h3⟩ := h
  exact ⟨es, clock, since, seen, c0, hf.obj h1 hr, hf.obj h2 hb, h3⟩

theorem Iter.start {w : World} {b : Nat} {f : ByteArray → Option Value} (h : MapOf w b f) {P : Program} {t k e : TypeId} (ht : P.underlying t = some (.map k e)) :
    ∃ w' cnt, (Instr.range t (.map (some b))).run P w = .ok (.pointer (some ⟨w.heap.size, 0, none⟩)) w' ∧ Iter w' w.heap.size b f (fun _ => False) cnt ∧ Below w.heap.size w w' := by
  obtain ⟨es, clock, hb, hst, h1, h2⟩ := h
  have hlt : b < w.heap.size := (Array.getElem?_eq_some_iff.1 hb).1
  refine ⟨w.alloc (.mapIter (some b) clock #[] clock), _, ?_, ⟨es, clock, clock, #[], clock, heap_alloc_new w _, (Below.heap_alloc w _ b hlt).trans hb, hst, hst.1, Nat.le_refl _, Nat.le_refl _, h1, h2, fun e he s hs => by simp, rfl⟩, (Below.refl _ _).alloc (Nat.le_refl _) _⟩
  exact run_range_map w t k e b es clock ht hb

theorem Iter.over {w : World} {r b : Nat} {f : ByteArray → Option Value} {done : ByteArray → Prop} (h : Iter w r b f done 0) : ∀ s v, f s = some v → done s := by
  obtain ⟨es, clock, since, seen, c0, h1, h2, h3, h4, h5, h5b, h6, h7, h8, h9⟩ := h
  intro s v hf
  obtain ⟨e, he, hk, _⟩ := h7 s v hf
  refine (h8 e he s hk).1 ?_
  exact all_seen es seen h9 e he

theorem born_inj {l : List MapEntry} (h : (l.map (·.born)).Nodup) {x y : MapEntry} (hx : x ∈ l) (hy : y ∈ l) (e : x.born = y.born) : x = y := by
  have h1 := find_born x l h hx
  have h2 := find_born y l h hy
  rw [e] at h1
  rw [h1] at h2
  exact Option.some.inj h2
theorem key_inj {l : List MapEntry} (h : (l.map (·.key)).Nodup) {x y : MapEntry} (hx : x ∈ l) (hy : y ∈ l) (e : x.key = y.key) : x = y := by
  obtain ⟨i, hi⟩ := List.mem_iff_getElem?.1 hx
  obtain ⟨j, hj⟩ := List.mem_iff_getElem?.1 hy
  have h1 : (l.map (·.key))[i]? = some x.key := by simp [hi]
  have h2 : (l.map (·.key))[j]? = some x.key := by simp [hj, e]
  have hij := (List.getElem?_inj (by simpa using (List.getElem?_eq_some_iff.1 hi).1) h).1 (h1.trans h2.symm)
  subst hij
  rw [hi] at hj
  exact Option.some.inj hj

theorem Iter.next {P : Program} {w : World} {r b cnt : Nat} {f : ByteArray → Option Value} {done : ByteArray → Prop} (h : Iter w r b f done cnt) (ty : TypeId) :
    (cnt = 0 ∧ (Instr.next (.pointer (some ⟨r, 0, none⟩)) false ty).run P w = .ok (.tuple #[.bool false]) w) ∨
    ∃ s v w' cnt', f s = some v ∧ ¬ done s ∧ cnt' < cnt ∧ (Instr.next (.pointer (some ⟨r, 0, none⟩)) false ty).run P w = .ok (.tuple #[.bool true, .string s, v]) w' ∧
      Iter w' r b f (fun x => done x ∨ x = s) cnt' ∧ Frame [r] w w' ∧ (Instr.entry (.pointer (some ⟨r, 0, none⟩))).run P w' = .ok (.tuple #[.string s, v]) w' := by
  obtain ⟨es, clock, since, seen, c0, h1, h2, h3, h4, h5, h5b, h6, h7, h8, h9⟩ := h
  rcases run_next_at (P := P) w ty r b since c0 seen es clock h1 h2 h4 h5 with ⟨g1, g2⟩ | ⟨e, he, w1, hw1, hrun⟩
  · exact .inl ⟨by omega, g2⟩
  · obtain ⟨hm, hs⟩ := mem_left he
    obtain ⟨s, hk, hf⟩ := h6 e hm
    have hrb : r ≠ b := by rintro rfl; rw [h1] at h2; cases h2
    have hw1h : w1.heap = w.heap := by rcases hw1 with rfl | rfl <;> rfl
    have hF1 : Frame [r] w w1 := by
      rcases hw1 with rfl | rfl
      · exact Frame.refl _ _
      · exact (Frame.refl _ _).drew
    have hF : Frame [r] w (Go.ChangeMaps.setBlock w1 r (.mapIter (some b) since (seen.push e.born) clock)) := hF1.setBlock (by simp) _
    have hr' : (Go.ChangeMaps.setBlock w1 r (.mapIter (some b) since (seen.push e.born) clock)).heap[r]? = some (.mapIter (some b) since (seen.push e.born) clock) := by
      have hlt : r < w.heap.size := (Array.getElem?_eq_some_iff.1 h1).1
      simp [Go.ChangeMaps.setBlock, hw1h, hlt]
    have hb' := hF.obj h2 (by simp; omega)
    refine .inr ⟨s, e.val, _, (leftOf es (seen.push e.born)).size, hf, fun hd => ?_, ?_, by rw [← hk]; exact hrun, ?_, hF, ?_⟩
    · have := (h8 e hm s hk).2 hd
      rw [hs] at this
      cases this
    · rw [← h9]; exact left_shrinks es seen e he
    · refine ⟨es, clock, since, seen.push e.born, clock, hr', hb', h3, h4, h5b, h5b, h6, h7, ?_, rfl⟩
      · intro x hx s' hs'
        rw [contains_push]
        constructor
        · intro hc
          rw [Bool.or_eq_true] at hc
          rcases hc with hc | hc
          · exact .inl ((h8 x hx s' hs').1 hc)
          · have hxe : x = e := born_inj h3.2.1 hx hm (by simpa using hc)
            subst hxe
            rw [hk] at hs'
            cases hs'
            exact .inr rfl
        · rintro (hd | rfl)
          · rw [(h8 x hx s' hs').2 hd]; rfl
          · have hxe : x = e := key_inj h3.2.2 hx hm (by rw [hs', hk])
            subst hxe
            simp
    · rw [← hk]
      exact run_entry_at _ r b since seen es clock e hr' hb' hm h3.2.1

end Go.Proofs.Qxb6614579a

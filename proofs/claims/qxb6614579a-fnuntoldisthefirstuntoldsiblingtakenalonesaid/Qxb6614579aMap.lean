import Derived.Test.Qxb6614579aView
import Derived.Maps.RangeRun
import Derived.MapKept
namespace Go.Proofs.Qxb6614579a
open Go.RowKit
open Go.ChangeMaps (setBlock)
set_option linter.unusedVariables false

/-- Block b is a map whose keys are strings: f says what it holds. -/
def MapOf (w : World) (b : Nat) (f : ByteArray → Option Value) : Prop :=
  ∃ es clock, w.heap[b]? = some (.map es clock) ∧ MapKept.Stamped es clock ∧ (∀ e ∈ es.toList, ∃ s, e.key = .string s ∧ f s = some e.val) ∧ ∀ s v, f s = some v → ∃ e ∈ es.toList, e.key = .string s ∧ e.val = v

theorem MapOf.frame {S : List Nat} {w w' : World} {b : Nat} {f : ByteArray → Option Value} (h : MapOf w b f) (hf : Frame S w w') (hn : b ∉ S) : MapOf w' b f := by
  obtain ⟨es, clock, h1, h2⟩ := h
  exact ⟨es, clock, hf.obj h1 hn, h2⟩

theorem MapOf.lt {w : World} {b : Nat} {f : ByteArray → Option Value} (h : MapOf w b f) : b < w.heap.size := by
  obtain ⟨es, clock, h1, _⟩ := h
  exact (Array.getElem?_eq_some_iff.1 h1).1

theorem MapOf.new (w : World) : MapOf (w.alloc (.map #[] 0)) w.heap.size (fun _ => none) :=
  ⟨#[], 0, heap_alloc_new w _, ⟨by simp, by simp, by simp⟩, by simp, fun s v h => by simp at h⟩

theorem MapOf.lookup {P : Program} {w : World} {b : Nat} {f : ByteArray → Option Value} (h : MapOf w b f) {t k e : TypeId} {z : Value} (ht : P.underlying t = some (.map k e)) (hk : P.underlying k = some .string) (hz : (zeroValue e).run P w = .ok z w) (s : ByteArray) :
    (Instr.lookup t (.map (some b)) (.string s) false).run P w = .ok ((f s).getD z) w := by
  obtain ⟨es, clock, hb, hst, h1, h2⟩ := h
  have hks : ∀ x ∈ es.toList, MapKept.IsKey .string x.key := fun x hx => by
    obtain ⟨s, e1, _⟩ := h1 x hx
    rw [e1]; trivial
  rcases MapKept.findNow_spec (d := .string) (k := .string s) trivial es.toList 0 hks with ⟨g1, g2⟩ | ⟨j, e0, g1, g2, g3⟩
  · have hn : f s = none := by
      cases hf : f s with
      | none => rfl
      | some v =>
        obtain ⟨x, hx, e1, _⟩ := h2 s v hf
        exact absurd e1 (g2 x hx)
    simp [Instr.lookup, run_underlying ht, MapKept.run_getObj_map hb, MapKept.run_checkKey hk (k := .string s) trivial, MapKept.run_findKey hk g1, hz, hn, Result.andThen]
  · obtain ⟨s', e1, e2⟩ := h1 e0 (List.mem_of_getElem? g2)
    rw [e1] at g3
    cases g3
    simp [Instr.lookup, run_underlying ht, MapKept.run_getObj_map hb, MapKept.run_checkKey hk (k := .string s) trivial, MapKept.run_findKey hk g1, e2, Result.andThen]

theorem lookup_nil {P : Program} {w : World} {t k e : TypeId} {z : Value} (ht : P.underlying t = some (.map k e)) (hk : P.underlying k = some .string) (hz : (zeroValue e).run P w = .ok z w) (s : ByteArray) :
    (Instr.lookup t (.map none) (.string s) false).run P w = .ok z w := by
  simp [Instr.lookup, run_underlying ht, MapKept.run_checkKey hk (k := .string s) trivial, MapKept.run_findKey hk (k := .string s) (l := []) rfl, hz, Result.andThen]

end Go.Proofs.Qxb6614579a

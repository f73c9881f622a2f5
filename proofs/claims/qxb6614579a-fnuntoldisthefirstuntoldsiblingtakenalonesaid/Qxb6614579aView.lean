import Derived.Test.Qxb6614579aProg
import Derived.WalkKit
import Derived.WalkSpells
import Derived.WalkLawsBesides
import Derived.Laws.CopyOwn
namespace Go.Proofs.Qxb6614579a
open Go.RowKit
set_option linter.unusedVariables false

/-- The elements of a slice at 'a' read as the numbers zs. -/
def View (k : IntKind) (w : World) (a : Option Addr) (zs : List Int) : Prop :=
  ∀ i, i < zs.length → ∃ b off, a = some ⟨b, off, none⟩ ∧ w.cell? ⟨b, off + i, none⟩ = some (.int k (zs.getD i 0))

theorem View.nil (k : IntKind) (w : World) (a : Option Addr) : View k w a [] := by
  intro i hi; simp at hi

theorem View.below {k : IntKind} {w w' : World} {a : Option Addr} {zs : List Int} (h : View k w a zs) (hb : Below w.heap.size w w') : View k w' a zs := by
  intro i hi
  obtain ⟨b, off, rfl, hc⟩ := h i hi
  exact ⟨b, off, rfl, (hb.cell (p := ⟨b, off + i, none⟩) (block_lt_of_cell hc)).trans hc⟩

theorem Below.step {w w1 w2 : World} (h : Below w.heap.size w w1) (k : Below w1.heap.size w1 w2) : Below w.heap.size w w2 :=
  h.trans (k.mono h.size)


theorem View.drewN {k : IntKind} {w : World} {a : Option Addr} {xs : List Int} (h : View k w a xs) (n : Nat) : View k (w.drewN n) a xs := h

theorem View.at {k : IntKind} {w : World} {b off : Nat} {xs : List Int} {lo : Nat} (h : View k w (some ⟨b, off, none⟩) xs) : View k w (some ⟨b, off + lo, none⟩) (xs.drop lo) := by
  intro i hi'
  simp at hi'
  obtain ⟨b', off', e, hc⟩ := h (lo + i) (by omega)
  simp at e
  obtain ⟨rfl, rfl⟩ := e
  refine ⟨b, off + lo, rfl, ?_⟩
  rw [Nat.add_assoc, hc]
  simp [List.getD]

theorem View.take {k : IntKind} {w : World} {a : Option Addr} {xs : List Int} {hi : Nat} (h : View k w a xs) : View k w a (xs.take hi) := by
  intro i hi'
  simp at hi'
  obtain ⟨b, off, rfl, hc⟩ := h i (by omega)
  refine ⟨b, off, rfl, ?_⟩
  rw [hc]
  simp [List.getD, show i < hi from by omega]

/-- The numbers of a view, as the cells that an append reads. -/
theorem View.news {w : World} {a : Option Addr} {xs : List Int} (h : View .u8 w a xs) : ∀ ad, a = some ad → ∀ j u, (xs.map (Value.int .u8))[j]? = some u → w.cell? (ad.add j) = some u := by
  intro ad had j u hu
  have hj : j < xs.length := by simpa using (List.getElem?_eq_some_iff.1 hu).1
  obtain ⟨b, off, e, hc⟩ := h j hj
  rw [had] at e
  obtain rfl := Option.some.inj e
  rw [Addr.add_lit, hc, ← hu]
  simp [List.getD, hj]

/-- A row of bytes, as a view of its first cells. -/
theorem View.of_row {w : World} {g : Nat} {xs : List Int} {fr : Nat × Nat} {t : TypeId} {cs : Array Value} (h : w.heap[g]? = some (.cells cs t fr)) (hc : ∀ j, j < xs.length → cs[j]? = some (.int .u8 (xs.getD j 0))) : View .u8 w (some ⟨g, 0, none⟩) xs := by
  intro i hi
  refine ⟨g, 0, rfl, ?_⟩
  rw [Nat.zero_add, cell_of_row w g i cs t fr h, hc i hi]

theorem ret_int {k : IntKind} {a b : Int} (h : a = b) : Ending.returned (.int k a) = .returned (.int k b) := by rw [h]
theorem ret_bool {a b : Bool} (h : a = b) : Ending.returned (.bool a) = .returned (.bool b) := by rw [h]

/-- Which blocks may have turned: those of S, and none else that was there. -/
structure Frame (S : List Nat) (w w' : World) : Prop where
  os : w'.os = w.os
  tape : w'.tape = w.tape
  output : w'.output = w.output
  size : w.heap.size ≤ w'.heap.size
  block : ∀ k, k < w.heap.size → k ∉ S → w'.heap[k]? = w.heap[k]?

theorem Frame.refl (S : List Nat) (w : World) : Frame S w w := ⟨rfl, rfl, rfl, Nat.le_refl _, fun _ _ _ => rfl⟩
theorem Frame.trans {S : List Nat} {a b c : World} (h : Frame S a b) (k : Frame S b c) : Frame S a c :=
  ⟨k.os.trans h.os, k.tape.trans h.tape, k.output.trans h.output, Nat.le_trans h.size k.size, fun i hi hn => (k.block i (Nat.lt_of_lt_of_le hi h.size) hn).trans (h.block i hi hn)⟩
theorem Frame.drewN {S : List Nat} {a w : World} (h : Frame S a w) (n : Nat) : Frame S a (w.drewN n) := h.trans ⟨rfl, rfl, rfl, Nat.le_refl _, fun _ _ _ => rfl⟩
theorem Frame.drew {S : List Nat} {a w : World} (h : Frame S a w) : Frame S a w.drew := h.drewN 1
theorem Frame.setCell {S : List Nat} {a w : World} (h : Frame S a w) {p : Addr} (hp : p.block ∈ S) (u : Value) : Frame S a (w.setCell p u) :=
  h.trans ⟨rfl, rfl, rfl, by simp [World.setCell], fun k _ hn => Below.heap_setCell _ _ _ _ (fun e => hn (e ▸ hp))⟩
theorem Frame.alloc {S : List Nat} {a w : World} (h : Frame S a w) (o : Obj) : Frame S a (w.alloc o) :=
  h.trans ⟨rfl, rfl, rfl, by simp, fun k hk _ => Below.heap_alloc _ _ _ hk⟩
theorem Frame.setRow {S : List Nat} {a w : World} (h : Frame S a w) {g : Nat} (hg : g ∈ S) (cs : Array Value) : Frame S a (w.setRow g cs) :=
  h.trans ⟨rfl, rfl, rfl, by simp [World.setRow], fun k _ hn => setRow_other w g k cs (fun e => hn (e ▸ hg))⟩
theorem Frame.of_below {S : List Nat} {w w' : World} (h : Below w.heap.size w w') : Frame S w w' := ⟨h.os, h.tape, h.output, h.size, fun k hk _ => h.block k hk⟩
theorem Frame.below {S : List Nat} {w w' : World} {B : Nat} (h : Frame S w w') (hB : B ≤ w.heap.size) (hS : ∀ k ∈ S, B ≤ k) : Below B w w' :=
  ⟨h.os, h.tape, h.output, h.size, fun k hk => h.block k (by omega) (fun hm => by have := hS k hm; omega)⟩
theorem Frame.mono {S T : List Nat} {w w' : World} (h : Frame S w w') (hS : ∀ k ∈ S, k ∈ T) : Frame T w w' := ⟨h.os, h.tape, h.output, h.size, fun k hk hn => h.block k hk (fun hm => hn (hS k hm))⟩
theorem Frame.cell {S : List Nat} {w w' : World} (h : Frame S w w') {p : Addr} {v : Value} (hc : w.cell? p = some v) (hn : p.block ∉ S) : w'.cell? p = some v := by
  rw [World.cell?_of_block (h.block p.block (block_lt_of_cell hc) hn)]; exact hc
theorem Frame.obj {S : List Nat} {w w' : World} (h : Frame S w w') {g : Nat} {o : Obj} (hc : w.heap[g]? = some o) (hn : g ∉ S) : w'.heap[g]? = some o := by
  rw [h.block g (Array.getElem?_eq_some_iff.1 hc).1 hn]; exact hc
theorem View.frame {S : List Nat} {k : IntKind} {w w' : World} {a : Option Addr} {xs : List Int} (h : View k w a xs) (hf : Frame S w w') (hn : ∀ b off, a = some ⟨b, off, none⟩ → b ∉ S) : View k w' a xs := by
  intro i hi
  obtain ⟨b, off, e, hc⟩ := h i hi
  exact ⟨b, off, e, hf.cell hc (hn b off e)⟩

end Go.Proofs.Qxb6614579a

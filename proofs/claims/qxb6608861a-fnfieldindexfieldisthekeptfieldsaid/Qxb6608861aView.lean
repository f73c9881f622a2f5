import Derived.Test.Qxb6608861aProg
import Derived.WalkKit
import Derived.WalkSpells
import Derived.WalkLawsBesides
namespace Go.Proofs.Qxb6608861a
open Go.RowKit

/-- The elements of a slice at 'a' read as the numbers zs. -/
def View (k : IntKind) (w : World) (a : Option Addr) (zs : List Int) : Prop :=
  ∀ i, i < zs.length → ∃ b off, a = some ⟨b, off, none⟩ ∧ w.cell? ⟨b, off + i, none⟩ = some (.int k (zs.getD i 0))

theorem View.nil (k : IntKind) (w : World) (a : Option Addr) : View k w a [] := by
  intro i hi; simp at hi

theorem View.below {k : IntKind} {w w' : World} {a : Option Addr} {zs : List Int} (h : View k w a zs) (hb : Below w.heap.size w w') : View k w' a zs := by
  intro i hi
  obtain ⟨b, off, rfl, hc⟩ := h i hi
  exact ⟨b, off, rfl, (hb.cell (p := ⟨b, off + i, none⟩) (block_lt_of_cell hc)).trans hc⟩

theorem Below.step {w w1 w2 : World} (h : Below w.heap.size w w1) (k : Below w1.heap.size w1 w2) : Below w.heap.size w w2 :=
  h.trans (k.mono h.size)

end Go.Proofs.Qxb6608861a

import Derived.Test.Qxb6614770aFmtPv
namespace Go.Proofs.Qxb6614770aFmt
open Go.RowKit
set_option linter.unusedVariables false

theorem zprev_of (g : Nat) (w : World) (R : Ending → World → Prop) (h : Calls Tryf.prog 13 #[.pointer (some ⟨g, 0, none⟩)] w fun e w' => ∃ x y z, e = .returned (.tuple #[x, y, z]) ∧ R e w') :
    Calls Tryf.prog 9 #[.pointer (some ⟨g, 0, none⟩)] w R := by
  have T : Hid _ := h
  clear h
  go_enter Tryf.func9, Tryf.ntmps9
  go_wp2_with fail
  refine Calls.mono T.out ?_
  clear T
  rintro e W1 ⟨x, y, z, rfl, hR⟩
  go_wp2
  go_ret3
  exact hR

theorem zprev_any (L g q N s k e : Nat) (da : Option Addr) (D : List Int) (eof : Value) (w : World) (R : Rv w L g q da N s k D) (hb : Byt D) (hse : s + k = e) (hno : NoNl D s e) (hL : 1 ≤ L) (he : w.cell? ⟨0, 0, none⟩ = some eof) :
    Calls Tryf.prog 9 #[.pointer (some ⟨g, 0, none⟩)] w (PrevPost w L g q da N s e D eof) := by
  refine zprev_of g w _ (Calls.mono (prev_any L g q N s k e da D eof w R hb hse hno hL he) ?_)
  intro x w' hp
  rcases hp.2 with ⟨_, rfl, _⟩ | ⟨a', c', o, m, _, _, rfl, _⟩
  · exact ⟨_, _, _, rfl, hp⟩
  · exact ⟨_, _, _, rfl, hp⟩

set_option maxHeartbeats 1000000 in
theorem znew_any (N L : Nat) (da : Option Addr) (D : List Int) (w : World) (hD : View .u8 w da D) (hl : D.length = N) (hN : N ≤ 1048576) (hda : 0 < N → ∃ dd, da = some ⟨dd, 0, none⟩) (hL : L ≤ w.heap.size) :
    Calls Tryf.prog 8 #[.slice da N N] w fun e w' => ∃ g q, e = .returned (.pointer (some ⟨g, 0, none⟩)) ∧ Rv w' L g q da N N 0 D ∧ Below L w w' := by
  obtain ⟨W1, hW1⟩ : ∃ W, W = w.alloc (.cells #[.slice da N N, .int .i64 0, .int .i64 (-1)] 41 (0, 0)) := ⟨_, rfl⟩
  have T : Hid _ := bnew_any da N w
  rw [← hW1] at T
  have sz1 : W1.heap.size = w.heap.size + 1 := by rw [hW1]; simp
  have q1 : W1.heap[w.heap.size]? = some (.cells #[.slice da N N, .int .i64 0, .int .i64 (-1)] 41 (0, 0)) := by rw [hW1]; exact heap_alloc_new w _
  have b1 : Below w.heap.size w W1 := by rw [hW1]; exact (Below.refl _ _).alloc (Nat.le_refl _) _
  have hD1 := hD.below b1
  have hdd : 0 < N → ∃ dd, da = some ⟨dd, 0, none⟩ ∧ dd < w.heap.size := fun h0 => by
    obtain ⟨dd, rfl⟩ := hda h0
    obtain ⟨b9, o9, e9, cL⟩ := hD 0 (by omega)
    simp at e9
    obtain ⟨rfl, rfl⟩ := e9
    exact ⟨dd, rfl, block_lt_of_cell cL⟩
  have SZ : Hid _ := sz1
  have HDD : Hid _ := hdd
  have HL : Hid _ := hl
  clear sz1 hW1 hdd hda hl
  go_enter Tryf.func8, Tryf.ntmps8
  go_wp2_with fail
  refine Calls.mono T.out ?_
  clear T
  rintro e w' ⟨rfl, hww⟩
  have hw2 := hww.symm
  subst hw2
  go_wp2
  go_ret
  have z := SZ.out
  have b2 : Below W1.heap.size W1 (W1.alloc (.cells #[.iface 33 (.pointer (some ⟨w.heap.size, 0, none⟩)), .slice none 0 0, .int .i64 N] 38 (0, 0))) := (Below.refl _ _).alloc (Nat.le_refl _) _
  have hq := (b2.block _ (by omega)).trans q1
  refine ⟨W1.heap.size, w.heap.size, rfl, ⟨hq, hD1.below b2, HL.out, hN, by omega, fun h0 => ?_, by omega, hL, by omega, none, 0, heap_alloc_new W1 _, by rw [List.take_zero]; exact View.nil _ _ _, .inl ⟨rfl, rfl, rfl⟩⟩, (Below.step b1 b2).mono hL⟩
  obtain ⟨dd, e1, e2⟩ := HDD.out h0
  exact ⟨dd, e1, by omega, by omega⟩

end Go.Proofs.Qxb6614770aFmt

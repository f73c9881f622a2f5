import Derived.Test.Qxb6612819aDoorRl3
import Derived.Stop.Asserts
import Derived.Laws.MakeOwn
namespace Go.Proofs.Qxb6612819aDoor
open Go.RowKit
set_option linter.unusedVariables false

theorem bnew_any (dd N : Nat) (w : World) :
    Calls Tryd.prog 16 #[.slice (some ⟨dd, 0, none⟩) N N] w fun e w' => e = .returned (.pointer (some ⟨w.heap.size, 0, none⟩)) ∧
      w' = w.alloc (.cells #[.slice (some ⟨dd, 0, none⟩) N N, .int .i64 0, .int .i64 (-1)] 47 (0, 0)) := by
  go_enter Tryd.func16, Tryd.ntmps16
  go_wp2
  go_ret
  exact ⟨rfl, rfl⟩

abbrev zeroBr : Array Value := #[.slice none 0 0, .nilIface, .int .i64 0, .int .i64 0, .nilIface, .int .i64 0, .int .i64 0]

set_option maxHeartbeats 1000000 in
theorem reset_any (g bb q : Nat) (w : World) (hg : w.heap[g]? = some (.cells zeroBr 44 (0, 0))) :
    Calls Tryd.prog 19 #[.pointer (some ⟨g, 0, none⟩), .slice (some ⟨bb, 0, none⟩) 10000 10000, .iface 38 (.pointer (some ⟨q, 0, none⟩))] w fun e w' => e = .returned (.tuple #[]) ∧
      w'.heap[g]? = some (.cells (brCells bb q 0 0 .nilIface (.int .i64 (-1)) (.int .i64 (-1))) 44 (0, 0)) ∧ Frame [g] w w' := by
  have c0 := cell3 (j := 0) hg rfl
  have c1 := cell3 (j := 1) hg rfl
  have c2 := cell3 (j := 2) hg rfl
  have c3 := cell3 (j := 3) hg rfl
  have c4 := cell3 (j := 4) hg rfl
  have c5 := cell3 (j := 5) hg rfl
  have c6 := cell3 (j := 6) hg rfl
  have f0 := free3 (j := 0) hg
  have f1 := free3 (j := 1) hg
  have f2 := free3 (j := 2) hg
  have f3 := free3 (j := 3) hg
  have f4 := free3 (j := 4) hg
  have f5 := free3 (j := 5) hg
  have f6 := free3 (j := 6) hg
  go_enter Tryd.func19, Tryd.ntmps19
  go_wp2
  go_end0
  have g0 := heap_setCell_same w g 0 _ 44 (.slice (some ⟨bb, 0, none⟩) 10000 10000) hg
  have g1 := heap_setCell_same _ g 1 _ 44 (.iface 38 (.pointer (some ⟨q, 0, none⟩))) g0
  have g2 := heap_setCell_same _ g 2 _ 44 (.int .i64 0) g1
  have g3 := heap_setCell_same _ g 3 _ 44 (.int .i64 0) g2
  have g4 := heap_setCell_same _ g 4 _ 44 .nilIface g3
  have g5 := heap_setCell_same _ g 5 _ 44 (.int .i64 (-1)) g4
  have g6 := heap_setCell_same _ g 6 _ 44 (.int .i64 (-1)) g5
  exact ⟨rfl, g6, ((((((((Frame.refl _ _).setCell (by simp) _).setCell (by simp) _).setCell (by simp) _).setCell (by simp) _).setCell (by simp) _).setCell (by simp) _).setCell (by simp) _)⟩

theorem Tryd.zero25 : (Tryd.prog.info? 25).map (·.zero) = some (some (.pointer none)) := by kernel_rfl

theorem assert_no (v : Value) (w : World) : (Instr.typeAssert (.iface 38 v) 41 25 true).run Tryd.prog w = .ok (.tuple #[.pointer none, .bool false]) w := by
  obtain ⟨i, hi, hz⟩ := Option.map_eq_some_iff.1 Tryd.zero25
  simp [Instr.typeAssert, run_underlying Tryd.underlying25, zeroValue, typeInfo, hi, hz]

/-- 'make([]byte, n)'. -/
theorem make_bytes (n : Nat) (hn : n ≤ 1048576) : ∃ B : List Value, B.length = n ∧ (∀ j, j < n → B[j]? = some (.int .u8 0)) ∧
    ∀ (l : Int) (w : World), l = (n : Int) → (Instr.makeSlice 22 (.int .i64 l) (.int .i64 l)).run Tryd.prog w = .ok (.slice (some ⟨w.heap.size, 0, none⟩) n n) (w.alloc (.cells B.toArray 5 (0, 0))) := by
  obtain ⟨i0, hi, hz0, hz1, hz2⟩ := info_parts Tryd.info5
  refine ⟨(madeCells #[.int .u8 0] n).toList, by rw [Array.length_toList, size_madeCells], fun j hj => ?_, fun l w hl => ?_⟩
  · simp [madeCells, hj, Nat.mod_one]
  · subst hl
    have := run_makeSlice (P := Tryd.prog) w 22 5 i0 (.int .u8 0) Tryd.underlying22 hi hz0 .i64 .i64 n n (by omega) (Int.le_refl _) (by rw [hz1]; omega) (by rw [hz2]; omega) (by omega)
    simpa [hz1, Value.cells] using this

set_option maxHeartbeats 1000000 in
theorem bufnew_any (q : Nat) (w : World) :
    Calls Tryd.prog 15 #[.iface 38 (.pointer (some ⟨q, 0, none⟩)), .int .i64 10000] w fun e w' => ∃ g bb, e = .returned (.pointer (some ⟨g, 0, none⟩)) ∧
      w.heap.size ≤ g ∧ w.heap.size ≤ bb ∧ g ≠ bb ∧ Below w.heap.size w w' ∧
      w'.heap[g]? = some (.cells (brCells bb q 0 0 .nilIface (.int .i64 (-1)) (.int .i64 (-1))) 44 (0, 0)) ∧
      ∃ B : List Value, B.length = 10000 ∧ w'.heap[bb]? = some (.cells B.toArray 5 (0, 0)) := by
  have ha := fun v w => assert_no v w
  obtain ⟨B, hBl, _, hmk0⟩ := make_bytes 10000 (by omega)
  obtain ⟨W1, hW1⟩ : ∃ W, W = w.alloc (.cells zeroBr 44 (0, 0)) := ⟨_, rfl⟩
  obtain ⟨W2, hW2⟩ : ∃ W, W = W1.alloc (.cells B.toArray 5 (0, 0)) := ⟨_, rfl⟩
  have hmk : (Instr.makeSlice 22 (.int .i64 10000) (.int .i64 10000)).run Tryd.prog (w.alloc (.cells zeroBr 44 (0, 0))) = .ok (.slice (some ⟨W1.heap.size, 0, none⟩) 10000 10000) W2 := by
    rw [← hW1, hW2]; exact hmk0 10000 W1 rfl
  have sz1 : W1.heap.size = w.heap.size + 1 := by rw [hW1]; simp
  have g1 : W1.heap[w.heap.size]? = some (.cells zeroBr 44 (0, 0)) := by rw [hW1]; exact heap_alloc_new w _
  have b1 : Below w.heap.size w W1 := by rw [hW1]; exact (Below.refl _ _).alloc (Nat.le_refl _) _
  have b12 : Below W1.heap.size W1 W2 := by rw [hW2]; exact (Below.refl _ _).alloc (Nat.le_refl _) _
  have g2 : W2.heap[w.heap.size]? = some (.cells zeroBr 44 (0, 0)) := (b12.block _ (by omega)).trans g1
  have hb2 : W2.heap[W1.heap.size]? = some (.cells B.toArray 5 (0, 0)) := by rw [hW2]; exact heap_alloc_new W1 _
  have T : Hid _ := reset_any w.heap.size W1.heap.size q W2 g2
  have SZ : Hid _ := sz1
  have HB : Hid _ := hBl
  clear sz1 hmk0 hW1 hW2 g1 hBl
  go_enter Tryd.func15, Tryd.ntmps15
  go_wp2_with fail
  refine Calls.mono T.out ?_
  clear T
  rintro e W3 ⟨rfl, hg3, F23⟩
  go_wp2
  go_ret
  have z1 := SZ.out
  refine ⟨_, W1.heap.size, rfl, Nat.le_refl _, by omega, by omega, ?_, hg3, B, HB.out, F23.obj hb2 (by simp; omega)⟩
  exact (Below.step b1 b12).trans (F23.below (Nat.le_trans b1.size b12.size) (by simp))

theorem znew_any (dd N : Nat) (D : List Int) (w : World) (hD : View .u8 w (some ⟨dd, 0, none⟩) D) (hl : D.length = N) (h0 : 0 < N) (hN : N ≤ 65537) :
    Calls Tryd.prog 8 #[.slice (some ⟨dd, 0, none⟩) N N] w fun e w' => ∃ g q bb B, e = .returned (.pointer (some ⟨g, 0, none⟩)) ∧ w.heap.size ≤ g ∧ w.heap.size ≤ q ∧ w.heap.size ≤ bb ∧ St w' g q dd bb N 0 0 D B ∧ Below w.heap.size w w' := by
  obtain ⟨b9, o9, e9, cL⟩ := hD 0 (by omega)
  simp at e9
  have zd := block_lt_of_cell cL
  simp only [← e9.1] at zd
  clear cL e9
  obtain ⟨W1, hW1⟩ : ∃ W, W = w.alloc (.cells #[.slice (some ⟨dd, 0, none⟩) N N, .int .i64 0, .int .i64 (-1)] 47 (0, 0)) := ⟨_, rfl⟩
  have T : Hid _ := bnew_any dd N w
  rw [← hW1] at T
  have T2 : Hid _ := bufnew_any w.heap.size W1
  have sz1 : W1.heap.size = w.heap.size + 1 := by rw [hW1]; simp
  have q1 : W1.heap[w.heap.size]? = some (.cells #[.slice (some ⟨dd, 0, none⟩) N N, .int .i64 0, .int .i64 (-1)] 47 (0, 0)) := by rw [hW1]; exact heap_alloc_new w _
  have b1 : Below w.heap.size w W1 := by rw [hW1]; exact (Below.refl _ _).alloc (Nat.le_refl _) _
  have hD1 := hD.below b1
  clear hW1
  have SZ : Hid _ := sz1
  clear sz1
  go_enter Tryd.func8, Tryd.ntmps8
  go_wp2_with fail
  refine Calls.mono T.out ?_
  clear T
  rintro e w' ⟨rfl, hww⟩
  have hw2 := hww.symm
  subst hw2
  go_wp2_with fail
  refine Calls.mono T2.out ?_
  clear T2
  rintro e W2 ⟨g, bb, rfl, h1, h2, h3, b2, hg2, B, hBl, hb2⟩
  go_wp2
  go_ret
  have z1 := SZ.out
  refine ⟨g, w.heap.size, bb, B, rfl, by omega, by omega, by omega, ⟨⟨_, _, hg2⟩, ⟨_, (b2.block _ (by omega)).trans q1⟩, hD1.below b2, hl, hb2, hBl, hN, by omega, by omega, by omega, by omega, by omega, by omega, by omega⟩, Below.step b1 b2⟩

end Go.Proofs.Qxb6612819aDoor

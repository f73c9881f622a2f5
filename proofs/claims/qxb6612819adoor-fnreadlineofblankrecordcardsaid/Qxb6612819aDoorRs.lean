import Derived.Test.Qxb6612819aDoorSt
namespace Go.Proofs.Qxb6612819aDoor
open Go.RowKit
set_option linter.unusedVariables false

theorem bIx_is (a : Option Addr) (n ca : Nat) (xs : List Int) (c r : Int) (w : World) (hn : xs.length = n) (hb : Byt xs) (h0 : 0 ≤ c) (h1 : c < 256) (hx : View .u8 w a xs) (hr : ixB xs c = r) :
    Calls Tryd.prog 24 #[.slice a n ca, .int .u8 c] w fun e w' => e = .returned (.int .i64 r) ∧ w' = w := hr ▸ bIndexByte_any a n ca xs c w hn hb h0 h1 hx

theorem bIx_nil (a : Option Addr) (ca : Nat) (w : World) : Calls Tryd.prog 24 #[.slice a 0 ca, .int .u8 10] w fun e w' => e = .returned (.int .i64 (-1)) ∧ w' = w :=
  bIx_is a 0 ca [] 10 (-1) w rfl (fun x hx => by simp at hx) (by decide) (by decide) (View.nil _ _ _) (by simp [ixB])

theorem Byt.drop {xs : List Int} (h : Byt xs) (k : Nat) : Byt (xs.drop k) := fun x hx => h x (List.mem_of_mem_drop hx)
theorem Byt.take {xs : List Int} (h : Byt xs) (k : Nat) : Byt (xs.take k) := fun x hx => h x (List.mem_of_mem_take hx)

theorem br_set3 (bb q : Nat) (lb lr err v u : Value) (r k : Int) : (((brCells bb q r k err lb lr).setIfInBounds 2 (.int .i64 k)).setIfInBounds 5 v).setIfInBounds 6 u = brCells bb q k k err v u := rfl

theorem ixB_nil (c : Int) : ixB [] c = -1 := by simp [ixB]

set_option maxHeartbeats 2000000 in
set_option maxRecDepth 100000 in
/-- ReadSlice at a reader whose buffer is empty, a whole line of k + 1 bytes left in the source that fits the buffer. -/
theorem readSlice_line (g q dd bb N p k r : Nat) (D : List Int) (B : List Value) (w : World) (S : St w g q dd bb N p r D B) (hb : Byt D) (hp : p < N) (hm : k + 1 = Nat.min (N - p) 10000) (hix : ixB ((D.drop p).take (k + 1)) 10 = (k : Int)) :
    Calls Tryd.prog 20 #[.pointer (some ⟨g, 0, none⟩), .int .u8 10] w fun e w' => e = .returned (.tuple #[.slice (some ⟨bb, 0, none⟩) (k + 1) 10000, .nilIface]) ∧
      St w' g q dd bb N (p + (k + 1)) (k + 1) D (splice B 0 (((D.drop p).take (k + 1)).map (Value.int .u8))) ∧ Frame [g, q, bb] w w' := by
  have hm2 : k + 1 ≤ 10000 ∧ k + 1 ≤ N - p := by rw [hm]; exact ⟨Nat.min_le_right _ _, Nat.min_le_left _ _⟩
  have HIX : Hid _ := hix
  have HM : Hid _ := hm
  clear hix hm
  obtain ⟨⟨lb, lr, hg0⟩, ⟨pr, hq0⟩, hD0, hDl, hb0, hBl, hN, hr, n1, n2, n3, n4, n5, n6⟩ := S
  have hF0 : Frame [g, q, bb] w w := Frame.refl _ _
  have c0 := cell3 (j := 0) hg0 rfl
  have c2 := cell3 (j := 2) hg0 rfl
  have c3 := cell3 (j := 3) hg0 rfl
  have c4 := cell3 (j := 4) hg0 rfl
  simp only [brCells] at c0 c2 c3 c4
  by_cases hr10 : r = 10000
  · subst hr10
    go_enter Tryd.func20, Tryd.ntmps20
    go_wp2
    refine wp_loop_rounds 2 ?_
    rw [rounds_succ]
    go_wp2
    go_quiet ((go_at_call 24; exact Calls.quiet_of_same (bIx_nil _ _ _)))
    obtain ⟨W1, hW1⟩ : ∃ W, W = w.drewN nq := ⟨_, rfl⟩
    have eH1 : w.heap = W1.heap := by rw [hW1]; rfl
    have hg1 := hg0
    have hq1 := hq0
    have hb1 := hb0
    rw [eH1] at hg1 hq1 hb1
    have hD1 : View .u8 W1 (some ⟨dd, 0, none⟩) D := by rw [hW1]; exact hD0.drewN _
    have hF1 : Frame [g, q, bb] w W1 := by rw [hW1]; exact hF0.drewN _
    rw [← hW1]
    clear hW1 eH1 hg0 hq0 hb0 hD0 hF0 c0 c2 c3 c4
    have c0 := cell3 (j := 0) hg1 rfl
    have c2 := cell3 (j := 2) hg1 rfl
    have c3 := cell3 (j := 3) hg1 rfl
    have c4 := cell3 (j := 4) hg1 rfl
    simp only [brCells] at c0 c2 c3 c4
    go_wp2
    go_quiet ((go_at_call 26; exact Calls.quiet_of (buffered_any g bb q 10000 10000 .nilIface lb lr _ hg1 (Nat.le_refl _) (by omega))))
    obtain ⟨W2, hW2⟩ : ∃ W, W = W1.drewN nq := ⟨_, rfl⟩
    have eH2 : W1.heap = W2.heap := by rw [hW2]; rfl
    have hg2 := hg1
    have hq2 := hq1
    have hb2 := hb1
    rw [eH2] at hg2 hq2 hb2
    have hD2 : View .u8 W2 (some ⟨dd, 0, none⟩) D := by rw [hW2]; exact hD1.drewN _
    have hF2 : Frame [g, q, bb] w W2 := by rw [hW2]; exact hF1.drewN _
    rw [← hW2]
    clear hW2 eH2 hg1 hq1 hb1 hD1 hF1 c0 c2 c3 c4
    have c0 := cell3 (j := 0) hg2 rfl
    have c2 := cell3 (j := 2) hg2 rfl
    have c3 := cell3 (j := 3) hg2 rfl
    have c4 := cell3 (j := 4) hg2 rfl
    simp only [brCells] at c0 c2 c3 c4
    go_wp2
    go_quiet (fail)
    obtain ⟨W3, hW3⟩ : ∃ W, W = W2.drewN nq := ⟨_, rfl⟩
    have eH3 : W2.heap = W3.heap := by rw [hW3]; rfl
    have hg3 := hg2
    have hq3 := hq2
    have hb3 := hb2
    rw [eH3] at hg3 hq3 hb3
    have hD3 : View .u8 W3 (some ⟨dd, 0, none⟩) D := by rw [hW3]; exact hD2.drewN _
    have hF3 : Frame [g, q, bb] w W3 := by rw [hW3]; exact hF2.drewN _
    rw [← hW3]
    clear hW3 eH3 hg2 hq2 hb2 hD2 hF2 c0 c2 c3 c4
    have c0 := cell3 (j := 0) hg3 rfl
    have c2 := cell3 (j := 2) hg3 rfl
    have c3 := cell3 (j := 3) hg3 rfl
    have c4 := cell3 (j := 4) hg3 rfl
    simp only [brCells] at c0 c2 c3 c4
    go_wp2_with fail
    refine (fill_some g q dd bb N p (k + 1) 10000 D B pr lb lr _ hg3 hq3 hD3 hDl hb3 hBl (by omega) hp hN n1 n2 n3 n4 n5 n6 HM.out).mono ?_
    rintro e W4 ⟨rfl, hg4, hq4, hb4, hF34⟩
    have hF4 := hF3.trans hF34
    have hD4 : View .u8 W4 (some ⟨dd, 0, none⟩) D := hD3.frame hF34 (fun b off e => by simp at e; simp; omega)
    clear hg3 hq3 hb3 hD3 hF3 hF34 c0 c2 c3 c4
    have c0 := cell3 (j := 0) hg4 rfl
    have c2 := cell3 (j := 2) hg4 rfl
    have c3 := cell3 (j := 3) hg4 rfl
    have c4 := cell3 (j := 4) hg4 rfl
    simp only [brCells] at c0 c2 c3 c4
    obtain ⟨L, hLd⟩ : ∃ L, L = (D.drop p).take (k + 1) := ⟨_, rfl⟩
    have hLl : L.length = k + 1 := by rw [hLd]; simp; omega
    have hvL : View .u8 W4 (some ⟨bb, 0, none⟩) L := by
      refine View.of_row hb4 (fun j hj => ?_)
      rw [← hLd]
      simp [splice, List.getElem?_append_left, hj, List.getD]
    have hbL : Byt L := by rw [hLd]; exact Byt.take (Byt.drop hb _) _
    rw [← hLd] at hb4
    have HLD : Hid _ := hLd
    have HLL : Hid _ := hLl
    clear hLd hLl
    have hs3 : (k : Int) + 1 ≤ 10000 := by omega
    go_wp2
    rw [rounds_succ]
    go_wp2
    go_quiet ((go_at_call 24; exact Calls.quiet_of_same (bIx_is _ _ _ L 10 (k : Int) _ HLL.out hbL (by decide) (by decide) (hvL.drewN _) (by rw [HLD.out]; exact HIX.out))))
    obtain ⟨W5, hW5⟩ : ∃ W, W = W4.drewN nq := ⟨_, rfl⟩
    have eH5 : W4.heap = W5.heap := by rw [hW5]; rfl
    have hg5 := hg4
    have hq5 := hq4
    have hb5 := hb4
    rw [eH5] at hg5 hq5 hb5
    have hD5 : View .u8 W5 (some ⟨dd, 0, none⟩) D := by rw [hW5]; exact hD4.drewN _
    have hvL5 : View .u8 W5 (some ⟨bb, 0, none⟩) L := by rw [hW5]; exact hvL.drewN _
    have hF5 : Frame [g, q, bb] w W5 := by rw [hW5]; exact hF4.drewN _
    rw [← hW5]
    clear hW5 eH5 hg4 hq4 hb4 hD4 hF4 hvL c0 c2 c3 c4
    have c0 := cell3 (j := 0) hg5 rfl
    have c2 := cell3 (j := 2) hg5 rfl
    have c5 := cell3 (j := 5) hg5 rfl
    have c6 := cell3 (j := 6) hg5 rfl
    have f2 := free3 (j := 2) hg5
    have f5 := free3 (j := 5) hg5
    have f6 := free3 (j := 6) hg5
    simp only [brCells] at c0 c2 c5 c6
    obtain ⟨b9, o9, e9, cL⟩ := hvL5 k (by rw [HLL.out]; omega)
    simp at e9
    obtain ⟨rfl, rfl⟩ := e9
    rw [Nat.zero_add] at cL
    generalize L.getD k 0 = vL at cL
    go_wp2
    go_quiet (fail)
    go_wp2
    go_ret2
    have g1 := heap_setCell_same (W5.drewN nq) g 2 _ 44 (.int .i64 ((k : Int) + 1)) hg5
    have g2 := heap_setCell_same _ g 5 _ 44 (.int .i64 (wrap64 vL)) g1
    have g3 := heap_setCell_same _ g 6 _ 44 (.int .i64 (-1)) g2
    have hFs : Frame [g] W5 ((((W5.drewN nq).setCell ⟨g, 2, none⟩ (.int .i64 ((k : Int) + 1))).setCell ⟨g, 5, none⟩ (.int .i64 (wrap64 vL))).setCell ⟨g, 6, none⟩ (.int .i64 (-1))) := ((((Frame.refl _ _).drewN _).setCell (by simp) _).setCell (by simp) _).setCell (by simp) _
    refine ⟨rfl, ⟨⟨.int .i64 (wrap64 vL), .int .i64 (-1), g3.trans (by rw [show ((k : Int) + 1) = ((k + 1 : Nat) : Int) from by omega, br_set3])⟩, ⟨_, hFs.obj hq5 (by simp; omega)⟩, hD5.frame hFs (fun b off e => by simp at e; simp; omega), hDl, by rw [← HLD.out]; exact hFs.obj hb5 (by simp; omega), ?_, hN, by omega, n1, n2, n3, n4, n5, n6⟩, hF5.trans (hFs.mono (by simp))⟩
    rw [length_splice _ _ _ (by rw [← HLD.out, List.length_map, HLL.out]; omega)]; exact hBl
  · have hne : ¬ 10000 = r := by omega
    have hs1 : (r : Int) ≤ 10000 := by omega
    go_enter Tryd.func20, Tryd.ntmps20
    go_wp2
    refine wp_loop_rounds 2 ?_
    rw [rounds_succ]
    go_wp2
    go_quiet ((go_at_call 24; exact Calls.quiet_of_same (bIx_nil _ _ _)))
    obtain ⟨W1, hW1⟩ : ∃ W, W = w.drewN nq := ⟨_, rfl⟩
    have eH1 : w.heap = W1.heap := by rw [hW1]; rfl
    have hg1 := hg0
    have hq1 := hq0
    have hb1 := hb0
    rw [eH1] at hg1 hq1 hb1
    have hD1 : View .u8 W1 (some ⟨dd, 0, none⟩) D := by rw [hW1]; exact hD0.drewN _
    have hF1 : Frame [g, q, bb] w W1 := by rw [hW1]; exact hF0.drewN _
    rw [← hW1]
    clear hW1 eH1 hg0 hq0 hb0 hD0 hF0 c0 c2 c3 c4
    have c0 := cell3 (j := 0) hg1 rfl
    have c2 := cell3 (j := 2) hg1 rfl
    have c3 := cell3 (j := 3) hg1 rfl
    have c4 := cell3 (j := 4) hg1 rfl
    simp only [brCells] at c0 c2 c3 c4
    go_wp2
    go_quiet ((go_at_call 26; exact Calls.quiet_of (buffered_any g bb q r r .nilIface lb lr _ hg1 (Nat.le_refl _) (by omega))))
    obtain ⟨W2, hW2⟩ : ∃ W, W = W1.drewN nq := ⟨_, rfl⟩
    have eH2 : W1.heap = W2.heap := by rw [hW2]; rfl
    have hg2 := hg1
    have hq2 := hq1
    have hb2 := hb1
    rw [eH2] at hg2 hq2 hb2
    have hD2 : View .u8 W2 (some ⟨dd, 0, none⟩) D := by rw [hW2]; exact hD1.drewN _
    have hF2 : Frame [g, q, bb] w W2 := by rw [hW2]; exact hF1.drewN _
    rw [← hW2]
    clear hW2 eH2 hg1 hq1 hb1 hD1 hF1 c0 c2 c3 c4
    have c0 := cell3 (j := 0) hg2 rfl
    have c2 := cell3 (j := 2) hg2 rfl
    have c3 := cell3 (j := 3) hg2 rfl
    have c4 := cell3 (j := 4) hg2 rfl
    simp only [brCells] at c0 c2 c3 c4
    go_wp2
    go_quiet (fail)
    obtain ⟨W3, hW3⟩ : ∃ W, W = W2.drewN nq := ⟨_, rfl⟩
    have eH3 : W2.heap = W3.heap := by rw [hW3]; rfl
    have hg3 := hg2
    have hq3 := hq2
    have hb3 := hb2
    rw [eH3] at hg3 hq3 hb3
    have hD3 : View .u8 W3 (some ⟨dd, 0, none⟩) D := by rw [hW3]; exact hD2.drewN _
    have hF3 : Frame [g, q, bb] w W3 := by rw [hW3]; exact hF2.drewN _
    rw [← hW3]
    clear hW3 eH3 hg2 hq2 hb2 hD2 hF2 c0 c2 c3 c4
    have c0 := cell3 (j := 0) hg3 rfl
    have c2 := cell3 (j := 2) hg3 rfl
    have c3 := cell3 (j := 3) hg3 rfl
    have c4 := cell3 (j := 4) hg3 rfl
    simp only [brCells] at c0 c2 c3 c4
    go_wp2_with fail
    refine (fill_some g q dd bb N p (k + 1) r D B pr lb lr _ hg3 hq3 hD3 hDl hb3 hBl (by omega) hp hN n1 n2 n3 n4 n5 n6 HM.out).mono ?_
    rintro e W4 ⟨rfl, hg4, hq4, hb4, hF34⟩
    have hF4 := hF3.trans hF34
    have hD4 : View .u8 W4 (some ⟨dd, 0, none⟩) D := hD3.frame hF34 (fun b off e => by simp at e; simp; omega)
    clear hg3 hq3 hb3 hD3 hF3 hF34 c0 c2 c3 c4
    have c0 := cell3 (j := 0) hg4 rfl
    have c2 := cell3 (j := 2) hg4 rfl
    have c3 := cell3 (j := 3) hg4 rfl
    have c4 := cell3 (j := 4) hg4 rfl
    simp only [brCells] at c0 c2 c3 c4
    obtain ⟨L, hLd⟩ : ∃ L, L = (D.drop p).take (k + 1) := ⟨_, rfl⟩
    have hLl : L.length = k + 1 := by rw [hLd]; simp; omega
    have hvL : View .u8 W4 (some ⟨bb, 0, none⟩) L := by
      refine View.of_row hb4 (fun j hj => ?_)
      rw [← hLd]
      simp [splice, List.getElem?_append_left, hj, List.getD]
    have hbL : Byt L := by rw [hLd]; exact Byt.take (Byt.drop hb _) _
    rw [← hLd] at hb4
    have HLD : Hid _ := hLd
    have HLL : Hid _ := hLl
    clear hLd hLl
    have hs3 : (k : Int) + 1 ≤ 10000 := by omega
    go_wp2
    rw [rounds_succ]
    go_wp2
    go_quiet ((go_at_call 24; exact Calls.quiet_of_same (bIx_is _ _ _ L 10 (k : Int) _ HLL.out hbL (by decide) (by decide) (hvL.drewN _) (by rw [HLD.out]; exact HIX.out))))
    obtain ⟨W5, hW5⟩ : ∃ W, W = W4.drewN nq := ⟨_, rfl⟩
    have eH5 : W4.heap = W5.heap := by rw [hW5]; rfl
    have hg5 := hg4
    have hq5 := hq4
    have hb5 := hb4
    rw [eH5] at hg5 hq5 hb5
    have hD5 : View .u8 W5 (some ⟨dd, 0, none⟩) D := by rw [hW5]; exact hD4.drewN _
    have hvL5 : View .u8 W5 (some ⟨bb, 0, none⟩) L := by rw [hW5]; exact hvL.drewN _
    have hF5 : Frame [g, q, bb] w W5 := by rw [hW5]; exact hF4.drewN _
    rw [← hW5]
    clear hW5 eH5 hg4 hq4 hb4 hD4 hF4 hvL c0 c2 c3 c4
    have c0 := cell3 (j := 0) hg5 rfl
    have c2 := cell3 (j := 2) hg5 rfl
    have c5 := cell3 (j := 5) hg5 rfl
    have c6 := cell3 (j := 6) hg5 rfl
    have f2 := free3 (j := 2) hg5
    have f5 := free3 (j := 5) hg5
    have f6 := free3 (j := 6) hg5
    simp only [brCells] at c0 c2 c5 c6
    obtain ⟨b9, o9, e9, cL⟩ := hvL5 k (by rw [HLL.out]; omega)
    simp at e9
    obtain ⟨rfl, rfl⟩ := e9
    rw [Nat.zero_add] at cL
    generalize L.getD k 0 = vL at cL
    go_wp2
    go_quiet (fail)
    go_wp2
    go_ret2
    have g1 := heap_setCell_same (W5.drewN nq) g 2 _ 44 (.int .i64 ((k : Int) + 1)) hg5
    have g2 := heap_setCell_same _ g 5 _ 44 (.int .i64 (wrap64 vL)) g1
    have g3 := heap_setCell_same _ g 6 _ 44 (.int .i64 (-1)) g2
    have hFs : Frame [g] W5 ((((W5.drewN nq).setCell ⟨g, 2, none⟩ (.int .i64 ((k : Int) + 1))).setCell ⟨g, 5, none⟩ (.int .i64 (wrap64 vL))).setCell ⟨g, 6, none⟩ (.int .i64 (-1))) := ((((Frame.refl _ _).drewN _).setCell (by simp) _).setCell (by simp) _).setCell (by simp) _
    refine ⟨rfl, ⟨⟨.int .i64 (wrap64 vL), .int .i64 (-1), g3.trans (by rw [show ((k : Int) + 1) = ((k + 1 : Nat) : Int) from by omega, br_set3])⟩, ⟨_, hFs.obj hq5 (by simp; omega)⟩, hD5.frame hFs (fun b off e => by simp at e; simp; omega), hDl, by rw [← HLD.out]; exact hFs.obj hb5 (by simp; omega), ?_, hN, by omega, n1, n2, n3, n4, n5, n6⟩, hF5.trans (hFs.mono (by simp))⟩
    rw [length_splice _ _ _ (by rw [← HLD.out, List.length_map, HLL.out]; omega)]; exact hBl

end Go.Proofs.Qxb6612819aDoor

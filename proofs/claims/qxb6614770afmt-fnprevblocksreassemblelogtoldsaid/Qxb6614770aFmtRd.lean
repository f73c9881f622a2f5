import Derived.Test.Qxb6614770aFmtBase
namespace Go.Proofs.Qxb6614770aFmt
open Go.RowKit
set_option linter.unusedVariables false

/-- 'copy(dst, src)' into a row that is known whole: the row behind it, and that no other block has turned. -/
theorem wpList_copy_row {P : Program} {w : World} {ops : Array Oper} {rest : List Oper} {o : Oper} {a : Act} {Q : Exit → Act → World → Prop} (hgd : o.guard = none) (d s : Operand) (dT sT : TypeId)
    (ho : o.op = .call { callee := .builtin .copy, args := #[d, s], argTypes := #[dT, sT] }) (elem : TypeId) (hu : P.underlying dT = some (.slice elem)) (hsz : (P.info? elem).map (·.size) = some 1)
    (dp sp : Option Addr) (dLen dCap sLen sCap : Nat) (hd : a.eval d = .slice dp dLen dCap) (hs : a.eval s = .slice sp sLen sCap)
    (g off : Nat) (cur : List Value) (t : TypeId) (hg : w.heap[g]? = some (.cells cur.toArray t (0, 0))) (cs : List Value) (hn : cs.length = Nat.min sLen dLen)
    (hpos : 0 < cs.length → dp = some ⟨g, off, none⟩ ∧ ∃ ad, sp = some ad ∧ ∀ j v, cs[j]? = some v → w.cell? (ad.add j) = some v)
    (hfit : off + cs.length ≤ cur.length) (h1 : ∀ v ∈ cs, v.oneCell' = true)
    (h : ∀ w', Hid (w'.heap[g]? = some (.cells (splice cur off cs).toArray t (0, 0))) → Frame [g] w w' → wpList P ops Q rest (a.put o.dst (goInt cs.length)) w') :
    wpList P ops Q (o :: rest) a w := by
  by_cases h0 : cs.length = 0
  · obtain rfl : cs = [] := List.eq_nil_of_length_eq_zero h0
    refine wpList_copy_nothing hgd d s dT sT ho elem hu hsz dp sp dLen dCap sLen sCap hd hs (by simpa using hn.symm) ?_
    exact h w (show _ = _ by simpa [splice] using hg) (Frame.refl _ _)
  · obtain ⟨rfl, ad, rfl, hsrc⟩ := hpos (by omega)
    refine wpList_copy_own hgd d s dT sT ho elem hu hsz g off dLen dCap ad sLen sCap hd hs cur.toArray t hg cs hn hsrc (by simpa using hfit) h1 ?_
    exact h _ (show _ = _ by simpa [splice] using setRow_heap w g _ _ t _ hg) ((Frame.refl _ _).setRow (by simp) _)

set_option maxHeartbeats 1000000 in
set_option maxRecDepth 100000 in
/-- (*bytes.Reader).ReadAt where all that is asked for is there. -/
theorem readAt_some (q dd bb N off m c : Nat) (D : List Int) (B : List Value) (w : World)
    (hq : w.heap[q]? = some (.cells #[.slice (some ⟨dd, 0, none⟩) N N, .int .i64 0, .int .i64 (-1)] 41 (0, 0)))
    (hD : View .u8 w (some ⟨dd, 0, none⟩) D) (hDl : D.length = N) (hbb : w.heap[bb]? = some (.cells B.toArray 5 (0, 0))) (hBl : B.length = c)
    (hm : 1 ≤ m) (ho : off + m ≤ N) (hN : N ≤ 1048576) (hc : m ≤ c) (n1 : q ≠ bb) (n3 : dd ≠ bb) :
    Calls Tryf.prog 36 #[.pointer (some ⟨q, 0, none⟩), .slice (some ⟨bb, 0, none⟩) m c, .int .i64 off] w fun e w' => e = .returned (.tuple #[.int .i64 m, .nilIface]) ∧
      w'.heap[bb]? = some (.cells (splice B 0 (((D.drop off).take m).map (Value.int .u8))).toArray 5 (0, 0)) ∧ Frame [bb] w w' := by
  have c0 := cell3 (j := 0) hq rfl
  have hp1 : ¬ (N : Int) ≤ (off : Int) := by omega
  have hs1 : (off : Int) ≤ (N : Int) := by omega
  have hne : ¬ N = off := by omega
  have hmin : m = Nat.min (N - off) m := (Nat.min_eq_right (by omega)).symm
  obtain ⟨cs, hcs⟩ : ∃ cs, cs = ((D.drop off).take m).map (Value.int .u8) := ⟨_, rfl⟩
  have hcl : cs.length = m := by rw [hcs]; simp; omega
  have hsrc : ∀ j v, cs[j]? = some v → w.cell? ((⟨dd, off, none⟩ : Addr).add j) = some v := by
    have := (hD.at (lo := off)).take (hi := m)
    rw [Nat.zero_add] at this
    rw [hcs]
    exact this.news _ rfl
  have hone : ∀ v ∈ cs, v.oneCell' = true := by rw [hcs]; exact ints_oneCell _ _
  have HCS : Hid _ := hcs
  have HCL : Hid _ := hcl
  have HM : Hid _ := hmin
  have HB : Hid _ := hBl
  clear hcs hcl hmin hBl hDl
  go_enter Tryf.func36, Tryf.ntmps36
  go_wp2_with (show wpList _ _ _ ({ dst := _, op := Op.call { callee := Callee.builtin Builtin.copy, args := _, argTypes := _ }, type := _, pos := _, after := _, guard := _ } :: _) _ _; (refine wpList_copy_row rfl (.tmp 19) (.tmp 25) 22 22 rfl 5 Tryf.underlying22 Tryf.size5 (some ⟨bb, 0, none⟩) (some ⟨dd, off, none⟩) m c (N - off) (N - off) rfl rfl bb 0 B 5 hbb cs ?_ ?_ ?_ hone ?_; (rw [HCL.out]; exact HM.out); (exact fun _ => ⟨rfl, _, rfl, hsrc⟩); (rw [HCL.out, HB.out]; omega); (rw [HCL.out]); intro w2 hb2 hF2))
  go_ret2
  have hb3 := hb2.out
  rw [HCS.out] at hb3
  exact ⟨rfl, by simpa using hb3, hF2⟩

set_option maxHeartbeats 1000000 in
/-- cloneBytes: new memory, the same bytes. -/
theorem clone_any (a : Option Addr) (n c : Nat) (xs : List Int) (w : World) (hl : xs.length = n) (hm : n ≤ 1048576) (ha : a = none → c = 0) (hx : View .u8 w a xs) :
    Calls Tryf.prog 6 #[.slice a n c] w fun e w' => ∃ a', e = .returned (.slice a' n n) ∧ View .u8 w' a' xs ∧ (0 < n → ∃ dd, a' = some ⟨dd, 0, none⟩ ∧ w.heap.size ≤ dd) ∧ Below w.heap.size w w' := by
  cases a with
  | none =>
    have h0 : n = 0 := by
      rcases Nat.eq_zero_or_pos n with h | h
      · exact h
      · obtain ⟨b, off, e, _⟩ := hx 0 (by omega)
        cases e
    subst h0
    have h1 := ha rfl
    subst h1
    have hnil : ∀ wx, (binOp .eql 22 (.slice none 0 0) (.slice none 0 0)).run Tryf.prog wx = .ok (.bool true) wx := fun wx => Lib.run_eql_slice_nil wx 22 5 none 0 0 0 0 Tryf.underlying22
    go_enter Tryf.func6, Tryf.ntmps6
    go_wp2
    go_ret
    exact ⟨none, rfl, hx, Below.refl _ _⟩
  | some x =>
    obtain ⟨B, hBl, hB0, hmk0⟩ := make_bytes n hm
    have hmk := fun w => hmk0 (n : Int) w rfl
    have hnil : ∀ wx, (binOp .eql 22 (.slice (some x) n c) (.slice none 0 0)).run Tryf.prog wx = .ok (.bool false) wx := fun wx => Lib.run_eql_slice_nil wx 22 5 (some x) n c 0 0 Tryf.underlying22
    have HBL : Hid _ := hBl
    have HL : Hid _ := hl
    clear hmk0 hB0 hBl hl
    go_enter Tryf.func6, Tryf.ntmps6
    go_wp2
    clear hmk hnil
    go_loopw [4] (fun v wr => ∃ k : Nat, k ≤ n ∧ v = .int .i64 k ∧ Hid (View .u8 wr (some x) xs) ∧ ∃ cur : List Value, Hid (wr.heap[w.heap.size]? = some (.cells cur.toArray 5 (0, 0))) ∧ Hid (cur.length = n) ∧ Hid (∀ j, j < k → cur[j]? = some (.int .u8 (xs.getD j 0))) ∧ Hid (Below w.heap.size w wr)) (fun v _ => n - (intOf v).toNat)
    case atStart => exact ⟨0, Nat.zero_le _, by simp, hx.below ((Below.refl _ _).alloc (Nat.le_refl _) _), B, heap_alloc_new w _, HBL.out, fun j hj => by omega, (Below.refl _ _).alloc (Nat.le_refl _) _⟩
    case round =>
      obtain ⟨k, hk, rfl, hv, cur, hg, hcl, hsp, hb⟩ := hrel
      by_cases hlt : k < n
      · obtain ⟨b9, o9, e9, cL⟩ := hv.out k (by rw [HL.out]; exact hlt)
        obtain ⟨b8, o8, e8, cL0⟩ := hx k (by rw [HL.out]; exact hlt)
        have e7 := e8
        rw [e9] at e8
        simp at e8 e9
        obtain ⟨rfl, rfl⟩ := e8
        subst e9
        have hz := block_lt_of_cell cL0
        simp at hz
        obtain ⟨z, hzd⟩ : ∃ z, z = xs.getD k 0 := ⟨_, rfl⟩
        rw [← hzd] at cL
        have HZ : Hid _ := hzd
        clear hzd cL0 e7
        have cd := cell3 (j := k) hg.out (show cur.toArray[k]? = some (cur.getD k default) from by
          have := hcl.out
          simp [List.getD, show k < cur.length from by omega])
        have fd := free3 (j := k) hg.out
        go_wp2
        have hF : Frame [w.heap.size] wr (wr.setCell ⟨w.heap.size, k, none⟩ (.int .u8 z)) := (Frame.refl _ _).setCell (by simp) _
        have hg' := heap_setCell_same wr w.heap.size k _ 5 (.int .u8 z) hg.out
        refine ⟨⟨k + 1, by omega, by simp, hv.out.frame hF (fun b off e => by simp at e; simp; omega), cur.set k (.int .u8 z), ?_, ?_, ?_, ?_⟩, ?_⟩
        · show _ = _
          rw [hg']; simp
        · show _ = _
          rw [List.length_set]; exact hcl.out
        · intro j hj
          rw [List.getElem?_set]
          split
          · have := hcl.out
            rename_i hkj
            rw [if_pos (by omega), HZ.out, hkj]
          · exact hsp.out j (by omega)
        · exact hb.out.setCell (Nat.le_refl _) _
        · simp [intOf]; omega
      · have hkm : k = n := by omega
        subst hkm
        go_wp2
        go_ret
        refine ⟨_, rfl, View.of_row hg.out (fun j hj => ?_), fun _ => ⟨_, rfl, Nat.le_refl _⟩, hb.out⟩
        rw [HL.out] at hj
        simpa using hsp.out j hj

end Go.Proofs.Qxb6614770aFmt

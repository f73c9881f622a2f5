import Derived.Test.Qxb6612819aDoorRepeat
namespace Go.Proofs.Qxb6612819aDoor
open Go.RowKit
set_option linter.unusedVariables false

/-- 'copy(dst, src)' into a row that is known whole, as one step of a region that draws: the row behind it, and that no other block has turned. -/
theorem step_copy_row {P : Program} {ops : Array Oper} {o : Oper} {a : Act} {w : World} {K : Act → World → Prop} {Q : Exit → Act → World → Prop} {E : Prop} (hgd : o.guard = none) (d s : Operand) (dT sT : TypeId)
    (ho : o.op = .call { callee := .builtin .copy, args := #[d, s], argTypes := #[dT, sT] }) (elem : TypeId) (hu : P.underlying dT = some (.slice elem)) (hsz : (P.info? elem).map (·.size) = some 1)
    (dp sp : Option Addr) (dLen dCap sLen sCap : Nat) (hd : a.eval d = .slice dp dLen dCap) (hs : a.eval s = .slice sp sLen sCap)
    (g off : Nat) (cur : List Value) (t : TypeId) (hg : w.heap[g]? = some (.cells cur.toArray t (0, 0))) (cs : List Value) (hn : cs.length = Nat.min sLen dLen)
    (hpos : 0 < cs.length → dp = some ⟨g, off, none⟩ ∧ ∃ ad, sp = some ad ∧ ∀ j v, cs[j]? = some v → w.cell? (ad.add j) = some v)
    (hfit : off + cs.length ≤ cur.length) (h1 : ∀ v ∈ cs, v.oneCell' = true)
    (h : ∀ w', Hid (w'.heap[g]? = some (.cells (splice cur off cs).toArray t (0, 0))) → Frame [g] w w' → K (a.put o.dst (goInt cs.length)) w') :
    if Region.wanted o (yielded ops a.tmps) = true then Oper.wp P o a w K Q else E := by
  have hw : Region.wanted o (yielded ops a.tmps) = true := by simp [Region.wanted, hgd]
  rw [if_pos hw]
  by_cases h0 : cs.length = 0
  · obtain rfl : cs = [] := List.eq_nil_of_length_eq_zero h0
    have hrun := run_copy_none (P := P) w dT sT o.type elem dp sp dLen dCap sLen sCap hu hsz (by simpa using hn.symm)
    unfold Oper.wp
    simp [execOp, ho, resolve, invoke, builtin, hd, hs, hrun, Result.andThen]
    exact h w (show _ = _ by simpa [splice] using hg) (Frame.refl _ _)
  · obtain ⟨rfl, ad, rfl, hsrc⟩ := hpos (by omega)
    have hrun := run_copy_row (P := P) w dT sT o.type elem g off dLen dCap ad sLen sCap cur.toArray t cs hu hsz hg hn hsrc (by simpa using hfit) h1
    unfold Oper.wp
    simp [execOp, ho, resolve, invoke, builtin, hd, hs, hrun, Result.andThen]
    exact h _ (show _ = _ by simpa [splice] using setRow_heap w g _ _ t _ hg) ((Frame.refl _ _).setRow (by simp) _)

theorem cell3 {w : World} {g j : Nat} {cs : Array Value} {t : TypeId} {fr : Nat × Nat} {v : Value} (h : w.heap[g]? = some (.cells cs t fr)) (hj : cs[j]? = some v) : w.cell? ⟨g, j, none⟩ = some v := by
  rw [cell_of_row w g j cs t fr h, hj]
theorem free3 {w : World} {g j : Nat} {cs : Array Value} {t : TypeId} (h : w.heap[g]? = some (.cells cs t (0, 0))) : w.frozen? ⟨g, j, none⟩ = false := frozen_of_row w g j cs t h

set_option maxHeartbeats 1000000 in
set_option maxRecDepth 100000 in
/-- (*bytes.Reader).Read where something is left. -/
theorem read_some (q dd bb N p m : Nat) (D : List Int) (B : List Value) (pr : Value) (w : World)
    (hq : w.heap[q]? = some (.cells #[.slice (some ⟨dd, 0, none⟩) N N, .int .i64 p, pr] 47 (0, 0)))
    (hD : View .u8 w (some ⟨dd, 0, none⟩) D) (hDl : D.length = N) (hbb : w.heap[bb]? = some (.cells B.toArray 5 (0, 0))) (hBl : B.length = 10000)
    (hp : p < N) (hN : N ≤ 65537) (n1 : q ≠ bb) (n2 : dd ≠ q) (n3 : dd ≠ bb) (hm : m = Nat.min (N - p) 10000) :
    Calls Tryd.prog 52 #[.pointer (some ⟨q, 0, none⟩), .slice (some ⟨bb, 0, none⟩) 10000 10000] w fun e w' => e = .returned (.tuple #[.int .i64 m, .nilIface]) ∧
      w'.heap[q]? = some (.cells #[.slice (some ⟨dd, 0, none⟩) N N, .int .i64 (p + m : Nat), .int .i64 (-1)] 47 (0, 0)) ∧
      w'.heap[bb]? = some (.cells (splice B 0 (((D.drop p).take m).map (Value.int .u8))).toArray 5 (0, 0)) ∧ Frame [q, bb] w w' := by
  have c0 := cell3 (j := 0) hq rfl
  have c1 := cell3 (j := 1) hq rfl
  have c2 := cell3 (j := 2) hq rfl
  have f1 := free3 (j := 1) hq
  have f2 := free3 (j := 2) hq
  have hp1 : ¬ (N : Int) ≤ (p : Int) := by omega
  go_enter Tryd.func52, Tryd.ntmps52
  go_wp2
  go_quiet (fail)
  go_wp2
  obtain ⟨W1, hW1⟩ : ∃ W1, W1 = (w.drewN nq).setCell ⟨q, 2, none⟩ (.int .i64 (-1)) := ⟨_, rfl⟩
  have hq1 : W1.heap[q]? = some (.cells #[.slice (some ⟨dd, 0, none⟩) N N, .int .i64 p, .int .i64 (-1)] 47 (0, 0)) := by
    rw [hW1]; exact heap_setCell_same (w.drewN nq) q 2 _ 47 _ hq
  have hF1 : Frame [q] w W1 := by rw [hW1]; exact ((Frame.refl _ _).drewN nq).setCell (by simp) _
  have hb1 : W1.heap[bb]? = some (.cells B.toArray 5 (0, 0)) := hF1.obj hbb (by simp; omega)
  have hD1 : View .u8 W1 (some ⟨dd, 0, none⟩) D := hD.frame hF1 (fun b off e => by simp at e; simp; omega)
  rw [← hW1]
  clear hW1 c0 c1 c2 f1 f2 hq hbb hD
  have c0 := cell3 (j := 0) hq1 rfl
  have c1 := cell3 (j := 1) hq1 rfl
  have hs1 : (p : Int) ≤ (N : Int) := by omega
  have hne : ¬ N = p := by omega
  have HM : Hid _ := hm
  have hm2 : 1 ≤ m ∧ m ≤ N - p ∧ m ≤ 10000 := by rw [hm]; exact ⟨by rw [Nat.le_min]; omega, Nat.min_le_left _ _, Nat.min_le_right _ _⟩
  clear hm
  obtain ⟨cs, hcs⟩ : ∃ cs, cs = ((D.drop p).take m).map (Value.int .u8) := ⟨_, rfl⟩
  have hcl : cs.length = m := by rw [hcs]; simp; omega
  have hsrc : ∀ W, View .u8 W (some ⟨dd, 0, none⟩) D → ∀ j v, cs[j]? = some v → W.cell? ((⟨dd, p, none⟩ : Addr).add j) = some v := fun W hW => by
    have := (hW.at (lo := p)).take (hi := m)
    rw [Nat.zero_add] at this
    rw [hcs]
    exact this.news _ rfl
  have hone : ∀ v ∈ cs, v.oneCell' = true := by rw [hcs]; exact ints_oneCell _ _
  have HCS : Hid _ := hcs
  have HCL : Hid _ := hcl
  clear hcs hcl
  go_region_law (refine step_copy_row rfl (.tmp 20) (.tmp 29) 22 22 rfl 5 Tryd.underlying22 Tryd.size5 (some ⟨bb, 0, none⟩) (some ⟨dd, p, none⟩) 10000 10000 (N - p) (N - p) (by kernel_rfl) (by kernel_rfl) bb 0 B 5 ?_ cs ?_ ?_ ?_ ?_ ?_; (exact hb1); (rw [HCL.out]; exact HM.out); (exact fun _ => ⟨rfl, _, rfl, hsrc _ (hD1.drewN _)⟩); (rw [HCL.out, hBl]; omega); (exact hone); (rw [HCL.out]); intro w2 hb2 hF2; (have hq2 := hF2.obj hq1 (by simp; omega)); (have d0 := cell3 (j := 0) hq2 rfl); (have d1 := cell3 (j := 1) hq2 rfl); (have e1 := free3 (j := 1) hq2))
  all_goals
    go_wp2
    go_ret2
    refine ⟨rfl, ?_, ?_, ?_⟩
    · rw [heap_setCell_same w2 q 1 _ 47 _ hq2]; simp
    · rw [heap_setCell_other w2 ⟨q, 1, none⟩ bb _ (by show bb ≠ q; omega), ← HCS.out]; exact hb2.out
    · exact ((hF1.mono (by simp)).drew.trans (hF2.mono (by simp))).setCell (by simp) _

set_option maxHeartbeats 1000000 in
/-- (*bytes.Reader).Read at the end: 0 and what io.EOF holds. -/
theorem read_none (q dd N p : Nat) (s : Value) (pr eof : Value) (w : World)
    (hq : w.heap[q]? = some (.cells #[.slice (some ⟨dd, 0, none⟩) N N, .int .i64 p, pr] 47 (0, 0))) (he : w.cell? ⟨1, 0, none⟩ = some eof) (hp : N ≤ p) (hN : p ≤ 65537) :
    Calls Tryd.prog 52 #[.pointer (some ⟨q, 0, none⟩), s] w fun e w' => e = .returned (.tuple #[.int .i64 0, eof]) ∧ ∃ n, w' = w.drewN n := by
  have c0 := cell3 (j := 0) hq rfl
  have c1 := cell3 (j := 1) hq rfl
  have hp1 : (N : Int) ≤ (p : Int) := by omega
  go_enter Tryd.func52, Tryd.ntmps52
  go_wp2
  go_quiet (fail)
  go_wp2
  go_quiet (fail)
  go_wp2
  go_ret2
  exact ⟨rfl, _, World.drewN_drewN _ _ _⟩
end Go.Proofs.Qxb6612819aDoor

import Derived.Test.Qxb6614579aBld3
import Derived.Laws.MakeOwn
namespace Go.Proofs.Qxb6614579a
open Go.RowKit
set_option linter.unusedVariables false

/-- The seven cells of a sibling that names a write and nothing more. -/
def sibCells (d : ByteArray × Int) : Array Value := #[.string d.1, .int .u64 d.2, .slice none 0 0, .bool false, .map none, .string ⟨#[]⟩, .int .u64 0]

/-- The elements of a slice of siblings at 'a' name the writes ds. -/
def Sibs (w : World) (a : Option Addr) (ds : List (ByteArray × Int)) : Prop :=
  ∀ i, i < ds.length → ∃ b off, a = some ⟨b, off, none⟩ ∧ ∀ j, j < 7 → w.cell? ⟨b, off + (i * 7 + j), none⟩ = (sibCells (ds.getD i (⟨#[]⟩, 0)))[j]?

theorem Sibs.below {w w' : World} {a : Option Addr} {ds : List (ByteArray × Int)} (h : Sibs w a ds) (hb : Frame [] w w') : Sibs w' a ds := by
  intro i hi
  obtain ⟨b, off, rfl, hc⟩ := h i hi
  refine ⟨b, off, rfl, fun j hj => ?_⟩
  have h0 := hc j hj
  have hs : j < (sibCells (ds.getD i (⟨#[]⟩, 0))).size := by simpa [sibCells] using hj
  rw [Array.getElem?_eq_getElem hs] at h0 ⊢
  exact hb.cell h0 (by simp)

theorem Try.info62 : (Try.prog.info? 62).map (fun i => (i.size, i.bytes, i.zero)) = some (7, 88, some (.agg #[.string ⟨#[]⟩, .int .u64 0, .slice none 0 0, .bool false, .map none, .string ⟨#[]⟩, .int .u64 0])) := by kernel_rfl

/-- 'make([]Sibling, n)'. -/
theorem make_sibs (n : Nat) (hn : n ≤ 1048576) : ∃ B : Array Value, B.size = n * 7 ∧
    ∀ (w : World), (Instr.makeSlice 53 (.int .i64 n) (.int .i64 n)).run Try.prog w = .ok (.slice (some ⟨w.heap.size, 0, none⟩) n n) (w.alloc (.cells B 62 (0, 0))) := by
  obtain ⟨i0, hi, hz⟩ := Option.map_eq_some_iff.1 Try.info62
  simp only [Prod.mk.injEq] at hz
  obtain ⟨hz1, hz2, hz0⟩ := hz
  refine ⟨madeCells #[.string ⟨#[]⟩, .int .u64 0, .slice none 0 0, .bool false, .map none, .string ⟨#[]⟩, .int .u64 0] (n * 7), by rw [size_madeCells], fun w => ?_⟩
  have := run_makeSlice (P := Try.prog) w 53 62 i0 _ Try.underlying53 hi hz0 .i64 .i64 n n (by omega) (Int.le_refl _) (by rw [hz1]; omega) (by rw [hz2]; omega) (by omega)
  simpa [hz1, Value.cells] using this

theorem Try.info55 : (Try.prog.info? 55).map (·.size) = some 2 := by kernel_rfl

/-- Seven cells of a row, set. -/
def put7 (cs : Array Value) (o : Nat) (v0 v1 v2 v3 v4 v5 v6 : Value) : Array Value :=
  ((((((cs.setIfInBounds o v0).setIfInBounds (o + 1) v1).setIfInBounds (o + 2) v2).setIfInBounds (o + 3) v3).setIfInBounds (o + 4) v4).setIfInBounds (o + 5) v5).setIfInBounds (o + 6) v6

theorem put7_size (cs : Array Value) (o : Nat) (v0 v1 v2 v3 v4 v5 v6 : Value) : (put7 cs o v0 v1 v2 v3 v4 v5 v6).size = cs.size := by simp [put7]

theorem put7_other (cs : Array Value) (o : Nat) (v0 v1 v2 v3 v4 v5 v6 : Value) (i : Nat) (h : i < o ∨ o + 7 ≤ i) : (put7 cs o v0 v1 v2 v3 v4 v5 v6)[i]? = cs[i]? := by
  unfold put7
  repeat rw [Array.getElem?_setIfInBounds, if_neg (by omega)]

theorem put7_at (cs : Array Value) (o : Nat) (v0 v1 v2 v3 v4 v5 v6 : Value) (ho : o + 6 < cs.size) (j : Nat) (hj : j < 7) : (put7 cs o v0 v1 v2 v3 v4 v5 v6)[o + j]? = #[v0, v1, v2, v3, v4, v5, v6][j]? := by
  unfold put7
  rcases (by omega : j = 0 ∨ j = 1 ∨ j = 2 ∨ j = 3 ∨ j = 4 ∨ j = 5 ∨ j = 6) with rfl | rfl | rfl | rfl | rfl | rfl | rfl
  all_goals
    repeat (first | rw [Array.getElem?_setIfInBounds, if_neg (by omega)] | rw [Array.getElem?_setIfInBounds, if_pos (by omega), if_pos (by first | omega | (simp only [Array.size_setIfInBounds]; omega))])
    rfl

theorem put7_row (w : World) (g o : Nat) (t : TypeId) (cs : Array Value) (v0 v1 v2 v3 v4 v5 v6 : Value) (h : w.heap[g]? = some (.cells cs t (0, 0))) :
    (((((((w.setCell ⟨g, o, none⟩ v0).setCell ⟨g, o + 1, none⟩ v1).setCell ⟨g, o + 2, none⟩ v2).setCell ⟨g, o + 3, none⟩ v3).setCell ⟨g, o + 4, none⟩ v4).setCell ⟨g, o + 5, none⟩ v5).setCell ⟨g, o + 6, none⟩ v6).heap[g]? = some (.cells (put7 cs o v0 v1 v2 v3 v4 v5 v6) t (0, 0)) := by
  have h0 := heap_setCell_same w g o cs t v0 h
  have h1 := heap_setCell_same _ g (o + 1) _ t v1 h0
  have h2 := heap_setCell_same _ g (o + 2) _ t v2 h1
  have h3 := heap_setCell_same _ g (o + 3) _ t v3 h2
  have h4 := heap_setCell_same _ g (o + 4) _ t v4 h3
  have h5 := heap_setCell_same _ g (o + 5) _ t v5 h4
  exact heap_setCell_same _ g (o + 6) _ t v6 h5

theorem put7_frame (w : World) (g o : Nat) (v0 v1 v2 v3 v4 v5 v6 : Value) : Frame [g] w (((((((w.setCell ⟨g, o, none⟩ v0).setCell ⟨g, o + 1, none⟩ v1).setCell ⟨g, o + 2, none⟩ v2).setCell ⟨g, o + 3, none⟩ v3).setCell ⟨g, o + 4, none⟩ v4).setCell ⟨g, o + 5, none⟩ v5).setCell ⟨g, o + 6, none⟩ v6) :=
  (((((((Frame.refl _ w).setCell (by simp) _).setCell (by simp) _).setCell (by simp) _).setCell (by simp) _).setCell (by simp) _).setCell (by simp) _).setCell (by simp) _

theorem row_drew {w : World} {g : Nat} {o : Option Obj} (h : w.heap[g]? = o) : w.drew.heap[g]? = o := h

theorem zip_getD (ns : List ByteArray) (ss : List Int) (d i : Nat) (h1 : i < d) (h2 : d ≤ ns.length) (h3 : d ≤ ss.length) : ((ns.zip ss).take d).getD i (⟨#[]⟩, 0) = (ns.getD i ⟨#[]⟩, ss.getD i 0) := by
  simp [List.getD, h1, List.getElem?_eq_getElem (show i < ns.length by omega), List.getElem?_eq_getElem (show i < ss.length by omega), List.getElem?_eq_getElem (show i < (ns.zip ss).length by simp; omega)]

theorem row_has {w : World} {g i : Nat} {cs : Array Value} {t : TypeId} {fr : Nat × Nat} (h : w.heap[g]? = some (.cells cs t fr)) (hi : i < cs.size) : ∃ v, w.cell? ⟨g, i, none⟩ = some v :=
  ⟨cs[i], by rw [cell_of_row _ _ _ _ t fr h, Array.getElem?_eq_getElem hi]⟩

set_option maxHeartbeats 2000000 in
set_option maxRecDepth 100000 in
/-- zzRecord. -/
theorem record_any (a a' b b' : Option Addr) (n m l q ca ca' cb cb' : Nat) (ks : List ByteArray) (vs : List Int) (ns : List ByteArray) (ss : List Int) (c d : Nat) (w : World)
    (hn : ks.length = n) (hm : vs.length = m) (hc : min n m = c) (hl : n ≤ 1048576) (hx : SView w a ks) (hv : View .u64 w a' vs)
    (hn' : ns.length = l) (hm' : ss.length = q) (hc' : min l q = d) (hl' : l ≤ 1048576) (hx' : SView w b ns) (hv' : View .u64 w b' ss) :
    Calls Try.prog 29 #[.slice a n ca, .slice a' m ca', .slice b l cb, .slice b' q cb'] w fun e w' => ∃ vb g, e = .returned (.agg #[.map (some vb), .slice (some ⟨g, 0, none⟩) d d]) ∧
      w.heap.size ≤ vb ∧ w.heap.size ≤ g ∧ MapOf w' vb (fun x => (verF ks vs c x).map (Value.int .u64)) ∧ Sibs w' (some ⟨g, 0, none⟩) ((ns.zip ss).take d) ∧ Below w.heap.size w w' := by
  have hdl : d ≤ l := by omega
  have hdq : d ≤ q := by omega
  obtain ⟨W1, hW1⟩ : ∃ W, w.alloc (.cells #[.map none, .slice none 0 0] 55) = W := ⟨_, rfl⟩
  have F1 : Frame [] w W1 := by rw [← hW1]; exact (Frame.refl _ _).alloc _
  have sz1 : W1.heap.size = w.heap.size + 1 := by rw [← hW1]; simp
  have H1 : Hid _ := min2_any l q d W1 hc'
  obtain ⟨B, hB, hmk⟩ := make_sibs d (by omega)
  obtain ⟨W2, hW2⟩ : ∃ W, W1.alloc (.cells B 62 (0, 0)) = W := ⟨_, rfl⟩
  have hmk1 := hmk W1
  rw [hW2, sz1] at hmk1
  have F2 : Frame [] W1 W2 := by rw [← hW2]; exact (Frame.refl _ _).alloc _
  go_enter Try.func29, Try.ntmps29
  go_wp2_with fail
  refine Calls.mono H1.out ?_
  clear H1
  rintro e w' ⟨rfl, hww⟩
  have hw2 := hww.symm
  subst hw2
  go_wp2_with fail
  obtain ⟨g, hg⟩ : ∃ g, g = w.heap.size + 1 := ⟨_, rfl⟩
  rw [← hg]
  have r2 : W2.heap[g]? = some (.cells B 62 (0, 0)) := by
    rw [hg, ← sz1, ← hW2]; exact heap_alloc_new W1 _
  have F02 := F1.trans F2
  have HG : Hid _ := hg
  have hgl : w.heap.size < g := by omega
  clear hg
  go_loopw [11] (fun i wr => ∃ k : Nat, k ≤ d ∧ i = .int .i64 k ∧ ∃ cur : Array Value, Hid (wr.heap[g]? = some (.cells cur 62 (0, 0))) ∧ Hid (cur.size = d * 7) ∧ Hid (∀ i j, i < k → j < 7 → cur[i * 7 + j]? = (sibCells (ns.getD i ⟨#[]⟩, ss.getD i 0))[j]?) ∧ Hid (Frame [g] W2 wr)) (fun i _ => d - (intOf i).toNat)
  case atStart => exact ⟨0, Nat.zero_le _, rfl, B, r2, hB, fun i j hi => absurd hi (by omega), Frame.refl _ _⟩
  case round =>
    obtain ⟨k, hk, rfl, cur, HR, HS, HD, HF⟩ := hrel
    by_cases hlt : k < d
    · obtain ⟨c1, off, rfl, hc⟩ := hx' k (by omega)
      obtain ⟨c2, off', rfl, hc'⟩ := hv' k (by omega)
      obtain ⟨y, hy⟩ : ∃ y, ns.getD k ⟨#[]⟩ = y := ⟨_, rfl⟩
      obtain ⟨u, hu⟩ : ∃ u, ss.getD k 0 = u := ⟨_, rfl⟩
      rw [hy] at hc
      rw [hu] at hc'
      have l1 := block_lt_of_cell hc
      have l2 := block_lt_of_cell hc'
      simp at l1 l2
      have g1 := HF.out.cell (F02.cell hc (by simp)) (by simp; omega)
      have g2 := HF.out.cell (F02.cell hc' (by simp)) (by simp; omega)
      have hkn : k < l := by omega
      have hkm : k < q := by omega
      have hs := HS.out
      obtain ⟨v0, x0⟩ := row_has (i := k * 7) HR.out (by omega)
      have z0 : wr.frozen? ⟨g, k * 7, none⟩ = false := frozen_of_row _ _ _ _ 62 HR.out
      obtain ⟨v1, x1⟩ := row_has (i := k * 7 + 1) HR.out (by omega)
      have z1 : wr.frozen? ⟨g, k * 7 + 1, none⟩ = false := frozen_of_row _ _ _ _ 62 HR.out
      obtain ⟨v2, x2⟩ := row_has (i := k * 7 + 2) HR.out (by omega)
      have z2 : wr.frozen? ⟨g, k * 7 + 2, none⟩ = false := frozen_of_row _ _ _ _ 62 HR.out
      obtain ⟨v3, x3⟩ := row_has (i := k * 7 + 3) HR.out (by omega)
      have z3 : wr.frozen? ⟨g, k * 7 + 3, none⟩ = false := frozen_of_row _ _ _ _ 62 HR.out
      obtain ⟨v4, x4⟩ := row_has (i := k * 7 + 4) HR.out (by omega)
      have z4 : wr.frozen? ⟨g, k * 7 + 4, none⟩ = false := frozen_of_row _ _ _ _ 62 HR.out
      obtain ⟨v5, x5⟩ := row_has (i := k * 7 + 5) HR.out (by omega)
      have z5 : wr.frozen? ⟨g, k * 7 + 5, none⟩ = false := frozen_of_row _ _ _ _ 62 HR.out
      obtain ⟨v6, x6⟩ := row_has (i := k * 7 + 6) HR.out (by omega)
      have z6 : wr.frozen? ⟨g, k * 7 + 6, none⟩ = false := frozen_of_row _ _ _ _ 62 HR.out
      have HY : Hid _ := hy
      have HU : Hid _ := hu
      clear hc hc' l1 l2 hs hy hu
      go_wp2_with fail
      go_region
      all_goals
        go_wp2
        go_roundw
        case rel =>
          refine ⟨k + 1, by omega, by go_num, put7 cur (k * 7) (.string y) (.int .u64 u) (.slice none 0 0) (.bool false) (.map none) (.string ⟨#[]⟩) (.int .u64 0), row_drew (put7_row wr g (k * 7) 62 cur (.string y) (.int .u64 u) (.slice none 0 0) (.bool false) (.map none) (.string ⟨#[]⟩) (.int .u64 0) HR.out), ?_, ?_, (HF.out.trans (put7_frame wr g (k * 7) (.string y) (.int .u64 u) (.slice none 0 0) (.bool false) (.map none) (.string ⟨#[]⟩) (.int .u64 0))).drew⟩
          · show Array.size _ = d * 7
            rw [put7_size]; exact HS.out
          · show ∀ i j, i < k + 1 → j < 7 → _
            intro i j hi hj
            have hs := HS.out
            rcases (by omega : i < k ∨ i = k) with h | rfl
            · rw [put7_other _ _ _ _ _ _ _ _ _ _ (by omega)]; exact HD.out i j h hj
            · rw [put7_at _ _ _ _ _ _ _ _ _ (by omega) j hj, HY.out, HU.out]; rfl
        case measure => simp [intOf]; omega
    · obtain rfl : k = d := by omega
      have F0r : Frame [] w wr := ((F02.mono (by simp)).trans HF.out).drop (fun k hk => by simp at hk; simp; omega)
      have HV : Hid _ := version_any a a' n m ca ca' ks vs c wr hn hm hc hl (hx.below F0r) (hv.below0 F0r)
      go_wp2_with fail
      refine Calls.mono HV.out ?_
      clear HV
      rintro e W5 ⟨vb, rfl, hvb, m5, b5⟩
      have F5 : Frame [] wr W5 := Frame.of_below b5
      have r1 : W1.heap[w.heap.size]? = some (.cells #[.map none, .slice none 0 0] 55 (0, 0)) := by rw [← hW1]; exact heap_alloc_new w _
      have s1 := F5.obj (HF.out.obj (F2.obj r1 (by simp)) (by simp; omega)) (by simp)
      have k0 : W5.cell? ⟨w.heap.size, 0, none⟩ = some (.map none) := cell_of_row _ _ 0 _ 55 (0, 0) s1
      have k1 : W5.cell? ⟨w.heap.size, 1, none⟩ = some (.slice none 0 0) := cell_of_row _ _ 1 _ 55 (0, 0) s1
      have z0 : W5.frozen? ⟨w.heap.size, 0, none⟩ = false := frozen_of_row _ _ 0 _ 55 s1
      have z1 : W5.frozen? ⟨w.heap.size, 1, none⟩ = false := frozen_of_row _ _ 1 _ 55 s1
      have HM : Hid _ := m5
      clear m5
      go_wp2
      have g1 := heap_setCell_same W5 w.heap.size 0 _ 55 (.map (some vb)) s1
      have g2 := heap_setCell_same _ w.heap.size 1 _ 55 (.slice (some ⟨g, 0, none⟩) k k) g1
      refine bodyPost_ret (results_cell_row rfl _ _ w.heap.size 55 _ (0, 0) _ rfl g2 Try.underlying55 rfl Try.info55) rfl ?_
      have FX : Frame [w.heap.size] W5 ((W5.setCell ⟨w.heap.size, 0, none⟩ (.map (some vb))).setCell ⟨w.heap.size, 1, none⟩ (.slice (some ⟨g, 0, none⟩) k k)) := ((Frame.refl _ _).setCell (by simp) _).setCell (by simp) _
      have hrg := F0r.size
      have F05 : Frame [w.heap.size] w ((W5.setCell ⟨w.heap.size, 0, none⟩ (.map (some vb))).setCell ⟨w.heap.size, 1, none⟩ (.slice (some ⟨g, 0, none⟩) k k)) := ((F0r.trans F5).mono (by simp)).trans FX
      have hgr : wr.heap.size > g := (Array.getElem?_eq_some_iff.1 HR.out).1
      refine ⟨vb, g, rfl, by omega, by omega, MapOf.frame HM.out FX (by simp; omega), ?_, F05.below (Nat.le_refl _) (fun k hk => by simp at hk; omega)⟩
      intro i hi
      have hik : i < k := by
        have := hi
        simp at this
        omega
      refine ⟨g, 0, rfl, fun j hj => ?_⟩
      have sg := FX.obj (F5.obj HR.out (by simp)) (by simp; omega)
      rw [cell_of_row _ _ _ _ 62 (0, 0) sg, Nat.zero_add, HD.out i j hik hj, zip_getD ns ss k i hik (by omega) (by omega)]

end Go.Proofs.Qxb6614579a

import Derived.Test.Qxb6614579aRec
import Derived.Test.Qxb6614579aUnt4
namespace Go.Proofs.Qxb6614579a
open Go.RowKit
set_option linter.unusedVariables false

/-- untold, whole. -/
theorem untold_any (lb vb p7 sb : Nat) (G : ByteArray → Option Nat) (E : ByteArray → ByteArray → Option Int) (V : ByteArray → Option Int) (U : List ByteArray) (kn : ByteArray → Bool) (T : ByteArray × Int → Option ByteArray) (n : ByteArray) (q : Int) (w : World) (H : LV w lb vb G E V U) (hq : 0 ≤ q)
    (hp : w.cell? ⟨p7, 0, none⟩ = some (.map (some sb))) (hs : MapOf w sb (setF kn)) (hsz : ∀ k, V k ≠ none → k.size ≤ maxLen) (hnz : n.size ≤ maxLen) (hT : IsTold E V kn T) :
    Calls Try.prog 42 #[.map (some lb), .map (some vb), .agg #[.string n, .int .u64 q], .func (.func 39) #[] #[.pointer (some ⟨p7, 0, none⟩)]] w fun e w' => e = .returned (.tuple #[dotOf (T (n, q)), .bool (T (n, q)).isSome]) ∧ Below w.heap.size w w' := by
  by_cases hc : Covered E V (n, q)
  · refine Calls.mono (untold_cov lb vb G E V U _ n q w H hq hc) ?_
    rintro e w' ⟨rfl, hb⟩
    rw [hT (n, q) none (.inl ⟨hc, rfl⟩)]
    exact ⟨rfl, hb⟩
  · refine Calls.mono (untold_unc lb vb p7 sb G E V U kn n q w H hq hc hp hs hsz hnz) ?_
    rintro e w' ⟨r, rfl, ht, hb⟩
    rw [hT (n, q) r ht]
    exact ⟨rfl, hb⟩

/-- What one side of Record.Untold asks: siblings, and the context that is to have seen them. -/
structure Side (w : World) (lb vb : Nat) (G : ByteArray → Option Nat) (E : ByteArray → ByteArray → Option Int) (V : ByteArray → Option Int) (U : List ByteArray) (kn : ByteArray → Bool) (T : ByteArray × Int → Option ByteArray) (a : Option Addr) (n : Nat) (ds : List (ByteArray × Int)) : Prop where
  lv : LV w lb vb G E V U
  told : IsTold E V kn T
  sz : ∀ k, V k ≠ none → k.size ≤ maxLen
  len : ds.length = n
  sibs : Sibs w a ds
  ok : ∀ i, i < ds.length → 0 ≤ (ds.getD i (⟨#[]⟩, 0)).2 ∧ (ds.getD i (⟨#[]⟩, 0)).1.size ≤ maxLen

theorem Side.below {w w' : World} {lb vb : Nat} {G : ByteArray → Option Nat} {E : ByteArray → ByteArray → Option Int} {V : ByteArray → Option Int} {U : List ByteArray} {kn : ByteArray → Bool} {T : ByteArray × Int → Option ByteArray} {a : Option Addr} {n : Nat} {ds : List (ByteArray × Int)}
    (h : Side w lb vb G E V U kn T a n ds) (hf : Frame [] w w') : Side w' lb vb G E V U kn T a n ds :=
  ⟨h.lv.below hf, h.told, h.sz, h.len, h.sibs.below hf, h.ok⟩

/-- What one side answers, of its first k siblings. -/
def sideF (T : ByteArray × Int → Option ByteArray) (ds : List (ByteArray × Int)) (k : Nat) : Option ByteArray := firstF (fun i => T (ds.getD i (⟨#[]⟩, 0))) k

/-- What has been answered behind k sides. -/
def accF (X1 X2 : Option ByteArray) : Nat → Option ByteArray
  | 0 => none
  | 1 => X1
  | _ => orF X1 X2

theorem seven_row (w : World) (g : Nat) (t : TypeId) (u0 u1 u2 u3 u4 u5 u6 v0 v1 v2 v3 v4 v5 v6 : Value) (h : w.heap[g]? = some (.cells #[u0, u1, u2, u3, u4, u5, u6] t (0, 0))) :
    (((((((w.setCell ⟨g, 0, none⟩ v0).setCell ⟨g, 1, none⟩ v1).setCell ⟨g, 2, none⟩ v2).setCell ⟨g, 3, none⟩ v3).setCell ⟨g, 4, none⟩ v4).setCell ⟨g, 5, none⟩ v5).setCell ⟨g, 6, none⟩ v6).heap[g]? = some (.cells #[v0, v1, v2, v3, v4, v5, v6] t (0, 0)) := by
  have h0 : (w.setCell ⟨g, 0, none⟩ v0).heap[g]? = some (.cells #[v0, u1, u2, u3, u4, u5, u6] t (0, 0)) := heap_setCell_same _ g 0 _ t v0 h
  have h1 : ((w.setCell ⟨g, 0, none⟩ v0).setCell ⟨g, 1, none⟩ v1).heap[g]? = some (.cells #[v0, v1, u2, u3, u4, u5, u6] t (0, 0)) := heap_setCell_same _ g 1 _ t v1 h0
  have h2 : (((w.setCell ⟨g, 0, none⟩ v0).setCell ⟨g, 1, none⟩ v1).setCell ⟨g, 2, none⟩ v2).heap[g]? = some (.cells #[v0, v1, v2, u3, u4, u5, u6] t (0, 0)) := heap_setCell_same _ g 2 _ t v2 h1
  have h3 : ((((w.setCell ⟨g, 0, none⟩ v0).setCell ⟨g, 1, none⟩ v1).setCell ⟨g, 2, none⟩ v2).setCell ⟨g, 3, none⟩ v3).heap[g]? = some (.cells #[v0, v1, v2, v3, u4, u5, u6] t (0, 0)) := heap_setCell_same _ g 3 _ t v3 h2
  have h4 : (((((w.setCell ⟨g, 0, none⟩ v0).setCell ⟨g, 1, none⟩ v1).setCell ⟨g, 2, none⟩ v2).setCell ⟨g, 3, none⟩ v3).setCell ⟨g, 4, none⟩ v4).heap[g]? = some (.cells #[v0, v1, v2, v3, v4, u5, u6] t (0, 0)) := heap_setCell_same _ g 4 _ t v4 h3
  have h5 : ((((((w.setCell ⟨g, 0, none⟩ v0).setCell ⟨g, 1, none⟩ v1).setCell ⟨g, 2, none⟩ v2).setCell ⟨g, 3, none⟩ v3).setCell ⟨g, 4, none⟩ v4).setCell ⟨g, 5, none⟩ v5).heap[g]? = some (.cells #[v0, v1, v2, v3, v4, v5, u6] t (0, 0)) := heap_setCell_same _ g 5 _ t v5 h4
  exact heap_setCell_same _ g 6 _ t v6 h5

theorem seven_frame (w : World) (g : Nat) (v0 v1 v2 v3 v4 v5 v6 : Value) : Frame [g] w (((((((w.setCell ⟨g, 0, none⟩ v0).setCell ⟨g, 1, none⟩ v1).setCell ⟨g, 2, none⟩ v2).setCell ⟨g, 3, none⟩ v3).setCell ⟨g, 4, none⟩ v4).setCell ⟨g, 5, none⟩ v5).setCell ⟨g, 6, none⟩ v6) :=
  (((((((Frame.refl _ w).setCell (by simp) _).setCell (by simp) _).setCell (by simp) _).setCell (by simp) _).setCell (by simp) _).setCell (by simp) _).setCell (by simp) _

theorem fresh_row {w W : World} {o : Obj} (h : w.alloc o = W) : W.heap[w.heap.size]? = some o := by rw [← h]; exact heap_alloc_new w o
theorem fresh_frame {w W : World} {o : Obj} (h : w.alloc o = W) : Frame [] w W := by rw [← h]; exact (Frame.refl _ _).alloc _

set_option maxHeartbeats 1000000 in
set_option maxRecDepth 100000 in
/-- Record.Untold. -/
theorem recUntold_any (lb vb1 vb2 p7 sb : Nat) (G : ByteArray → Option Nat) (E : ByteArray → ByteArray → Option Int) (V1 V2 : ByteArray → Option Int) (U : List ByteArray) (kn : ByteArray → Bool) (T1 T2 : ByteArray × Int → Option ByteArray) (a1 a2 : Option Addr) (n1 n2 c1 c2 : Nat) (ds1 ds2 : List (ByteArray × Int)) (w : World)
    (S1 : Side w lb vb2 G E V2 U kn T2 a1 n1 ds1) (S2 : Side w lb vb1 G E V1 U kn T1 a2 n2 ds2) (h1 : n1 ≤ 1048576) (h2 : n2 ≤ 1048576)
    (hp : w.cell? ⟨p7, 0, none⟩ = some (.map (some sb))) (hs : MapOf w sb (setF kn)) (R : Option ByteArray) (hR : R = orF (sideF T2 ds1 n1) (sideF T1 ds2 n2)) :
    Calls Try.prog 38 #[.agg #[.map (some vb1), .slice a1 n1 c1], .agg #[.map (some vb2), .slice a2 n2 c2], .map (some lb), .func (.func 39) #[] #[.pointer (some ⟨p7, 0, none⟩)]] w fun e w' => e = .returned (.tuple #[dotOf R, .bool R.isSome]) ∧ Below w.heap.size w w' := by
  obtain ⟨W1, hW1⟩ : ∃ W, w.alloc (.cells #[.map (some vb1), .slice a1 n1 c1] 55) = W := ⟨_, rfl⟩
  obtain ⟨W2, hW2⟩ : ∃ W, W1.alloc (.cells #[.map (some vb2), .slice a2 n2 c2] 55) = W := ⟨_, rfl⟩
  obtain ⟨W3, hW3⟩ : ∃ W, W2.alloc (.cells #[.string ⟨#[]⟩, .int .u64 0] 34) = W := ⟨_, rfl⟩
  have s1 : W1.heap.size = w.heap.size + 1 := by rw [← hW1]; simp
  have s2 : W2.heap.size = w.heap.size + 1 + 1 := by rw [← hW2]; simp [s1]
  have s3 : W3.heap.size = w.heap.size + 1 + 1 + 1 := by rw [← hW3]; simp [s2]
  have F1 := fresh_frame hW1
  have F2 := fresh_frame hW2
  have F3 := fresh_frame hW3
  have r1 := (F2.trans F3).obj (fresh_row hW1) (by simp)
  have r2 := F3.obj (fresh_row hW2) (by simp)
  have r3 := fresh_row hW3
  rw [s1] at r2
  rw [s2] at r3
  have k0 : W3.cell? ⟨w.heap.size, 0, none⟩ = some (.map (some vb1)) := cell_of_row _ _ 0 _ 55 (0, 0) r1
  have k1 : W3.cell? ⟨w.heap.size, 1, none⟩ = some (.slice a1 n1 c1) := cell_of_row _ _ 1 _ 55 (0, 0) r1
  have k2 : W3.cell? ⟨w.heap.size + 1, 0, none⟩ = some (.map (some vb2)) := cell_of_row _ _ 0 _ 55 (0, 0) r2
  have k3 : W3.cell? ⟨w.heap.size + 1, 1, none⟩ = some (.slice a2 n2 c2) := cell_of_row _ _ 1 _ 55 (0, 0) r2
  have HR : Hid _ := hR
  clear hR
  go_enter Try.func38, Try.ntmps38
  go_wp2_with fail
  obtain ⟨W4, hW4⟩ : ∃ W, W3.alloc (.cells #[.map (some vb1), .slice a1 n1 c1, .map (some vb2), .slice a2 n2 c2, .map (some vb2), .slice a2 n2 c2, .map (some vb1), .slice a1 n1 c1] 73) = W := ⟨_, rfl⟩
  rw [hW4]
  have F4 := fresh_frame hW4
  have r4 := fresh_row hW4
  rw [s3] at r4
  have F04 : Frame [] w W4 := ((F1.trans F2).trans F3).trans F4
  have r34 := F4.obj r3 (by simp)
  obtain ⟨g, hg⟩ : ∃ g, g = w.heap.size + 1 + 1 + 1 := ⟨_, rfl⟩
  obtain ⟨p8, hp8⟩ : ∃ p8, p8 = w.heap.size + 1 + 1 := ⟨_, rfl⟩
  rw [← hg] at r4 ⊢
  rw [← hp8] at r34 ⊢
  have hgp : p8 < g := by omega
  have hwp : w.heap.size ≤ p8 := by omega
  have T1' := S1.below F04
  have T2' := S2.below F04
  clear hW1 hW2 hW3 hW4 s1 s2 s3 F1 F2 F3 F4 r1 r2 r3 k0 k1 k2 k3 hg hp8 S1 S2
  go_loopw [24] (fun i wr => ∃ k : Nat, k ≤ 2 ∧ i = .int .i64 k ∧ Hid (accF (sideF T2 ds1 n1) (sideF T1 ds2 n2) k = none) ∧ Hid (Frame [] W4 wr)) (fun i _ => 2 - (intOf i).toNat)
  case atStart => exact ⟨0, by omega, rfl, rfl, Frame.refl _ _⟩
  case round =>
    obtain ⟨k, hk, rfl, HA, HF⟩ := hrel
    by_cases hlt : k < 2
    · obtain ⟨A, N, C, VH, VS, A', N', C', V, T, DS, q0, q1, q2, q3, SD, hN, HRm, HNx⟩ : ∃ A N C VH VS A' N' C' V T DS, W4.cell? ⟨g, k * 4, none⟩ = some (.map (some VH)) ∧ W4.cell? ⟨g, k * 4 + 1, none⟩ = some (.slice A N C) ∧ W4.cell? ⟨g, k * 4 + 2, none⟩ = some (.map (some VS)) ∧ W4.cell? ⟨g, k * 4 + 3, none⟩ = some (.slice A' N' C') ∧
          Side W4 lb VS G E V U kn T A N DS ∧ N ≤ 1048576 ∧ Hid (∀ m, sideF T DS N = some m → R = some m) ∧ Hid (sideF T DS N = none → accF (sideF T2 ds1 n1) (sideF T1 ds2 n2) (k + 1) = none) := by
        rcases (by omega : k = 0 ∨ k = 1) with rfl | rfl
        · exact ⟨a1, n1, c1, vb1, vb2, a2, n2, c2, V2, T2, ds1, cell_of_row _ _ 0 _ 73 (0, 0) r4, cell_of_row _ _ 1 _ 73 (0, 0) r4, cell_of_row _ _ 2 _ 73 (0, 0) r4, cell_of_row _ _ 3 _ 73 (0, 0) r4, T1', h1, fun m hm => by rw [HR.out, hm]; rfl, fun h => h⟩
        · have h0 : sideF T2 ds1 n1 = none := HA.out
          exact ⟨a2, n2, c2, vb2, vb1, a1, n1, c1, V1, T1, ds2, cell_of_row _ _ 4 _ 73 (0, 0) r4, cell_of_row _ _ 5 _ 73 (0, 0) r4, cell_of_row _ _ 6 _ 73 (0, 0) r4, cell_of_row _ _ 7 _ 73 (0, 0) r4, T2', h2, fun m hm => by rw [HR.out, h0, hm]; rfl, fun h => by show orF _ _ = none; rw [h0, h]; rfl⟩
      have hki : decide ((k : Int) < 2) = true := by
        rw [decide_eq_true_eq]
        omega
      have HRM := HRm
      have HNX := HNx
      clear HRm HNx
      have o0 := HF.out.cell q0 (by simp)
      have o1 := HF.out.cell q1 (by simp)
      have o2 := HF.out.cell q2 (by simp)
      have o3 := HF.out.cell q3 (by simp)
      obtain ⟨W5, hW5⟩ : ∃ W, wr.alloc (.cells #[.map none, .slice none 0 0, .map none, .slice none 0 0] 73) = W := ⟨_, rfl⟩
      obtain ⟨h, hh⟩ : ∃ h, wr.heap.size = h := ⟨_, rfl⟩
      have F5 := fresh_frame hW5
      have r5 := fresh_row hW5
      rw [hh] at r5
      have e0 : W5.cell? ⟨h, 0, none⟩ = some (.map none) := cell_of_row _ _ 0 _ 73 (0, 0) r5
      have e1 : W5.cell? ⟨h, 1, none⟩ = some (.slice none 0 0) := cell_of_row _ _ 1 _ 73 (0, 0) r5
      have e2 : W5.cell? ⟨h, 2, none⟩ = some (.map none) := cell_of_row _ _ 2 _ 73 (0, 0) r5
      have e3 : W5.cell? ⟨h, 3, none⟩ = some (.slice none 0 0) := cell_of_row _ _ 3 _ 73 (0, 0) r5
      have z0 : W5.frozen? ⟨h, 0, none⟩ = false := frozen_of_row _ _ 0 _ 73 r5
      have z1 : W5.frozen? ⟨h, 1, none⟩ = false := frozen_of_row _ _ 1 _ 73 r5
      have z2 : W5.frozen? ⟨h, 2, none⟩ = false := frozen_of_row _ _ 2 _ 73 r5
      have z3 : W5.frozen? ⟨h, 3, none⟩ = false := frozen_of_row _ _ 3 _ 73 r5
      obtain ⟨W6, hW6⟩ : ∃ W, (((W5.setCell ⟨h, 0, none⟩ (.map (some VH))).setCell ⟨h, 1, none⟩ (.slice A N C)).setCell ⟨h, 2, none⟩ (.map (some VS))).setCell ⟨h, 3, none⟩ (.slice A' N' C') = W := ⟨_, rfl⟩
      have r6 : W6.heap[h]? = some (.cells #[.map (some VH), .slice A N C, .map (some VS), .slice A' N' C'] 73 (0, 0)) := by
        rw [← hW6]
        have t0 := heap_setCell_same W5 h 0 _ 73 (.map (some VH)) r5
        have t1 := heap_setCell_same _ h 1 _ 73 (.slice A N C) t0
        have t2 := heap_setCell_same _ h 2 _ 73 (.map (some VS)) t1
        exact heap_setCell_same _ h 3 _ 73 (.slice A' N' C') t2
      have F56 : Frame [h] W5 W6 := by
        rw [← hW6]
        exact ((((Frame.refl _ _).setCell (by simp) _).setCell (by simp) _).setCell (by simp) _).setCell (by simp) _
      have F46 : Frame [] W4 W6 := HF.out.trans (((F5.mono (by simp)).trans F56).drop (fun k hk => by simp at hk; omega))
      have m1 : W6.cell? ⟨h, 1, none⟩ = some (.slice A N C) := cell_of_row _ _ 1 _ 73 (0, 0) r6
      have hgh : g < h := by
        have := (Array.getElem?_eq_some_iff.1 (HF.out.obj r4 (by simp))).1
        omega
      have HF4 : Hid _ := F46
      have HR6 : Hid _ := r6
      clear HF F5 F56 r5 r6 q0 q1 q2 q3 F46
      go_wp2_with fail
      go_loopw [32] (fun j wr => ∃ k2 : Nat, k2 ≤ N ∧ j = .int .i64 k2 ∧ Hid (sideF T DS k2 = none) ∧ Hid (Frame [] W6 wr)) (fun j _ => N - (intOf j).toNat)
      case atStart => exact ⟨0, by omega, rfl, rfl, Frame.refl _ _⟩
      case round =>
        clear o0 o1 o2 o3 hh hW5 hW6 e0 e1 e2 e3 z0 z1 z2 z3
        obtain ⟨k2, hk2, rfl, HA2, HF2⟩ := hrel
        by_cases hlt2 : k2 < N
        · have T6 := SD.below (HF4.out.trans HF2.out)
          have hlen := T6.len
          obtain ⟨b, off, rfl, hcs⟩ := T6.sibs k2 (by omega)
          obtain ⟨hdq, hdn⟩ := T6.ok k2 (by omega)
          obtain ⟨dn, dq, hd⟩ : ∃ dn dq, DS.getD k2 (⟨#[]⟩, 0) = (dn, dq) := ⟨_, _, rfl⟩
          rw [hd] at hcs hdq hdn
          simp only at hdq hdn
          have y0 : wr.cell? ⟨b, off + k2 * 7, none⟩ = some (.string dn) := by rw [← Nat.add_zero (off + k2 * 7), Nat.add_assoc]; exact hcs 0 (by omega)
          have y1 : wr.cell? ⟨b, off + k2 * 7 + 1, none⟩ = some (.int .u64 dq) := by rw [Nat.add_assoc]; exact hcs 1 (by omega)
          have y2 : wr.cell? ⟨b, off + k2 * 7 + 2, none⟩ = some (.slice none 0 0) := by rw [Nat.add_assoc]; exact hcs 2 (by omega)
          have y3 : wr.cell? ⟨b, off + k2 * 7 + 3, none⟩ = some (.bool false) := by rw [Nat.add_assoc]; exact hcs 3 (by omega)
          have y4 : wr.cell? ⟨b, off + k2 * 7 + 4, none⟩ = some (.map none) := by rw [Nat.add_assoc]; exact hcs 4 (by omega)
          have y5 : wr.cell? ⟨b, off + k2 * 7 + 5, none⟩ = some (.string ⟨#[]⟩) := by rw [Nat.add_assoc]; exact hcs 5 (by omega)
          have y6 : wr.cell? ⟨b, off + k2 * 7 + 6, none⟩ = some (.int .u64 0) := by rw [Nat.add_assoc]; exact hcs 6 (by omega)
          obtain ⟨W7, hW7⟩ : ∃ W, wr.alloc (.cells #[.string ⟨#[]⟩, .int .u64 0, .slice none 0 0, .bool false, .map none, .string ⟨#[]⟩, .int .u64 0] 62) = W := ⟨_, rfl⟩
          obtain ⟨s, hs'⟩ : ∃ s, wr.heap.size = s := ⟨_, rfl⟩
          have F7 := fresh_frame hW7
          have r7 := fresh_row hW7
          rw [hs'] at r7
          have e0 : W7.cell? ⟨s, 0, none⟩ = some (.string ⟨#[]⟩) := cell_of_row _ _ 0 _ 62 (0, 0) r7
          have z0 : W7.frozen? ⟨s, 0, none⟩ = false := frozen_of_row _ _ 0 _ 62 r7
          have e1 : W7.cell? ⟨s, 1, none⟩ = some (.int .u64 0) := cell_of_row _ _ 1 _ 62 (0, 0) r7
          have z1 : W7.frozen? ⟨s, 1, none⟩ = false := frozen_of_row _ _ 1 _ 62 r7
          have e2 : W7.cell? ⟨s, 2, none⟩ = some (.slice none 0 0) := cell_of_row _ _ 2 _ 62 (0, 0) r7
          have z2 : W7.frozen? ⟨s, 2, none⟩ = false := frozen_of_row _ _ 2 _ 62 r7
          have e3 : W7.cell? ⟨s, 3, none⟩ = some (.bool false) := cell_of_row _ _ 3 _ 62 (0, 0) r7
          have z3 : W7.frozen? ⟨s, 3, none⟩ = false := frozen_of_row _ _ 3 _ 62 r7
          have e4 : W7.cell? ⟨s, 4, none⟩ = some (.map none) := cell_of_row _ _ 4 _ 62 (0, 0) r7
          have z4 : W7.frozen? ⟨s, 4, none⟩ = false := frozen_of_row _ _ 4 _ 62 r7
          have e5 : W7.cell? ⟨s, 5, none⟩ = some (.string ⟨#[]⟩) := cell_of_row _ _ 5 _ 62 (0, 0) r7
          have z5 : W7.frozen? ⟨s, 5, none⟩ = false := frozen_of_row _ _ 5 _ 62 r7
          have e6 : W7.cell? ⟨s, 6, none⟩ = some (.int .u64 0) := cell_of_row _ _ 6 _ 62 (0, 0) r7
          have z6 : W7.frozen? ⟨s, 6, none⟩ = false := frozen_of_row _ _ 6 _ 62 r7
          obtain ⟨W8, hW8⟩ : ∃ W, (((((((W7.setCell ⟨s, 0, none⟩ (.string dn)).setCell ⟨s, 1, none⟩ (.int .u64 dq)).setCell ⟨s, 2, none⟩ (.slice none 0 0)).setCell ⟨s, 3, none⟩ (.bool false)).setCell ⟨s, 4, none⟩ (.map none)).setCell ⟨s, 5, none⟩ (.string ⟨#[]⟩)).setCell ⟨s, 6, none⟩ (.int .u64 0)) = W := ⟨_, rfl⟩
          have r8 : W8.heap[s]? = some (.cells #[.string dn, .int .u64 dq, .slice none 0 0, .bool false, .map none, .string ⟨#[]⟩, .int .u64 0] 62 (0, 0)) := by
            rw [← hW8]
            exact seven_row W7 s 62 _ _ _ _ _ _ _ _ _ _ _ _ _ _ r7
          have F78 : Frame [s] W7 W8 := by
            rw [← hW8]
            exact seven_frame W7 s _ _ _ _ _ _ _
          have Fr8 : Frame [] wr W8 := ((F7.mono (by simp)).trans F78).drop (fun k hk => by simp at hk; omega)
          have F48 : Frame [] W4 W8 := (HF4.out.trans HF2.out).trans Fr8
          have F08 : Frame [] w W8 := F04.trans F48
          have n0 : W8.cell? ⟨s, 0, none⟩ = some (.string dn) := cell_of_row _ _ 0 _ 62 (0, 0) r8
          have n1' : W8.cell? ⟨s, 1, none⟩ = some (.int .u64 dq) := cell_of_row _ _ 1 _ 62 (0, 0) r8
          have m2 : W8.cell? ⟨h, 2, none⟩ = some (.map (some VS)) := cell_of_row _ _ 2 _ 73 (0, 0) ((HF2.out.trans Fr8).obj HR6.out (by simp))
          have HU : Hid _ := untold_any lb VS p7 sb G E V U kn T dn dq W8 (SD.lv.below F48) hdq (F08.cell hp (by simp)) (hs.frame F08 (by simp)) SD.sz hdn SD.told
          have HF8 : Hid _ := F48
          have HD : Hid _ := hd
          have HFr : Hid _ := HF2.out.trans Fr8
          clear F7 F78 r7 r8 F48 F08 hcs hd T6 Fr8
          go_wp2_with fail
          refine Calls.mono HU.out ?_
          clear HU
          rintro e W9 ⟨rfl, b9⟩
          have F9 : Frame [] W8 W9 := Frame.of_below b9
          obtain ⟨x, hx⟩ : ∃ x, T (dn, dq) = x := ⟨_, rfl⟩
          rw [hx]
          have HX : Hid _ := hx
          obtain ⟨W10, hW10⟩ : ∃ W, W9.alloc (.cells #[.string ⟨#[]⟩, .int .u64 0] 34) = W := ⟨_, rfl⟩
          obtain ⟨t, ht⟩ : ∃ t, W9.heap.size = t := ⟨_, rfl⟩
          have F10 := fresh_frame hW10
          have r10 := fresh_row hW10
          rw [ht] at r10
          have f0 : W10.cell? ⟨t, 0, none⟩ = some (.string ⟨#[]⟩) := cell_of_row _ _ 0 _ 34 (0, 0) r10
          have f1 : W10.cell? ⟨t, 1, none⟩ = some (.int .u64 0) := cell_of_row _ _ 1 _ 34 (0, 0) r10
          have y0' : W10.frozen? ⟨t, 0, none⟩ = false := frozen_of_row _ _ 0 _ 34 r10
          have y1' : W10.frozen? ⟨t, 1, none⟩ = false := frozen_of_row _ _ 1 _ 34 r10
          clear hx y0 y1 y2 y3 y4 y5 y6 e0 e1 e2 e3 e4 e5 e6 z0 z1 z2 z3 z4 z5 z6 hW7 hW8 n0 n1' m2 hs'
          have hsd : sideF T DS (k2 + 1) = x := by
            have h0 : sideF T DS k2 = none := HA2.out
            show orF (sideF T DS k2) (T (DS.getD k2 (⟨#[]⟩, 0))) = x
            rw [h0, HD.out, HX.out]
            rfl
          have HSD : Hid _ := hsd
          clear hsd
          have F0X : ∀ WX, Frame [t] W10 WX → Frame [] W8 WX := fun WX hX => ((F9.mono (by simp)).trans ((F10.mono (by simp)).trans hX)).drop (fun k hk => by
            simp at hk
            have := F9.size
            omega)
          have HF0 : Hid _ := F0X
          clear F0X
          cases x with
          | none =>
            have hdo : dotOf none = .agg #[.string ⟨#[]⟩, .int .u64 0] := rfl
            rw [hdo]
            go_wp2
            go_roundw
            case rel =>
              exact ⟨k2 + 1, by omega, by go_num, HSD, HFr.out.trans (HF0.out _ (((Frame.refl _ _).setCell (by simp) _).setCell (by simp) _))⟩
            case measure => simp [intOf]; omega
          | some m =>
            have hdo : dotOf (some m) = .agg #[.string m, .int .u64 1] := rfl
            rw [hdo]
            obtain ⟨W11, hW11⟩ : ∃ W, (W10.setCell ⟨t, 0, none⟩ (.string m)).setCell ⟨t, 1, none⟩ (.int .u64 1) = W := ⟨_, rfl⟩
            have r11 : W11.heap[t]? = some (.cells #[.string m, .int .u64 1] 34 (0, 0)) := by
              rw [← hW11]
              have t0 := heap_setCell_same W10 t 0 _ 34 (.string m) r10
              exact heap_setCell_same _ t 1 _ 34 (.int .u64 1) t0
            have F11 : Frame [] W8 W11 := by
              rw [← hW11]
              exact HF0.out _ (((Frame.refl _ _).setCell (by simp) _).setCell (by simp) _)
            have F411 : Frame [] W4 W11 := HF8.out.trans F11
            have hr := F411.obj r34 (by simp)
            have q0 : W11.cell? ⟨p8, 0, none⟩ = some (.string ⟨#[]⟩) := cell_of_row _ _ 0 _ 34 (0, 0) hr
            have q1 : W11.cell? ⟨p8, 1, none⟩ = some (.int .u64 0) := cell_of_row _ _ 1 _ 34 (0, 0) hr
            have z0 : W11.frozen? ⟨p8, 0, none⟩ = false := frozen_of_row _ _ 0 _ 34 hr
            have z1 : W11.frozen? ⟨p8, 1, none⟩ = false := frozen_of_row _ _ 1 _ 34 hr
            have j0 : W11.cell? ⟨t, 0, none⟩ = some (.string m) := cell_of_row _ _ 0 _ 34 (0, 0) r11
            have j1 : W11.cell? ⟨t, 1, none⟩ = some (.int .u64 1) := cell_of_row _ _ 1 _ 34 (0, 0) r11
            have HRR : Hid (R = some m) := HRM.out m (firstF_stays HSD.out N (by omega))
            clear r11 r10
            go_wp2
            have g1 := heap_setCell_same W11 p8 0 _ 34 (.string m) hr
            have g2 := heap_setCell_same _ p8 1 _ 34 (.int .u64 1) g1
            refine bodyPost_ret (results_dot rfl _ _ p8 _ _ rfl g2) rfl ?_
            rw [HRR.out]
            exact ⟨rfl, (((F04.trans F411).below (Nat.le_refl _) (by simp)).setCell hwp _).setCell hwp _⟩
        · obtain rfl : k2 = N := by omega
          go_wp2
          go_roundw
          case rel => exact ⟨k + 1, by omega, by go_num, HNX.out HA2.out, HF4.out.trans HF2.out⟩
          case measure => simp [intOf]; omega
    · obtain rfl : k = 2 := by omega
      have hr := HF.out.obj r34 (by simp)
      have q0 : wr.cell? ⟨p8, 0, none⟩ = some (.string ⟨#[]⟩) := cell_of_row _ _ 0 _ 34 (0, 0) hr
      have q1 : wr.cell? ⟨p8, 1, none⟩ = some (.int .u64 0) := cell_of_row _ _ 1 _ 34 (0, 0) hr
      have z0 : wr.frozen? ⟨p8, 0, none⟩ = false := frozen_of_row _ _ 0 _ 34 hr
      have z1 : wr.frozen? ⟨p8, 1, none⟩ = false := frozen_of_row _ _ 1 _ 34 hr
      go_wp2
      have g1 := heap_setCell_same wr p8 0 _ 34 (.string ⟨#[]⟩) hr
      have g2 := heap_setCell_same _ p8 1 _ 34 (.int .u64 0) g1
      refine bodyPost_ret (results_dot rfl _ _ p8 _ _ rfl g2) rfl ?_
      have hRn : R = none := by rw [HR.out]; exact HA.out
      have F0r := F04.trans HF.out
      rw [hRn]
      exact ⟨rfl, ((F0r.below (Nat.le_refl _) (by simp)).setCell hwp _).setCell hwp _⟩

end Go.Proofs.Qxb6614579a

import Derived.Test.Qxb6614579aRu
namespace Go.Proofs.Qxb6614579a
open Go.RowKit
set_option linter.unusedVariables false

set_option maxHeartbeats 1000000 in
set_option maxRecDepth 100000 in
/-- ZZUntold. -/
theorem zzUntold_any (lb vb1 vb2 sb : Nat) (G : ByteArray → Option Nat) (E : ByteArray → ByteArray → Option Int) (V1 V2 : ByteArray → Option Int) (U : List ByteArray) (kn : ByteArray → Bool) (T1 T2 : ByteArray × Int → Option ByteArray) (a1 a2 : Option Addr) (n1 n2 c1 c2 : Nat) (ds1 ds2 : List (ByteArray × Int)) (w : World)
    (S1 : Side w lb vb2 G E V2 U kn T2 a1 n1 ds1) (S2 : Side w lb vb1 G E V1 U kn T1 a2 n2 ds2) (h1 : n1 ≤ 1048576) (h2 : n2 ≤ 1048576)
    (hs : MapOf w sb (setF kn)) (R : Option ByteArray) (hR : R = orF (sideF T2 ds1 n1) (sideF T1 ds2 n2)) :
    Calls Try.prog 30 #[.agg #[.map (some vb1), .slice a1 n1 c1], .agg #[.map (some vb2), .slice a2 n2 c2], .map (some lb), .map (some sb)] w fun e w' => e = .returned (.tuple #[dotOf R, .bool R.isSome]) ∧ Below w.heap.size w w' := by
  obtain ⟨W4, hW4⟩ : ∃ W, (((w.alloc (.cells #[.map (some vb1), .slice a1 n1 c1] 55)).alloc (.cells #[.map (some vb2), .slice a2 n2 c2] 55)).alloc (.cells #[.map (some sb)] 40)).alloc (.cells #[.string ⟨#[]⟩, .int .u64 0] 34) = W := ⟨_, rfl⟩
  obtain ⟨r0, r1, r2, r3⟩ := four w _ _ _ _ W4 hW4
  have F4 : Frame [] w W4 := by rw [← hW4]; exact ((((Frame.refl _ _).alloc _).alloc _).alloc _).alloc _
  have k0 : W4.cell? ⟨w.heap.size, 0, none⟩ = some (.map (some vb1)) := cell_of_row _ _ 0 _ 55 (0, 0) r0
  have k1 : W4.cell? ⟨w.heap.size, 1, none⟩ = some (.slice a1 n1 c1) := cell_of_row _ _ 1 _ 55 (0, 0) r0
  have k2 : W4.cell? ⟨w.heap.size + 1, 0, none⟩ = some (.map (some vb2)) := cell_of_row _ _ 0 _ 55 (0, 0) r1
  have k3 : W4.cell? ⟨w.heap.size + 1, 1, none⟩ = some (.slice a2 n2 c2) := cell_of_row _ _ 1 _ 55 (0, 0) r1
  have k4 : W4.cell? ⟨w.heap.size + 1 + 1, 0, none⟩ = some (.map (some sb)) := cell_of_row _ _ 0 _ 40 (0, 0) r2
  have hmf : ∀ (fn : Fn) (first cap : Array Value) (w : World), (Instr.makeFunc fn first cap).run Try.prog w = .ok (.func fn first cap) w := fun _ _ _ _ => rfl
  have HU : Hid _ := recUntold_any lb vb1 vb2 (w.heap.size + 1 + 1) sb G E V1 V2 U kn T1 T2 a1 a2 n1 n2 c1 c2 ds1 ds2 W4 (S1.below F4) (S2.below F4) h1 h2 k4 (hs.frame F4 (by simp)) R hR
  clear hR
  go_enter Try.func30, Try.ntmps30
  go_wp2_with fail
  refine Calls.mono HU.out ?_
  clear HU
  rintro e W5 ⟨rfl, b5⟩
  have F5 : Frame [] W4 W5 := Frame.of_below b5
  have s3 := F5.obj r3 (by simp)
  have y0 : W5.cell? ⟨w.heap.size + 1 + 1 + 1, 0, none⟩ = some (.string ⟨#[]⟩) := cell_of_row _ _ 0 _ 34 (0, 0) s3
  have y1 : W5.cell? ⟨w.heap.size + 1 + 1 + 1, 1, none⟩ = some (.int .u64 0) := cell_of_row _ _ 1 _ 34 (0, 0) s3
  have z0 : W5.frozen? ⟨w.heap.size + 1 + 1 + 1, 0, none⟩ = false := frozen_of_row _ _ 0 _ 34 s3
  have z1 : W5.frozen? ⟨w.heap.size + 1 + 1 + 1, 1, none⟩ = false := frozen_of_row _ _ 1 _ 34 s3
  obtain ⟨m, x, hd⟩ : ∃ m x, dotOf R = .agg #[.string m, .int .u64 x] := by cases R <;> exact ⟨_, _, rfl⟩
  rw [hd]
  have HD : Hid _ := hd
  clear hd
  have hB : Below w.heap.size w W5 := (F4.trans F5).below (Nat.le_refl _) (by simp)
  go_wp2
  have g0 := heap_setCell_same W5 (w.heap.size + 1 + 1 + 1) 0 _ 34 (.string m) s3
  have g1 := heap_setCell_same _ (w.heap.size + 1 + 1 + 1) 1 _ 34 (.int .u64 x) g0
  refine bodyPost_ret (results_dot rfl _ _ (w.heap.size + 1 + 1 + 1) _ _ rfl g1) rfl ?_
  rw [HD.out]
  exact ⟨rfl, (hB.setCell (by simp; omega) _).setCell (by simp; omega) _⟩

end Go.Proofs.Qxb6614579a

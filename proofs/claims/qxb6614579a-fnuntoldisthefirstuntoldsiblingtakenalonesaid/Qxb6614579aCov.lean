import Derived.Test.Qxb6614579aImp2
namespace Go.Proofs.Qxb6614579a
open Go.RowKit
set_option linter.unusedVariables false

theorem implies_any (lb vb : Nat) (G : ByteArray → Option Nat) (E : ByteArray → ByteArray → Option Int) (V : ByteArray → Option Int) (U : List ByteArray) (n : ByteArray) (q : Int) (w : World) (H : LV w lb vb G E V U) (hq : 0 ≤ q) :
    Calls Try.prog 36 #[.map (some lb), .map (some vb), .agg #[.string n, .int .u64 q], .nilFunc] w fun e w' => ∃ b : Bool, e = .returned (.bool b) ∧ (b = true ↔ Reach E (Ends V) (n, q)) ∧ Below w.heap.size w w' := by
  cases hG : G n with
  | none =>
    refine Calls.mono (implies_none lb vb G E V U n q w H hG) ?_
    rintro e w' ⟨rfl, hb⟩
    exact ⟨false, rfl, ⟨(fun h => by cases h), fun h => absurd h (not_reach_none (H.lin.2.2 n hG))⟩, hb⟩
  | some ib => exact implies_some lb vb G E V U n q w H ib hG hq

set_option maxHeartbeats 1000000 in
/-- Version.Covers. -/
theorem vcovers_any (vb : Nat) (V : ByteArray → Option Int) (n : ByteArray) (q : Int) (w : World) (hv : MapOf w vb (fun x => (V x).map (Value.int .u64))) :
    Calls Try.prog 24 #[.map (some vb), .agg #[.string n, .int .u64 q]] w fun e w' => e = .returned (.bool (decide (q ≤ (V n).getD 0))) ∧ Below w.heap.size w w' := by
  have hF : Frame [] w (w.alloc (.cells #[.string n, .int .u64 q] 34)) := (Frame.refl _ _).alloc _
  have hlk := (hv.frame hF (by simp)).lookup (P := Try.prog) (t := 31) Try.underlying31 Try.underlying9 (zero24 _) n
  have hx : ((V n).map (Value.int .u64)).getD (.int .u64 0) = .int .u64 ((V n).getD 0) := by cases V n <;> rfl
  rw [hx] at hlk
  generalize (V n).getD 0 = x at hlk ⊢
  clear hx hv hF
  go_enter Try.func24, Try.ntmps24
  go_wp2
  go_ret
  exact ⟨rfl, (Below.refl _ _).alloc (Nat.le_refl _) _⟩

/-- The write is covered. -/
def Covered (E : ByteArray → ByteArray → Option Int) (V : ByteArray → Option Int) (d : ByteArray × Int) : Prop := d.2 ≤ (V d.1).getD 0 ∨ Reach E (Ends V) d

set_option maxHeartbeats 1000000 in
theorem covers_any (lb vb : Nat) (G : ByteArray → Option Nat) (E : ByteArray → ByteArray → Option Int) (V : ByteArray → Option Int) (U : List ByteArray) (n : ByteArray) (q : Int) (w : World) (H : LV w lb vb G E V U) (hq : 0 ≤ q) :
    Calls Try.prog 43 #[.map (some lb), .map (some vb), .agg #[.string n, .int .u64 q]] w fun e w' => ∃ b : Bool, e = .returned (.bool b) ∧ (b = true ↔ Covered E V (n, q)) ∧ Below w.heap.size w w' := by
  obtain ⟨W1, hW1⟩ : ∃ W, w.alloc (.cells #[.string n, .int .u64 q] 34) = W := ⟨_, rfl⟩
  have b1 : Below w.heap.size w W1 := by rw [← hW1]; exact (Below.refl _ _).alloc (Nat.le_refl _) _
  have r1 : W1.heap[w.heap.size]? = some (.cells #[.string n, .int .u64 q] 34 (0, 0)) := by rw [← hW1]; exact heap_alloc_new w _
  have d0 : W1.cell? ⟨w.heap.size, 0, none⟩ = some (.string n) := cell_of_row _ _ 0 _ 34 (0, 0) r1
  have d1 : W1.cell? ⟨w.heap.size, 1, none⟩ = some (.int .u64 q) := cell_of_row _ _ 1 _ 34 (0, 0) r1
  have H1 := H.below (Frame.of_below b1)
  go_enter Try.func43, Try.ntmps43
  go_wp2_with fail
  refine (vcovers_any vb V n q _ H1.ver).mono ?_
  rintro e W2 ⟨rfl, b12⟩
  have F12 : Frame [] W1 W2 := Frame.of_below b12
  have H2 := H1.below F12
  have f0 := F12.cell d0 (by simp)
  have f1 := F12.cell d1 (by simp)
  by_cases hc : q ≤ (V n).getD 0
  · rw [decide_eq_true hc]
    have HC : Hid _ := hc
    clear hc
    go_wp2
    go_ret
    exact ⟨true, rfl, ⟨fun _ => .inl HC.out, fun _ => rfl⟩, Below.step b1 b12⟩
  · rw [decide_eq_false hc]
    have HC : Hid _ := hc
    clear hc
    go_wp2_with fail
    refine (implies_any lb vb G E V U n q _ H2 hq).mono ?_
    rintro e W3 ⟨b, rfl, hb, b23⟩
    have HB : Hid _ := hb
    clear hb
    cases b with
    | true =>
      go_wp2
      go_ret
      exact ⟨true, rfl, ⟨fun _ => .inr (HB.out.1 (by first | rfl | trivial)), fun _ => rfl⟩, Below.step (Below.step b1 b12) b23⟩
    | false =>
      go_wp2
      go_ret
      refine ⟨false, rfl, ⟨fun h => (by cases h), fun h => ?_⟩, Below.step (Below.step b1 b12) b23⟩
      rcases h with h | h
      · exact absurd h HC.out
      · exact absurd (HB.out.2 h) (by simp)

end Go.Proofs.Qxb6614579a

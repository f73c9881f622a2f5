import Derived.Test.Qxb6608861aClone
namespace Go.Proofs.Qxb6608861a
open Go.RowKit
set_option linter.unusedVariables false

set_option maxHeartbeats 400000 in
theorem bytes11_any (a b c : Option Addr) (m ca n cb l cl : Nat) (i : Int) (w : World) (h : m + n + l ≤ 1048576) :
    Calls Try.prog 11 #[.slice a m ca, .slice b n cb, .slice c l cl, .int .i64 i] w fun e w' => e = .returned (.bool true) ∧ w' = w := by
  go_enter Try.func11, Try.ntmps11
  go_wp2
  go_ret
  exact ⟨rfl, rfl⟩

set_option maxHeartbeats 400000 in
theorem bytes11_not (a b c : Option Addr) (m ca n cb l cl : Nat) (i : Int) (w : World) (hm : m ≤ 9223372036854775807) (hn : n ≤ 9223372036854775807) (hl : l ≤ 9223372036854775807) (h : ¬ m + n + l ≤ 1048576) :
    Calls Try.prog 11 #[.slice a m ca, .slice b n cb, .slice c l cl, .int .i64 i] w fun e w' => e = .returned (.bool false) ∧ w' = w := by
  go_enter Try.func11, Try.ntmps11
  go_wp2
  all_goals go_ret
  all_goals exact ⟨rfl, rfl⟩

set_option maxHeartbeats 400000 in
theorem at_any (b : Option Addr) (n cb i v : Nat) (es : List Int) (w : World) (hl : es.length = n) (hn : n ≤ 1048576) (hi : i < n) (hy : View .u32 w b es) (hv : es.getD i 0 = v) (hv2 : v ≤ 1048576) :
    Calls Try.prog 33 #[.agg #[.slice b n cb, .bool false], .int .i64 i] w fun e w' => e = .returned (.int .i64 v) ∧ Below w.heap.size w w' := by
  subst hl
  obtain ⟨b1, off1, rfl, hc⟩ := hy i hi
  rw [hv] at hc
  have hbl := block_lt_of_cell hc
  clear hv
  go_enter Try.func33, Try.ntmps33
  go_wp2
  go_ret
  exact ⟨rfl, (Below.refl _ _).alloc (Nat.le_refl _) _⟩

theorem at_is (b : Option Addr) (n cb i v : Nat) (es : List Int) (iv : Int) (w : World) (hiv : iv = i) (hl : es.length = n) (hn : n ≤ 1048576) (hi : i < n) (hy : View .u32 w b es) (hv : es.getD i 0 = v) (hv2 : v ≤ 1048576) :
    Calls Try.prog 33 #[.agg #[.slice b n cb, .bool false], .int .i64 iv] w fun e w' => e = .returned (.int .i64 v) ∧ Below w.heap.size w w' := hiv ▸ at_any b n cb i v es w hl hn hi hy hv hv2

set_option maxHeartbeats 400000 in
theorem newHeader_any (a b : Option Addr) (m ca n cb : Nat) (w : World) :
    Calls Try.prog 27 #[.slice a m ca, .slice b n cb] w fun e w' => e = .returned (.agg #[.slice a m ca, .slice b n cb, .bool false, .bool false]) ∧ Below w.heap.size w w' := by
  go_enter Try.func27, Try.ntmps27
  go_wp2
  exact bodyPost_ret (v := .agg #[.slice a m ca, .slice b n cb, .bool false, .bool false]) (by simp [results, Try.results27, go_sem]) rfl ⟨rfl, (Below.refl _ _).alloc (Nat.le_refl _) _⟩

/-- The parts of a fieldIndex that its method 'field' reads. -/
def IsIndex (w : World) (g : Nat) (tv ev pv : Value) : Prop :=
  w.cell? ⟨g, 0, none⟩ = some tv ∧ w.cell? ⟨g, 1, none⟩ = some ev ∧ w.cell? ⟨g, 2, none⟩ = some (.bool false) ∧ w.cell? ⟨g, 3, none⟩ = some (.bool false) ∧ w.cell? ⟨g, 21, none⟩ = some pv

theorem IsIndex.below {w w' : World} {g : Nat} {tv ev pv : Value} (h : IsIndex w g tv ev pv) (hb : Below w.heap.size w w') : IsIndex w' g tv ev pv := by
  obtain ⟨h0, h1, h2, h3, h4⟩ := h
  have hg : g < w.heap.size := block_lt_of_cell h0
  exact ⟨(hb.cell (p := ⟨g, 0, none⟩) hg).trans h0, (hb.cell (p := ⟨g, 1, none⟩) hg).trans h1, (hb.cell (p := ⟨g, 2, none⟩) hg).trans h2, (hb.cell (p := ⟨g, 3, none⟩) hg).trans h3, (hb.cell (p := ⟨g, 21, none⟩) hg).trans h4⟩

set_option maxHeartbeats 400000 in
theorem newIndex_any (a b c : Option Addr) (m ca n cb l cl : Nat) (w : World) :
    Calls Try.prog 19 #[.slice a m ca, .slice b n cb, .slice c l cl] w fun e w' => ∃ g, e = .returned (.pointer (some ⟨g, 0, none⟩)) ∧ IsIndex w' g (.slice a m ca) (.slice b n cb) (.slice c l cl) ∧ Below w.heap.size w w' := by
  go_enter Try.func19, Try.ntmps19
  go_wp2_with (go_at_call 27; refine (newHeader_any _ _ _ _ _ _ _).mono ?_; rintro e w' ⟨rfl, hb⟩)
  go_ret
  refine ⟨_, rfl, ?_, hb.alloc hb.size _⟩
  refine ⟨?_, ?_, ?_, ?_, ?_⟩ <;> simp

set_option maxHeartbeats 400000 in
theorem field30_any (a b : Option Addr) (m ca n cb i lo hi : Nat) (xs es : List Int) (w : World) (hxl : xs.length = m) (hl : es.length = n) (hm : m ≤ 1048576) (hn : n ≤ 1048576) (hca : m ≤ ca) (hin : i < n)
    (hx : View .u8 w a xs) (hy : View .u32 w b es) (hlo : lastOr 0 es i = lo) (hhi : es.getD i 0 = hi) (h1 : lo ≤ hi) (h2 : hi ≤ m) :
    Calls Try.prog 30 #[.agg #[.slice a m ca, .slice b n cb, .bool false, .bool false], .int .i64 i] w fun e w' => ∃ a', e = .returned (.slice a' (hi - lo) (hi - lo)) ∧ View .u8 w' a' ((xs.take hi).drop lo) ∧ Below w.heap.size w w' := by
  have Hlo : Hid (lastOr 0 es i = lo) := hlo
  have Hhi : Hid (es.getD i 0 = hi) := hhi
  have hb0 : Below w.heap.size w (w.alloc (.cells #[.slice a m ca, .slice b n cb, .bool false, .bool false] 51)) := (Below.refl _ _).alloc (Nat.le_refl _) _
  by_cases hi0 : i = 0
  · subst hi0
    have : lo = 0 := by simp [lastOr] at hlo; omega
    subst this
    clear hlo hhi
    go_enter Try.func30, Try.ntmps30
    go_wp2_with (go_at_call 33; refine (at_any _ _ _ 0 hi es _ hl hn hin (hy.below hb0) Hhi.out (by omega)).mono ?_; rintro e w' ⟨rfl, hb⟩; (have hc0 : w'.cell? ⟨w.heap.size, 0, none⟩ = some (.slice a m ca) := by rw [hb.cell (by simp)]; simp))
    go_ret
    have hbb := Below.step hb0 hb
    refine ⟨_, rfl, ?_, hbb⟩
    rw [List.drop_zero]
    exact (hx.below hbb).take
  · simp only [lastOr, hi0, if_false] at hlo
    have Hlo2 : Hid (es.getD (i - 1) 0 = lo) := hlo
    clear hlo hhi
    go_enter Try.func30, Try.ntmps30
    go_wp2_with fail
    refine (at_is _ _ _ (i - 1) lo es _ _ (by omega) hl hn (by omega) (hy.below hb0) Hlo2.out (by omega)).mono ?_
    rintro e w1 ⟨rfl, hb1⟩
    have hc0 : w1.cell? ⟨w.heap.size, 0, none⟩ = some (.slice a m ca) := by rw [hb1.cell (by simp)]; simp
    have hc1 : w1.cell? ⟨w.heap.size, 1, none⟩ = some (.slice b n cb) := by rw [hb1.cell (by simp)]; simp
    have hc2 : w1.cell? ⟨w.heap.size, 2, none⟩ = some (.bool false) := by rw [hb1.cell (by simp)]; simp
    have hbb := Below.step hb0 hb1
    clear hb0 hb1
    go_wp2_with fail
    refine (at_any _ _ _ i hi es _ hl hn hin (hy.below hbb) Hhi.out (by omega)).mono ?_
    rintro e w2 ⟨rfl, hb2⟩
    have hd0 : w2.cell? ⟨w.heap.size, 0, none⟩ = some (.slice a m ca) := by rw [hb2.cell (p := ⟨w.heap.size, 0, none⟩) (block_lt_of_cell hc0)]; exact hc0
    have hbb2 := Below.step hbb hb2
    clear hbb hb2 hc0 hc1 hc2
    go_wp2
    · go_ret
      exact ⟨_, rfl, View.nil _ _ _, hbb2⟩
    · go_ret
      exact ⟨_, rfl, View.cutn (hx.below hbb2), hbb2⟩
end Go.Proofs.Qxb6608861a

import Derived.Test.Qxb6608861aRead3
namespace Go.Proofs.Qxb6608861a
open Go.RowKit
set_option linter.unusedVariables false

theorem Try.info5 : (Try.prog.info? 5).map (fun i => (i.zero, i.size, i.bytes)) = some (some (.int .u8 0), 1, 1) := by kernel_rfl

set_option maxHeartbeats 400000 in
theorem clone13_any (a : Option Addr) (n ca : Nat) (xs : List Int) (w : World) (hn : xs.length = n) (hm : n ≤ 1048576) (hz : a = none → n = 0) (hx : View .u8 w a xs) :
    Calls Try.prog 13 #[.slice a n ca] w fun e w' => ∃ a', e = .returned (.slice a' n n) ∧ View .u8 w' a' xs ∧ Below w.heap.size w w' := by
  subst hn
  obtain ⟨i0, hi, hz0, hz1, hz2⟩ := info_parts Try.info5
  cases a with
  | none =>
    have h0 := hz rfl
    have : xs = [] := List.eq_nil_of_length_eq_zero h0
    subst this
    have hnil : ∀ wx, (binOp .eql 29 (.slice none 0 ca) (.slice none 0 0)).run Try.prog wx = .ok (.bool true) wx := fun wx => Lib.run_eql_slice_nil wx 29 5 none 0 ca 0 0 Try.underlying29
    simp only [List.length_nil]
    go_enter Try.func13, Try.ntmps13
    go_wp2
    go_ret
    exact ⟨none, rfl, View.nil _ _ _, Below.refl _ _⟩
  | some ad =>
    have hb2 : i0.bytes * xs.length ≤ 281474976710656 := by rw [hz2]; omega
    have hb3 : xs.length ≤ maxLen := by unfold maxLen; omega
    clear hz
    have hnil : ∀ wx, (binOp .eql 29 (.slice (some ad) xs.length ca) (.slice none 0 0)).run Try.prog wx = .ok (.bool false) wx := fun wx => Lib.run_eql_slice_nil wx 29 5 (some ad) xs.length ca 0 0 Try.underlying29
    go_enter Try.func13, Try.ntmps13
    go_wp2_with (at_make; refine wpList_make_full _ rfl _ _ 29 rfl w.heap.size 5 i0 (.int .u8 0) 1 Try.underlying29 hi hz0 hz1 _ _ _ _ xs.length rfl rfl rfl rfl hb2 hb3 (Nat.le_refl _) ?_)
    intro w1 hown hgrow
    have hbel : Below w.heap.size w w1 := (Below.refl _ _).grown hgrow (Nat.le_refl _) (fun k h => by simp at h)
    have hown' : w1.ownsRow w.heap.size 5 1 (.slice (some ⟨w.heap.size, 0, none⟩) xs.length xs.length) xs.length (List.replicate xs.length (.int .u8 0)) := by
      have := hown
      rw [toList_madeCells_one] at this
      exact this
    clear hown hgrow
    go_wp2
    go_loopw [4] (fun i wr => ∃ k : Nat, k ≤ xs.length ∧ i = .int .i64 k ∧ Below w.heap.size w wr ∧ ∃ cur : List Value, wr.ownsRow w.heap.size 5 1 (.slice (some ⟨w.heap.size, 0, none⟩) xs.length xs.length) xs.length cur ∧ Hid (∀ j, j < k → cur[j]? = some (.int .u8 (xs.getD j 0)))) (fun i _ => xs.length - (intOf i).toNat)
    case atStart => exact ⟨0, Nat.zero_le _, rfl, hbel, _, hown', fun j hj => by omega⟩
    case round =>
      obtain ⟨k, hk, rfl, hb, cur, ho, hcur⟩ := hrel
      by_cases hlt : k < xs.length
      · obtain ⟨b1, off1, e1, hc⟩ := hx.below hb k hlt
        simp at e1
        subst e1
        have hlen : cur.length = xs.length := by have := ho.1; omega
        have hcc : wr.cell? ⟨w.heap.size, k, none⟩ = some cur[k] := by rw [ho.cellAt k (by omega)]; simp [hlen, hlt]
        have hff : wr.frozen? ⟨w.heap.size, k, none⟩ = false := ho.frozenAt k
        have hst := (ho.stored k (.int .u8 xs[k])).1
        have hbs : Below w.heap.size w (wr.setCell ⟨w.heap.size, k, none⟩ (.int .u8 xs[k])) := hb.setCell (by exact Nat.le_refl _) _
        clear ho hown' hbel
        go_wp2
        go_roundw
        case rel =>
          refine ⟨k + 1, by omega, by go_num, hbs, _, hst, fun j hj => ?_⟩
          by_cases e : j = k
          · subst e; rw [List.getElem?_set_self (by omega)]; simp [List.getD, hlt]
          · rw [List.getElem?_set_ne (by omega)]; exact hcur.out j (by omega)
        case measure => simp [intOf]; omega
      · go_wp2
        go_ret
        refine ⟨_, rfl, ?_, hb⟩
        intro j hj
        refine ⟨w.heap.size, 0, rfl, ?_⟩
        rw [Nat.zero_add, ho.cellAt j (by omega)]
        exact hcur.out j (by omega)

theorem Try.info47 : (Try.prog.info? 47).map (fun i => (i.zero, i.size, i.bytes)) = some (some (.int .u32 0), 1, 4) := by kernel_rfl

set_option maxHeartbeats 400000 in
theorem clone14_any (a : Option Addr) (n ca : Nat) (xs : List Int) (w : World) (hn : xs.length = n) (hm : n ≤ 1048576) (hz : a = none → n = 0) (hx : View .u32 w a xs) :
    Calls Try.prog 14 #[.slice a n ca] w fun e w' => ∃ a', e = .returned (.slice a' n n) ∧ View .u32 w' a' xs ∧ Below w.heap.size w w' := by
  subst hn
  obtain ⟨i0, hi, hz0, hz1, hz2⟩ := info_parts Try.info47
  cases a with
  | none =>
    have h0 := hz rfl
    have : xs = [] := List.eq_nil_of_length_eq_zero h0
    subst this
    have hnil : ∀ wx, (binOp .eql 30 (.slice none 0 ca) (.slice none 0 0)).run Try.prog wx = .ok (.bool true) wx := fun wx => Lib.run_eql_slice_nil wx 30 47 none 0 ca 0 0 Try.underlying30
    simp only [List.length_nil]
    go_enter Try.func14, Try.ntmps14
    go_wp2
    go_ret
    exact ⟨none, rfl, View.nil _ _ _, Below.refl _ _⟩
  | some ad =>
    have hb2 : i0.bytes * xs.length ≤ 281474976710656 := by rw [hz2]; omega
    have hb3 : xs.length ≤ maxLen := by unfold maxLen; omega
    clear hz
    have hnil : ∀ wx, (binOp .eql 30 (.slice (some ad) xs.length ca) (.slice none 0 0)).run Try.prog wx = .ok (.bool false) wx := fun wx => Lib.run_eql_slice_nil wx 30 47 (some ad) xs.length ca 0 0 Try.underlying30
    go_enter Try.func14, Try.ntmps14
    go_wp2_with (at_make; refine wpList_make_full _ rfl _ _ 30 rfl w.heap.size 47 i0 (.int .u32 0) 1 Try.underlying30 hi hz0 hz1 _ _ _ _ xs.length rfl rfl rfl rfl hb2 hb3 (Nat.le_refl _) ?_)
    intro w1 hown hgrow
    have hbel : Below w.heap.size w w1 := (Below.refl _ _).grown hgrow (Nat.le_refl _) (fun k h => by simp at h)
    have hown' : w1.ownsRow w.heap.size 47 1 (.slice (some ⟨w.heap.size, 0, none⟩) xs.length xs.length) xs.length (List.replicate xs.length (.int .u32 0)) := by
      have := hown
      rw [toList_madeCells_one] at this
      exact this
    clear hown hgrow
    go_wp2
    go_loopw [4] (fun i wr => ∃ k : Nat, k ≤ xs.length ∧ i = .int .i64 k ∧ Below w.heap.size w wr ∧ ∃ cur : List Value, wr.ownsRow w.heap.size 47 1 (.slice (some ⟨w.heap.size, 0, none⟩) xs.length xs.length) xs.length cur ∧ Hid (∀ j, j < k → cur[j]? = some (.int .u32 (xs.getD j 0)))) (fun i _ => xs.length - (intOf i).toNat)
    case atStart => exact ⟨0, Nat.zero_le _, rfl, hbel, _, hown', fun j hj => by omega⟩
    case round =>
      obtain ⟨k, hk, rfl, hb, cur, ho, hcur⟩ := hrel
      by_cases hlt : k < xs.length
      · obtain ⟨b1, off1, e1, hc⟩ := hx.below hb k hlt
        simp at e1
        subst e1
        have hlen : cur.length = xs.length := by have := ho.1; omega
        have hcc : wr.cell? ⟨w.heap.size, k, none⟩ = some cur[k] := by rw [ho.cellAt k (by omega)]; simp [hlen, hlt]
        have hff : wr.frozen? ⟨w.heap.size, k, none⟩ = false := ho.frozenAt k
        have hst := (ho.stored k (.int .u32 xs[k])).1
        have hbs : Below w.heap.size w (wr.setCell ⟨w.heap.size, k, none⟩ (.int .u32 xs[k])) := hb.setCell (by exact Nat.le_refl _) _
        clear ho hown' hbel
        go_wp2
        go_roundw
        case rel =>
          refine ⟨k + 1, by omega, by go_num, hbs, _, hst, fun j hj => ?_⟩
          by_cases e : j = k
          · subst e; rw [List.getElem?_set_self (by omega)]; simp [List.getD, hlt]
          · rw [List.getElem?_set_ne (by omega)]; exact hcur.out j (by omega)
        case measure => simp [intOf]; omega
      · go_wp2
        go_ret
        refine ⟨_, rfl, ?_, hb⟩
        intro j hj
        refine ⟨w.heap.size, 0, rfl, ?_⟩
        rw [Nat.zero_add, ho.cellAt j (by omega)]
        exact hcur.out j (by omega)

theorem Try.info27 : (Try.prog.info? 27).map (fun i => (i.zero, i.size, i.bytes)) = some (some (.int .u64 0), 1, 8) := by kernel_rfl

set_option maxHeartbeats 400000 in
theorem clone15_any (a : Option Addr) (n ca : Nat) (xs : List Int) (w : World) (hn : xs.length = n) (hm : n ≤ 1048576) (hz : a = none → n = 0) (hx : View .u64 w a xs) :
    Calls Try.prog 15 #[.slice a n ca] w fun e w' => ∃ a', e = .returned (.slice a' n n) ∧ View .u64 w' a' xs ∧ Below w.heap.size w w' := by
  subst hn
  obtain ⟨i0, hi, hz0, hz1, hz2⟩ := info_parts Try.info27
  cases a with
  | none =>
    have h0 := hz rfl
    have : xs = [] := List.eq_nil_of_length_eq_zero h0
    subst this
    have hnil : ∀ wx, (binOp .eql 22 (.slice none 0 ca) (.slice none 0 0)).run Try.prog wx = .ok (.bool true) wx := fun wx => Lib.run_eql_slice_nil wx 22 27 none 0 ca 0 0 Try.underlying22
    simp only [List.length_nil]
    go_enter Try.func15, Try.ntmps15
    go_wp2
    go_ret
    exact ⟨none, rfl, View.nil _ _ _, Below.refl _ _⟩
  | some ad =>
    have hb2 : i0.bytes * xs.length ≤ 281474976710656 := by rw [hz2]; omega
    have hb3 : xs.length ≤ maxLen := by unfold maxLen; omega
    clear hz
    have hnil : ∀ wx, (binOp .eql 22 (.slice (some ad) xs.length ca) (.slice none 0 0)).run Try.prog wx = .ok (.bool false) wx := fun wx => Lib.run_eql_slice_nil wx 22 27 (some ad) xs.length ca 0 0 Try.underlying22
    go_enter Try.func15, Try.ntmps15
    go_wp2_with (at_make; refine wpList_make_full _ rfl _ _ 22 rfl w.heap.size 27 i0 (.int .u64 0) 1 Try.underlying22 hi hz0 hz1 _ _ _ _ xs.length rfl rfl rfl rfl hb2 hb3 (Nat.le_refl _) ?_)
    intro w1 hown hgrow
    have hbel : Below w.heap.size w w1 := (Below.refl _ _).grown hgrow (Nat.le_refl _) (fun k h => by simp at h)
    have hown' : w1.ownsRow w.heap.size 27 1 (.slice (some ⟨w.heap.size, 0, none⟩) xs.length xs.length) xs.length (List.replicate xs.length (.int .u64 0)) := by
      have := hown
      rw [toList_madeCells_one] at this
      exact this
    clear hown hgrow
    go_wp2
    go_loopw [4] (fun i wr => ∃ k : Nat, k ≤ xs.length ∧ i = .int .i64 k ∧ Below w.heap.size w wr ∧ ∃ cur : List Value, wr.ownsRow w.heap.size 27 1 (.slice (some ⟨w.heap.size, 0, none⟩) xs.length xs.length) xs.length cur ∧ Hid (∀ j, j < k → cur[j]? = some (.int .u64 (xs.getD j 0)))) (fun i _ => xs.length - (intOf i).toNat)
    case atStart => exact ⟨0, Nat.zero_le _, rfl, hbel, _, hown', fun j hj => by omega⟩
    case round =>
      obtain ⟨k, hk, rfl, hb, cur, ho, hcur⟩ := hrel
      by_cases hlt : k < xs.length
      · obtain ⟨b1, off1, e1, hc⟩ := hx.below hb k hlt
        simp at e1
        subst e1
        have hlen : cur.length = xs.length := by have := ho.1; omega
        have hcc : wr.cell? ⟨w.heap.size, k, none⟩ = some cur[k] := by rw [ho.cellAt k (by omega)]; simp [hlen, hlt]
        have hff : wr.frozen? ⟨w.heap.size, k, none⟩ = false := ho.frozenAt k
        have hst := (ho.stored k (.int .u64 xs[k])).1
        have hbs : Below w.heap.size w (wr.setCell ⟨w.heap.size, k, none⟩ (.int .u64 xs[k])) := hb.setCell (by exact Nat.le_refl _) _
        clear ho hown' hbel
        go_wp2
        go_roundw
        case rel =>
          refine ⟨k + 1, by omega, by go_num, hbs, _, hst, fun j hj => ?_⟩
          by_cases e : j = k
          · subst e; rw [List.getElem?_set_self (by omega)]; simp [List.getD, hlt]
          · rw [List.getElem?_set_ne (by omega)]; exact hcur.out j (by omega)
        case measure => simp [intOf]; omega
      · go_wp2
        go_ret
        refine ⟨_, rfl, ?_, hb⟩
        intro j hj
        refine ⟨w.heap.size, 0, rfl, ?_⟩
        rw [Nat.zero_add, ho.cellAt j (by omega)]
        exact hcur.out j (by omega)

end Go.Proofs.Qxb6608861a

import Derived.Test.Qxb6608861aView
import Derived.Test.Qxb6608861aPlain
import Derived.Deep.QuietTactic
import Derived.BigQuiet
namespace Go.Proofs.Qxb6608861a
open Go.RowKit

theorem ret_int {k : IntKind} {a b : Int} (h : a = b) : Ending.returned (.int k a) = .returned (.int k b) := by rw [h]
theorem ret_bool {a b : Bool} (h : a = b) : Ending.returned (.bool a) = .returned (.bool b) := by rw [h]

set_option maxHeartbeats 400000 in
theorem indexByte_any (a : Option Addr) (n ca : Nat) (xs : List Int) (c : Int) (w : World) (hn : xs.length = n) (hm : n ≤ 1048576) (hx : View .u8 w a xs) :
    Calls Try.prog 22 #[.slice a n ca, .int .u8 c] w fun e w' => e = .returned (.int .i64 (ixB xs c)) ∧ w' = w := by
  subst hn
  go_enter Try.func22, Try.ntmps22
  go_wp2
  go_loop [5] (fun i => ∃ k : Nat, k ≤ xs.length ∧ i = .int .i64 k ∧ Hid (∀ j, j < k → xs.getD j 0 ≠ c)) (fun i => xs.length - (intOf i).toNat)
  case atStart => exact ⟨0, Nat.zero_le _, rfl, fun j hj => by omega⟩
  case round =>
    obtain ⟨k, hk, rfl, hno⟩ := hrel
    by_cases hlt : k < xs.length
    · obtain ⟨b, off, rfl, hc⟩ := hx k hlt
      go_wp2
      · go_ret
        exact ⟨ret_int (ixB_hit xs c k hlt (by simp_all) hno.out).symm, rfl⟩
      · go_round
        case rel =>
          refine ⟨k + 1, by omega, by go_num, fun j hj => ?_⟩
          by_cases e : j = k
          · subst e; simp_all
          · exact hno.out j (by omega)
        case measure => simp [intOf]; omega
    · go_wp2
      go_ret
      exact ⟨ret_int (ixB_miss xs c (fun j hj => hno.out j (by omega))).symm, rfl⟩

set_option maxHeartbeats 400000 in
theorem countByte_any (a : Option Addr) (n ca : Nat) (xs : List Int) (c : Int) (w : World) (hn : xs.length = n) (hm : n ≤ 1048576) (hx : View .u8 w a xs) :
    Calls Try.prog 23 #[.slice a n ca, .int .u8 c] w fun e w' => e = .returned (.int .i64 (cntB xs c)) ∧ w' = w := by
  subst hn
  go_enter Try.func23, Try.ntmps23
  go_wp2
  go_loop [5, 6] (fun t i => ∃ k : Nat, k ≤ xs.length ∧ i = .int .i64 k ∧ t = .int .i64 (cntB (xs.take k) c)) (fun _ i => xs.length - (intOf i).toNat)
  case atStart => exact ⟨0, Nat.zero_le _, rfl, rfl⟩
  case round =>
    obtain ⟨k, hk, rfl, rfl⟩ := hrel
    have hr := cntB_range (xs.take k) c
    have hl : (xs.take k).length ≤ k := List.length_take_le _ _
    by_cases hlt : k < xs.length
    · obtain ⟨b, off, rfl, hc⟩ := hx k hlt
      have HS : Hid (cntB (xs.take (k + 1)) c = cntB (xs.take k) c + if xs.getD k 0 = c then 1 else 0) := cntB_step xs c k hlt
      go_wp2
      · go_round
        case rel => exact ⟨k + 1, by omega, by go_num, by rw [HS.out, if_pos (by simp_all)]⟩
        case measure => simp [intOf]; omega
      · go_round
        case rel => exact ⟨k + 1, by omega, by go_num, by rw [HS.out, if_neg (by simp_all)]; go_num⟩
        case measure => simp [intOf]; omega
    · go_wp2
      go_ret
      exact ⟨ret_int (by rw [List.take_of_length_le (by omega)]), rfl⟩

set_option maxHeartbeats 400000 in
theorem bytesEqual_q (a b : Option Addr) (m ca n cb : Nat) (xs ys : List Int) (w : World) (hxl : xs.length = m) (hyl : ys.length = n) (hm : m ≤ 1048576) (hn : n ≤ 1048576) (hx : View .u8 w a xs) (hy : View .u8 w b ys) :
    Calls Try.prog 21 #[.slice a m ca, .slice b n cb] w fun e w' => e = .returned (.bool (sameB xs ys)) ∧ ∃ q, w' = w.drewN q := by
  subst hxl hyl
  by_cases hl : xs.length = ys.length
  · have hl1 : ((xs.length : Int) != (ys.length : Int)) = false := by simp [hl]
    have HL : Hid (xs.length = ys.length) := hl
    clear hl
    go_enter Try.func21, Try.ntmps21
    go_wp2
    go_loopw [5] (fun i wr => ∃ k : Nat, k ≤ xs.length ∧ i = .int .i64 k ∧ Hid (∀ j, j < k → xs.getD j 0 = ys.getD j 0) ∧ ∃ q, wr = w.drewN q) (fun i _ => xs.length - (intOf i).toNat)
    case atStart => exact ⟨0, Nat.zero_le _, rfl, fun j hj => by omega, 0, rfl⟩
    case round =>
      obtain ⟨k, hk, rfl, hno, q, rfl⟩ := hrel
      by_cases hlt : k < xs.length
      · obtain ⟨b1, off1, rfl, hc⟩ := hx k hlt
        obtain ⟨b2, off2, rfl, hd⟩ := hy k (by rw [← HL.out]; exact hlt)
        have hlt2 : k < ys.length := by rw [← HL.out]; exact hlt
        go_wp2
        go_quiet (fail)
        go_wp2
        · go_ret
          exact ⟨ret_bool (sameB_part xs ys k (by simp_all)).symm, _, World.drewN_drewN _ _ _⟩
        · go_roundw
          case rel =>
            refine ⟨k + 1, by omega, by go_num, fun j hj => ?_, _, rfl⟩
            by_cases e : j = k
            · subst e; simp_all
            · exact hno.out j (by omega)
          case measure => simp [intOf]; omega
      · go_wp2
        go_ret
        exact ⟨ret_bool (sameB_all xs ys HL.out (fun j hj => hno.out j (by omega))).symm, _, rfl⟩
  · have hl1 : ((xs.length : Int) != (ys.length : Int)) = true := by simp; omega
    go_enter Try.func21, Try.ntmps21
    go_wp2
    go_ret
    exact ⟨ret_bool (sameB_len xs ys hl).symm, 0, rfl⟩

theorem bytesEqual_any (a b : Option Addr) (m ca n cb : Nat) (xs ys : List Int) (w : World) (hxl : xs.length = m) (hyl : ys.length = n) (hm : m ≤ 1048576) (hn : n ≤ 1048576) (hx : View .u8 w a xs) (hy : View .u8 w b ys) :
    Calls Try.prog 21 #[.slice a m ca, .slice b n cb] w fun e w' => e = .returned (.bool (sameB xs ys)) ∧ Below w.heap.size w w' :=
  (bytesEqual_q a b m ca n cb xs ys w hxl hyl hm hn hx hy).mono fun _ _ ⟨h, q, e⟩ => ⟨h, e ▸ below_drewN (Below.refl _ _) q⟩
end Go.Proofs.Qxb6608861a

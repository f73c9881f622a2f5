import Derived.Test.Qxb6608861aRead
namespace Go.Proofs.Qxb6608861a
open Go.RowKit
set_option linter.unusedVariables false

theorem u32_of_len (n : Nat) (h : n ≤ 1048576) : IntKind.u32.wrap (n : Int) = (n : Int) := by rw [IntKind.wrap_u32]; omega

set_option maxHeartbeats 400000 in
theorem endsOK_any (a b : Option Addr) (m ca n cb : Nat) (es : List Int) (w : World) (hl : es.length = n) (hm : m ≤ 1048576) (hn : n ≤ 1048576) (hy : View .u32 w b es) :
    Calls Try.prog 12 #[.slice a m ca, .slice b n cb] w fun e w' => e = .returned (.bool (endsOK m 0 es)) ∧ w' = w := by
  subst hl
  have hu := u32_of_len m hm
  go_enter Try.func12, Try.ntmps12
  go_wp2
  go_loop [5, 6] (fun p i => ∃ k : Nat, k ≤ es.length ∧ i = .int .i64 k ∧ p = .int .u32 (lastOr 0 es k) ∧ Hid (∀ j, j < k → lastOr 0 es j ≤ es.getD j 0 ∧ es.getD j 0 ≤ m)) (fun _ i => es.length - (intOf i).toNat)
  case atStart => exact ⟨0, Nat.zero_le _, rfl, rfl, fun j hj => by omega⟩
  case round =>
    obtain ⟨k, hk, rfl, rfl, hno⟩ := hrel
    by_cases hlt : k < es.length
    · obtain ⟨b1, off1, rfl, hc⟩ := hy k hlt
      have HG : Hid (es.getD k 0 = es[k]) := by show _ = _; simp [List.getD, hlt]
      have HS : Hid (lastOr 0 es (k + 1) = es[k]) := by show _ = _; simp [lastOr, List.getD, hlt]
      by_cases h1 : es[k] < lastOr 0 es k
      · go_wp2
        go_ret
        exact ⟨ret_bool (endsOK_bad m 0 es k hlt hno.out (.inl (by rw [HG.out]; exact h1))).symm, rfl⟩
      · by_cases h2 : (m : Int) < es[k]
        · go_wp2
          go_ret
          exact ⟨ret_bool (endsOK_bad m 0 es k hlt hno.out (.inr (by rw [HG.out]; exact h2))).symm, rfl⟩
        · go_wp2
          go_round
          case rel =>
            refine ⟨k + 1, by omega, by go_num, by rw [HS.out], fun j hj => ?_⟩
            by_cases e : j = k
            · subst e; rw [HG.out]; omega
            · exact hno.out j (by omega)
          case measure => simp [intOf]; omega
    · go_wp2
      go_ret
      exact ⟨ret_bool (endsOK_all m 0 es (fun j hj => hno.out j (by omega))).symm, rfl⟩

theorem View.cut0 {k : IntKind} {w : World} {a : Option Addr} {xs : List Int} {lo hi : Nat} (h : hi ≤ lo) : View k w a ((xs.take hi).drop lo) := by
  intro i hi'; simp at hi'; omega

theorem View.cutn {k : IntKind} {w : World} {a : Option Addr} {xs : List Int} {lo hi : Nat} (h : View k w a xs) : View k w (Option.map (fun x => x.add lo) a) ((xs.take hi).drop lo) := by
  intro i hi'
  simp at hi'
  obtain ⟨b, off, rfl, hc⟩ := h (lo + i) (by omega)
  refine ⟨b, off + lo, by simp [Addr.add], ?_⟩
  rw [Nat.add_assoc, hc]
  simp [List.getD, show lo + i < hi from by omega]

set_option maxHeartbeats 400000 in
theorem fieldAt_any (a b : Option Addr) (m ca n cb i lo hi : Nat) (xs es : List Int) (w : World) (hxl : xs.length = m) (hl : es.length = n) (hm : m ≤ 1048576) (hn : n ≤ 1048576) (hca : m ≤ ca) (hin : i < n)
    (hx : View .u8 w a xs) (hy : View .u32 w b es) (hlo : lastOr 0 es i = lo) (hhi : es.getD i 0 = hi) (h1 : lo ≤ hi) (h2 : hi ≤ m) :
    Calls Try.prog 16 #[.slice a m ca, .slice b n cb, .int .i64 i] w fun e w' => (∃ a', e = .returned (.slice a' (hi - lo) (ca - lo)) ∧ View .u8 w a' ((xs.take hi).drop lo)) ∧ w' = w := by
  subst hl
  obtain ⟨b1, off1, rfl, hc⟩ := hy i hin
  rw [hhi] at hc
  by_cases hi0 : i = 0
  · subst hi0
    have : lo = 0 := by simp [lastOr] at hlo; omega
    subst this
    clear hlo hhi hxl
    simp only [Nat.add_zero] at hc
    go_enter Try.func16, Try.ntmps16
    go_wp2
    go_ret
    refine ⟨⟨_, rfl, ?_⟩, rfl⟩
    intro j hj
    simp at hj
    obtain ⟨b3, off3, e3, h3⟩ := hx j (by omega)
    exact ⟨b3, off3, e3, by rw [h3]; simp [List.getD, show j < hi from by omega]⟩
  · obtain ⟨b2, off2, e2, hd⟩ := hy (i - 1) (by omega)
    simp at e2
    obtain ⟨rfl, rfl⟩ := e2
    simp only [lastOr, hi0, if_false] at hlo
    rw [hlo] at hd
    clear hlo hhi hxl
    go_enter Try.func16, Try.ntmps16
    go_wp2
    · go_ret; exact ⟨⟨_, rfl, View.cut0 (by omega)⟩, rfl⟩
    · go_ret; exact ⟨⟨_, rfl, View.cutn hx⟩, rfl⟩

theorem bits_one (x : Int) (k : Nat) (h0 : 0 ≤ x) (h1 : x ≤ 18446744073709551615) : (bits BinOp.and IntKind.u64 (x / 2 ^ k) 1 == 1) = decide (x / 2 ^ k % 2 = 1) := by
  have h2 : 0 ≤ x / 2 ^ k := Int.ediv_nonneg h0 (Int.pow_nonneg (by decide))
  have h3 : x / 2 ^ k ≤ x := Int.ediv_le_self _ h0
  rw [and_one_u64 _ h2 (by omega)]
  by_cases h : x / 2 ^ k % 2 = 1 <;> simp [h]

set_option maxHeartbeats 400000 in
theorem bit_any (b : Option Addr) (n cb i : Nat) (ws : List Int) (w : World) (hl : ws.length = n) (hn : n ≤ 1048576) (hi : i ≤ 1048576) (hr : ∀ x ∈ ws, 0 ≤ x ∧ x ≤ 18446744073709551615) (hy : View .u64 w b ws) :
    Calls Try.prog 17 #[.slice b n cb, .int .i64 i] w fun e w' => e = .returned (.bool (bitB ws i)) ∧ w' = w := by
  subst hl
  by_cases hlt : i / 64 < ws.length
  · obtain ⟨b1, off1, rfl, hc⟩ := hy _ hlt
    have hr2 := hr ws[i/64] (List.getElem_mem _)
    have hm : i % 64 < 64 := by omega
    have HB : Hid (bitB ws i = decide (ws[i/64] / 2 ^ (i % 64) % 2 = 1)) := by show _ = _; simp [bitB, List.getD, hlt]
    have HO : Hid ((bits BinOp.and IntKind.u64 (ws[i/64] / 2 ^ (i % 64)) 1 == 1) = decide (ws[i/64] / 2 ^ (i % 64) % 2 = 1)) := bits_one _ _ hr2.1 hr2.2
    go_enter Try.func17, Try.ntmps17
    go_wp2
    go_ret
    exact ⟨ret_bool (HO.out.trans HB.out.symm), rfl⟩
  · have HB : Hid (bitB ws i = false) := by show _ = _; simp [bitB, List.getD, hlt]
    go_enter Try.func17, Try.ntmps17
    go_wp2
    go_ret
    exact ⟨ret_bool HB.out.symm, rfl⟩

theorem and_pow_ne (n k : Nat) : (n &&& 2 ^ k ≠ 0) ↔ n / 2 ^ k % 2 = 1 := by
  have ht : n.testBit k = decide (n / 2 ^ k % 2 = 1) := Nat.testBit_eq_decide_div_mod_eq
  constructor
  · intro h
    by_cases hb : n.testBit k
    · rw [ht] at hb; simpa using hb
    · exfalso; apply h
      apply Nat.eq_of_testBit_eq
      intro i
      rw [Nat.testBit_and, Nat.testBit_two_pow, Nat.zero_testBit]
      by_cases e : k = i
      · subst e; simp [hb]
      · simp [e]
  · intro h e
    have h2 : (n &&& 2 ^ k).testBit k = true := by rw [Nat.testBit_and, ht, Nat.testBit_two_pow]; simp [h]
    rw [e, Nat.zero_testBit] at h2
    simp at h2

theorem bits_pow (x : Int) (k : Nat) (hk : k < 64) (h0 : 0 ≤ x) (h1 : x ≤ 18446744073709551615) : (bits BinOp.and IntKind.u64 x (IntKind.u64.wrap (2 ^ k)) != 0) = decide (x / 2 ^ k % 2 = 1) := by
  obtain ⟨n, rfl⟩ := Int.eq_ofNat_of_zero_le h0
  have hp : (2 : Nat) ^ k < 18446744073709551616 := Nat.lt_of_lt_of_le (Nat.pow_lt_pow_right (by decide) hk) (by decide)
  have e : IntKind.u64.wrap (2 ^ k : Int) = ((2 ^ k : Nat) : Int) := by
    rw [IntKind.wrap_u64, show (2 ^ k : Int) = ((2 ^ k : Nat) : Int) from by simp]
    generalize 2 ^ k = q at *
    omega
  rw [e, u64_and_nat n (2 ^ k) (by omega) hp]
  have e2 : (n : Int) / 2 ^ k % 2 = ((n / 2 ^ k % 2 : Nat) : Int) := by simp
  rw [e2, Bool.eq_iff_iff]
  have := and_pow_ne n k
  simp only [bne_iff_ne, decide_eq_true_eq]
  constructor
  · intro h; have := this.1 (by omega); omega
  · intro h; have := this.2 (by omega); omega

set_option maxHeartbeats 400000 in
theorem has_any (b : Option Addr) (n cb i : Nat) (ws : List Int) (w : World) (hl : ws.length = n) (hn : n ≤ 1048576) (hi : i ≤ 1048576) (hr : ∀ x ∈ ws, 0 ≤ x ∧ x ≤ 18446744073709551615) (hy : View .u64 w b ws) :
    Calls Try.prog 26 #[.slice b n cb, .int .i64 i] w fun e w' => e = .returned (.bool (bitB ws i)) ∧ Below w.heap.size w w' := by
  subst hl
  by_cases hlt : i / 64 < ws.length
  · obtain ⟨b1, off1, rfl, hc⟩ := hy _ hlt
    have hr2 := hr ws[i/64] (List.getElem_mem _)
    have hm : i % 64 < 64 := by omega
    have hlt' : (i : Int) / 64 < (ws.length : Int) := by omega
    have HB : Hid (bitB ws i = decide (ws[i/64] / 2 ^ (i % 64) % 2 = 1)) := by show _ = _; simp [bitB, List.getD, hlt]
    have HO : Hid ((bits BinOp.and IntKind.u64 ws[i/64] (IntKind.u64.wrap (2 ^ (i % 64))) != 0) = decide (ws[i/64] / 2 ^ (i % 64) % 2 = 1)) := bits_pow _ _ hm hr2.1 hr2.2
    go_enter Try.func26, Try.ntmps26
    go_wp2
    go_quiet (fail)
    go_wp2
    go_ret
    exact ⟨ret_bool (HO.out.trans HB.out.symm), below_drewN (Below.refl _ _) _⟩
  · have HB : Hid (bitB ws i = false) := by show _ = _; simp [bitB, List.getD, hlt]
    have hlt' : decide ((i : Int) / 64 < (ws.length : Int)) = false := decide_eq_false (by omega)
    go_enter Try.func26, Try.ntmps26
    go_wp2
    go_quiet (fail)
    go_wp2
    go_ret
    exact ⟨ret_bool HB.out.symm, below_drewN (Below.refl _ _) _⟩

end Go.Proofs.Qxb6608861a

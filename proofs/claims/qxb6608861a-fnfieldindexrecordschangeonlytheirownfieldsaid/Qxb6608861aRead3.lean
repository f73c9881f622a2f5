import Derived.Test.Qxb6608861aRead2
import Derived.Lib.BytesEntry
namespace Go.Proofs.Qxb6608861a
open Go.RowKit
set_option linter.unusedVariables false

/-- Each number is a byte's. -/
def Byt (xs : List Int) : Prop := ∀ x ∈ xs, 0 ≤ x ∧ x < 256

theorem indexByte_ixB (xs : List Int) (c : Int) (h : Byt xs) (h0 : 0 ≤ c) (h1 : c < 256) : Lib.indexByte (Lib.bytesOf xs) c.toNat.toUInt8 = ixB xs c := by
  induction xs with
  | nil => simp [Lib.bytesOf, Lib.indexByte, ixB]
  | cons x xs ih =>
    have ih := ih (fun y hy => h y (List.mem_cons_of_mem _ hy))
    have hx := h x (List.mem_cons_self ..)
    simp only [Lib.bytesOf, List.map_cons, Lib.indexByte] at ih ⊢
    have e : ((UInt8.ofNat x.toNat) == c.toNat.toUInt8) = (x == c) := by
      rw [Bool.eq_iff_iff]
      simp only [beq_iff_eq]
      constructor
      · intro h
        have := congrArg UInt8.toNat h
        simp at this
        omega
      · rintro rfl; rfl
    rw [e, ih]
    unfold ixB
    rw [List.idxOf_cons]
    by_cases hxc : x = c
    · subst hxc; simp
    · have hb : (x == c) = false := by simpa using hxc
      rw [hb]
      simp only [cond_false, List.length_cons]
      by_cases hl : xs.idxOf c < xs.length
      · have hl2 : xs.idxOf c + 1 < xs.length + 1 := by omega
        rw [if_pos hl, if_pos hl2]
        simp
      · have hl2 : ¬ xs.idxOf c + 1 < xs.length + 1 := by omega
        rw [if_neg hl, if_neg hl2]
        simp

theorem run_ix {P : Program} (a : Option Addr) (n ca : Nat) (xs : List Int) (c : Int) (w : World) (hn : xs.length = n) (hb : Byt xs) (h0 : 0 ≤ c) (h1 : c < 256) (hx : View .u8 w a xs) :
    (Extern.BytealgIndexByte.indexByte #[.slice a n ca, .int .u8 c]).run P w = .ok (.int .i64 (ixB xs c)) w := by
  subst hn
  by_cases hz : xs.length = 0
  · have : xs = [] := List.eq_nil_of_length_eq_zero hz
    subst this
    cases a with
    | none => exact Lib.run_indexByteNil w 0 ca c
    | some x => exact Lib.run_indexByteString (P := P) .empty c w
  · obtain ⟨b, off, rfl, -⟩ := hx 0 (by omega)
    have hc : ∀ i, i < xs.length → w.cell? ⟨b, off + i, none⟩ = some (.int .u8 (xs.getD i 0)) := fun i hi => by
      obtain ⟨b', off', e, h⟩ := hx i hi; simp at e; obtain ⟨rfl, rfl⟩ := e; exact h
    rw [Lib.run_indexByteSlice w b off xs.length ca xs rfl hc c, indexByte_ixB xs c hb h0 h1]

set_option maxHeartbeats 400000 in
set_option maxRecDepth 100000 in
theorem bIndexByte_any (a : Option Addr) (n ca : Nat) (xs : List Int) (c : Int) (w : World) (hn : xs.length = n) (hb : Byt xs) (h0 : 0 ≤ c) (h1 : c < 256) (hx : View .u8 w a xs) :
    Calls Try.prog 34 #[.slice a n ca, .int .u8 c] w fun e w' => e = .returned (.int .i64 (ixB xs c)) ∧ w' = w := by
  have HR : Hid _ := run_ix (P := Try.prog) a n ca xs c w hn hb h0 h1 hx
  clear hn hb hx
  go_enter Try.func34, Try.ntmps34
  go_wp2
  rw [run_callFunc_extern Try.func36 (by kernel_rfl) (by kernel_rfl) (by kernel_rfl) (e := Extern.BytealgIndexByte.indexByte) (by kernel_rfl), HR.out]
  simp only [Result.andThen]
  rw [Oper.upon_value]
  go_wp2
  go_ret
  exact ⟨rfl, rfl⟩

set_option maxHeartbeats 400000 in
theorem colon_any (a : Option Addr) (n ca : Nat) (xs : List Int) (w : World) (hn : xs.length = n) (hb : Byt xs) (hx : View .u8 w a xs) :
    Calls Try.prog 35 #[.slice a n ca] w fun e w' => e = .returned (.int .i64 (ixB xs 58)) ∧ w' = w := by
  go_enter Try.func35, Try.ntmps35
  go_wp2_with (go_at_call 34; refine (bIndexByte_any _ _ _ xs _ _ hn hb (by decide) (by decide) hx).mono ?_; rintro e w' ⟨rfl, rfl⟩)
  go_ret
  exact ⟨rfl, rfl⟩

set_option maxHeartbeats 400000 in
theorem valueStart_any (a : Option Addr) (n ca : Nat) (xs : List Int) (w : World) (hn : xs.length = n) (hm : n ≤ 1048576) (hb : Byt xs) (hx : View .u8 w a xs) (hc : 0 ≤ ixB xs 58) :
    Calls Try.prog 32 #[.slice a n ca] w fun e w' => e = .returned (.int .i64 (ixB xs 58 + 1)) ∧ w' = w := by
  have hr := ixB_range xs 58
  go_enter Try.func32, Try.ntmps32
  go_wp2_with (go_at_call 35; refine (colon_any _ _ _ xs _ hn hb hx).mono ?_; rintro e w' ⟨rfl, rfl⟩)
  go_ret
  exact ⟨rfl, rfl⟩

theorem pfx_at (k : Nat) (hk : k < 8) (h : k < (ByteArray.mk #[88, 45, 80, 114, 105, 111, 114, 45]).size) : (((ByteArray.mk #[88, 45, 80, 114, 105, 111, 114, 45])[k]'h).toNat : Int) = pfx.getD k 0 := by
  rcases (by omega : k = 0 ∨ k = 1 ∨ k = 2 ∨ k = 3 ∨ k = 4 ∨ k = 5 ∨ k = 6 ∨ k = 7) with rfl | rfl | rfl | rfl | rfl | rfl | rfl | rfl <;> rfl

theorem View.at {k : IntKind} {w : World} {b off : Nat} {xs : List Int} {lo : Nat} (h : View k w (some ⟨b, off, none⟩) xs) : View k w (some ⟨b, off + lo, none⟩) (xs.drop lo) := by
  intro i hi'
  simp at hi'
  obtain ⟨b', off', e, hc⟩ := h (lo + i) (by omega)
  simp at e
  obtain ⟨rfl, rfl⟩ := e
  refine ⟨b, off + lo, rfl, ?_⟩
  rw [Nat.add_assoc, hc]
  simp [List.getD]

theorem View.take {k : IntKind} {w : World} {a : Option Addr} {xs : List Int} {hi : Nat} (h : View k w a xs) : View k w a (xs.take hi) := by
  intro i hi'
  simp at hi'
  obtain ⟨b, off, rfl, hc⟩ := h i (by omega)
  refine ⟨b, off, rfl, ?_⟩
  rw [hc]
  simp [List.getD, show i < hi from by omega]

theorem View.from0 {k : IntKind} {w : World} {a : Option Addr} {xs : List Int} {lo : Nat} (h : xs.length ≤ lo) : View k w a (xs.drop lo) := by
  intro i hi'; simp at hi'; omega

theorem Byt.drop {xs : List Int} (h : Byt xs) (k : Nat) : Byt (xs.drop k) := fun x hx => h x (List.mem_of_mem_drop hx)
theorem Byt.take {xs : List Int} (h : Byt xs) (k : Nat) : Byt (xs.take k) := fun x hx => h x (List.mem_of_mem_take hx)

theorem isPrior_off (xs : List Int) (k : Nat) (hk : k < 8) (hl : 8 ≤ xs.length) (h : xs.getD k 0 ≠ pfx.getD k 0) : isPrior xs = false := by
  have : sameB (xs.take 8) pfx = false := sameB_part _ _ k (by
    intro e; apply h; rw [← e]; simp [List.getD, hk])
  simp [isPrior, this]

theorem isPrior_on (xs : List Int) (hl : 8 ≤ xs.length) (h : ∀ j, j < 8 → xs.getD j 0 = pfx.getD j 0) : isPrior xs = (decide (0 ≤ ixB xs 58) && decide (2 ≤ cntB (xs.drop (ixB xs 58 + 1).toNat) 59)) := by
  have : sameB (xs.take 8) pfx = true := sameB_all _ _ (by simp [pfx]; omega) (fun j hj => by
    have hj8 : j < 8 := by simp at hj; omega
    rw [← h j hj8]; simp [List.getD, hj8])
  simp [isPrior, this, hl]

theorem indexByte_is (a : Option Addr) (n ca : Nat) (xs : List Int) (c r : Int) (w : World) (hn : xs.length = n) (hm : n ≤ 1048576) (hx : View .u8 w a xs) (hr : ixB xs c = r) :
    Calls Try.prog 22 #[.slice a n ca, .int .u8 c] w fun e w' => e = .returned (.int .i64 r) ∧ w' = w := hr ▸ indexByte_any a n ca xs c w hn hm hx

set_option maxHeartbeats 400000 in
theorem isPrior_any (a : Option Addr) (n ca : Nat) (xs : List Int) (w : World) (hn : xs.length = n) (hm : n ≤ 1048576) (hca : n ≤ ca) (hx : View .u8 w a xs) :
    Calls Try.prog 18 #[.slice a n ca] w fun e w' => e = .returned (.bool (isPrior xs)) ∧ Below w.heap.size w w' := by
  subst hn
  by_cases h8 : xs.length < 8
  · have HF : Hid (isPrior xs = false) := by show _ = _; simp [isPrior]; omega
    go_enter Try.func18, Try.ntmps18
    go_wp2
    go_ret
    exact ⟨ret_bool HF.out.symm, Below.refl _ _⟩
  · go_enter Try.func18, Try.ntmps18
    go_wp2
    go_loopw [3] (fun i wr => ∃ k : Nat, k ≤ 8 ∧ i = .int .i64 k ∧ Hid (∀ j, j < k → xs.getD j 0 = pfx.getD j 0) ∧ Below w.heap.size w wr) (fun i _ => 8 - (intOf i).toNat)
    case atStart => exact ⟨0, Nat.zero_le _, rfl, fun j hj => by omega, Below.refl _ _⟩
    case round =>
      obtain ⟨k, hk, rfl, hno, hbl⟩ := hrel
      by_cases hlt : k < 8
      · obtain ⟨b1, off1, rfl, hc⟩ := hx.below hbl k (by omega)
        have hlt2 : k < xs.length := by omega
        go_wp2
        go_quiet (fail)
        go_wp2
        · have hne : (xs[k] != (((ByteArray.mk #[88, 45, 80, 114, 105, 111, 114, 45])[k]'hlt).toNat : Int)) = true := by assumption
          go_ret
          refine ⟨ret_bool (isPrior_off xs k hlt (by omega) ?_).symm, below_drewN hbl _⟩
          rw [bne_iff_ne, pfx_at k hlt] at hne
          simpa [List.getD, hlt2] using hne
        · have heq : (xs[k] != (((ByteArray.mk #[88, 45, 80, 114, 105, 111, 114, 45])[k]'hlt).toNat : Int)) = false := by assumption
          go_roundw
          case rel =>
            refine ⟨k + 1, by omega, by go_num, fun j hj => ?_, below_drewN hbl _⟩
            by_cases e : j = k
            · subst e
              rw [bne_eq_false_iff_eq, pfx_at j hlt] at heq
              simpa [List.getD, hlt2] using heq
            · exact hno.out j (by omega)
          case measure => simp [intOf]; omega
      · have HP : Hid _ := isPrior_on xs (by omega) (fun j hj => hno.out j (by omega))
        have hr := ixB_range xs 58
        by_cases hneg : ixB xs 58 < 0
        · go_wp2_with (go_at_call 22; refine (indexByte_any _ _ _ xs _ _ rfl (by omega) (hx.below hbl)).mono ?_; rintro e w' ⟨rfl, rfl⟩)
          go_ret
          exact ⟨ret_bool (by rw [HP.out]; simp; omega), hbl⟩
        · obtain ⟨c, hc⟩ := Int.eq_ofNat_of_zero_le (by omega : 0 ≤ ixB xs 58)
          have HC : Hid (ixB xs 58 = (c : Int)) := hc
          have hcl : c < xs.length := by omega
          clear hc hneg hr
          obtain ⟨b, off, rfl, -⟩ := hx 0 (by omega)
          have HP2 : Hid (isPrior xs = decide (2 ≤ cntB (xs.drop (c + 1)) 59)) := by show _ = _; rw [HP.out, HC.out, show ((c : Int) + 1).toNat = c + 1 from by omega]; simp
          have hr2 := cntB_range (xs.drop (c + 1)) 59
          clear HP
          go_wp2_with (first | (go_at_call 22; refine (indexByte_is _ _ _ xs _ c _ rfl (by omega) (hx.below hbl) HC.out).mono ?_; rintro e w' ⟨rfl, rfl⟩) | (go_at_call 23; refine (countByte_any _ _ _ (xs.drop (c + 1)) _ _ ?_ ?_ ?_).mono ?_; (simp); (omega); (first | exact View.from0 (by omega) | exact View.at (hx.below hbl)); rintro e w' ⟨rfl, rfl⟩))
          all_goals
            go_ret
            exact ⟨ret_bool HP2.out.symm, hbl⟩

end Go.Proofs.Qxb6608861a

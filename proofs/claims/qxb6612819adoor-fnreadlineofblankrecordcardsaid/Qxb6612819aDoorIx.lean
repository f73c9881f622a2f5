import Derived.Test.Qxb6612819aDoorRead
import Derived.Deep.RegionLaw
namespace Go.Proofs.Qxb6612819aDoor
open Go.RowKit
set_option linter.unusedVariables false

/-- Where c stands first, or -1. -/
def ixB (xs : List Int) (c : Int) : Int := if xs.idxOf c < xs.length then (xs.idxOf c : Int) else -1

theorem ixB_hit (xs : List Int) (c : Int) (k : Nat) (hk : k < xs.length) (h : xs.getD k 0 = c) (hn : ∀ j, j < k → xs.getD j 0 ≠ c) : ixB xs c = (k : Int) := by
  have e : xs.idxOf c = k := by
    induction xs generalizing k with
    | nil => simp at hk
    | cons x xs ih =>
      cases k with
      | zero => simp at h; subst h; simp
      | succ k =>
        have h0 := hn 0 (by omega)
        simp at h0
        rw [List.idxOf_cons]
        have hx : (x == c) = false := by simpa using h0
        rw [hx]
        simp at hk h
        have := ih k (by omega) (by simpa using h) (fun j hj => by have := hn (j + 1) (by omega); simpa using this)
        simp [this]
  unfold ixB
  rw [e, if_pos hk]

theorem ixB_miss (xs : List Int) (c : Int) (hn : ∀ j, j < xs.length → xs.getD j 0 ≠ c) : ixB xs c = -1 := by
  unfold ixB
  rw [if_neg]
  intro h
  refine hn _ h ?_
  simp [List.getD, h]

theorem ixB_range (xs : List Int) (c : Int) : -1 ≤ ixB xs c ∧ ixB xs c < xs.length := by
  unfold ixB; split <;> omega

/-- Each number is a byte's. -/
def Byt (xs : List Int) : Prop := ∀ x ∈ xs, 0 ≤ x ∧ x < 256

theorem indexByte_ixB (xs : List Int) (c : Int) (h : Byt xs) (h0 : 0 ≤ c) (h1 : c < 256) : Lib.indexByte (Lib.bytesOf xs) c.toNat.toUInt8 = ixB xs c := by
  induction xs with
  | nil => simp [Lib.bytesOf, Lib.indexByte, ixB]
  | cons x xs ih =>
    have ih := ih (fun y hy => h y (List.mem_cons_of_mem _ hy))
    have hx := h x (List.mem_cons_self ..)
    simp only [Lib.bytesOf, List.map_cons, Lib.indexByte] at ih ⊢
    have e : ((UInt8.ofNat x.toNat) == c.toNat.toUInt8) = (x == c) := by
      rw [Bool.eq_iff_iff]
      simp only [beq_iff_eq]
      constructor
      · intro h
        have := congrArg UInt8.toNat h
        simp at this
        omega
      · rintro rfl; rfl
    rw [e, ih]
    unfold ixB
    rw [List.idxOf_cons]
    by_cases hxc : x = c
    · subst hxc; simp
    · have hb : (x == c) = false := by simpa using hxc
      rw [hb]
      simp only [cond_false, List.length_cons]
      by_cases hl : xs.idxOf c < xs.length
      · have hl2 : xs.idxOf c + 1 < xs.length + 1 := by omega
        rw [if_pos hl, if_pos hl2]
        simp
      · have hl2 : ¬ xs.idxOf c + 1 < xs.length + 1 := by omega
        rw [if_neg hl, if_neg hl2]
        simp

theorem run_ix {P : Program} (a : Option Addr) (n ca : Nat) (xs : List Int) (c : Int) (w : World) (hn : xs.length = n) (hb : Byt xs) (h0 : 0 ≤ c) (h1 : c < 256) (hx : View .u8 w a xs) :
    (Extern.BytealgIndexByte.indexByte #[.slice a n ca, .int .u8 c]).run P w = .ok (.int .i64 (ixB xs c)) w := by
  subst hn
  by_cases hz : xs.length = 0
  · have : xs = [] := List.eq_nil_of_length_eq_zero hz
    subst this
    cases a with
    | none => exact Lib.run_indexByteNil w 0 ca c
    | some x => exact Lib.run_indexByteString (P := P) .empty c w
  · obtain ⟨b, off, rfl, -⟩ := hx 0 (by omega)
    have hc : ∀ i, i < xs.length → w.cell? ⟨b, off + i, none⟩ = some (.int .u8 (xs.getD i 0)) := fun i hi => by
      obtain ⟨b', off', e, h⟩ := hx i hi; simp at e; obtain ⟨rfl, rfl⟩ := e; exact h
    rw [Lib.run_indexByteSlice w b off xs.length ca xs rfl hc c, indexByte_ixB xs c hb h0 h1]

set_option maxHeartbeats 400000 in
set_option maxRecDepth 100000 in
theorem bIndexByte_any (a : Option Addr) (n ca : Nat) (xs : List Int) (c : Int) (w : World) (hn : xs.length = n) (hb : Byt xs) (h0 : 0 ≤ c) (h1 : c < 256) (hx : View .u8 w a xs) :
    Calls Tryd.prog 24 #[.slice a n ca, .int .u8 c] w fun e w' => e = .returned (.int .i64 (ixB xs c)) ∧ w' = w := by
  have HR : Hid _ := run_ix (P := Tryd.prog) a n ca xs c w hn hb h0 h1 hx
  clear hn hb hx
  go_enter Tryd.func24, Tryd.ntmps24
  go_wp2
  rw [run_callFunc_extern Tryd.func31 (by kernel_rfl) (by kernel_rfl) (by kernel_rfl) (e := Extern.BytealgIndexByte.indexByte) (by kernel_rfl), HR.out]
  simp only [Result.andThen]
  rw [Oper.upon_value]
  go_wp2
  go_ret
  exact ⟨rfl, rfl⟩


theorem Tryd.info5 : (Tryd.prog.info? 5).map (fun i => (i.zero, i.size, i.bytes)) = some (some (.int .u8 0), 1, 1) := by kernel_rfl

theorem one_cell {w : World} {b o : Nat} {x : Int} (h : w.cell? ⟨b, o, none⟩ = some (.int .u8 x)) : ∀ i, i < 1 → w.cell? ⟨b, o + i, none⟩ = some (.int .u8 ([x].getD i 0)) := by
  intro i hi
  obtain rfl : i = 0 := by omega
  simpa using h

set_option maxHeartbeats 400000 in
theorem equal_one (b1 o1 c1 b2 o2 c2 : Nat) (x y : Int) (w : World) (hx : w.cell? ⟨b1, o1, none⟩ = some (.int .u8 x)) (hy : w.cell? ⟨b2, o2, none⟩ = some (.int .u8 y)) :
    Calls Tryd.prog 32 #[.slice (some ⟨b1, o1, none⟩) 1 c1, .slice (some ⟨b2, o2, none⟩) 1 c2] w fun e w' => e = .returned (.bool ((strOfNums [x]).toList == (strOfNums [y]).toList)) ∧ w' = w := by
  have h1 := run_convert_bytes_arg (P := Tryd.prog) w 22 5 Tryd.underlying22 Tryd.underlying5 b1 o1 1 c1 [x] rfl (one_cell hx) 9 Tryd.underlying9
  have h2 := run_convert_bytes_arg (P := Tryd.prog) w 22 5 Tryd.underlying22 Tryd.underlying5 b2 o2 1 c2 [y] rfl (one_cell hy) 9 Tryd.underlying9
  generalize strOfNums [x] = sx at *
  generalize strOfNums [y] = sy at *
  go_enter Tryd.func32, Tryd.ntmps32
  go_wp2
  go_ret
  exact ⟨rfl, rfl⟩

theorem equal_yes (b1 o1 c1 b2 o2 c2 : Nat) (x : Int) (w : World) (hx : w.cell? ⟨b1, o1, none⟩ = some (.int .u8 x)) (hy : w.cell? ⟨b2, o2, none⟩ = some (.int .u8 x)) :
    Calls Tryd.prog 32 #[.slice (some ⟨b1, o1, none⟩) 1 c1, .slice (some ⟨b2, o2, none⟩) 1 c2] w fun e w' => e = .returned (.bool true) ∧ w' = w := by
  have := equal_one b1 o1 c1 b2 o2 c2 x x w hx hy
  rw [beq_self_eq_true] at this
  exact this

theorem equal_no (b1 o1 c1 b2 o2 c2 : Nat) (w : World) (hx : w.cell? ⟨b1, o1, none⟩ = some (.int .u8 32)) (hy : w.cell? ⟨b2, o2, none⟩ = some (.int .u8 13)) :
    Calls Tryd.prog 32 #[.slice (some ⟨b1, o1, none⟩) 1 c1, .slice (some ⟨b2, o2, none⟩) 1 c2] w fun e w' => e = .returned (.bool false) ∧ w' = w := by
  have := equal_one b1 o1 c1 b2 o2 c2 32 13 w hx hy
  rw [show ((strOfNums [32]).toList == (strOfNums [13]).toList) = false from by decide +kernel] at this
  exact this

/-- bytes.TrimSuffix at a suffix of one byte that is there. -/
theorem trim_yes (b o m c b2 o2 c2 : Nat) (x : Int) (w : World) (hm : m ≤ 1048576) (hc : m + 1 ≤ c) (hx : w.cell? ⟨b, o + m, none⟩ = some (.int .u8 x)) (hy : w.cell? ⟨b2, o2, none⟩ = some (.int .u8 x)) :
    Calls Tryd.prog 22 #[.slice (some ⟨b, o, none⟩) (m + 1) c, .slice (some ⟨b2, o2, none⟩) 1 c2] w fun e w' => e = .returned (.slice (some ⟨b, o, none⟩) m c) ∧ w' = w := by
  have hs : Calls Tryd.prog 28 #[.slice (some ⟨b, o, none⟩) (m + 1) c, .slice (some ⟨b2, o2, none⟩) 1 c2] w fun e w' => e = .returned (.bool true) ∧ w' = w := by
    have hne : ¬ c = m := by omega
    go_enter Tryd.func28, Tryd.ntmps28
    go_wp2_with (go_at_call 32; refine (equal_yes _ _ _ _ _ _ x _ hx hy).mono ?_; rintro e w' ⟨rfl, rfl⟩)
    go_ret
    exact ⟨rfl, rfl⟩
  go_enter Tryd.func22, Tryd.ntmps22
  go_wp2_with (go_at_call 28; refine hs.mono ?_; rintro e w' ⟨rfl, rfl⟩)
  go_ret
  exact ⟨rfl, rfl⟩

/-- .. at a carriage return that is not there. -/
theorem trim_no (b o m c b2 o2 c2 : Nat) (w : World) (hm : m ≤ 1048576) (hc : m ≤ c) (hx : 0 < m → w.cell? ⟨b, o + (m - 1), none⟩ = some (.int .u8 32)) (hy : w.cell? ⟨b2, o2, none⟩ = some (.int .u8 13)) :
    Calls Tryd.prog 22 #[.slice (some ⟨b, o, none⟩) m c, .slice (some ⟨b2, o2, none⟩) 1 c2] w fun e w' => e = .returned (.slice (some ⟨b, o, none⟩) m c) ∧ w' = w := by
  have hs : Calls Tryd.prog 28 #[.slice (some ⟨b, o, none⟩) m c, .slice (some ⟨b2, o2, none⟩) 1 c2] w fun e w' => e = .returned (.bool false) ∧ w' = w := by
    by_cases h0 : m = 0
    · subst h0
      clear hx
      go_enter Tryd.func28, Tryd.ntmps28
      go_wp2
      go_ret
      exact ⟨rfl, rfl⟩
    · obtain ⟨j, rfl⟩ : ∃ j, m = j + 1 := ⟨m - 1, by omega⟩
      have hx' := hx (by omega)
      rw [Nat.add_sub_cancel] at hx'
      clear hx
      have hne : ¬ c = j := by omega
      go_enter Tryd.func28, Tryd.ntmps28
      go_wp2_with (go_at_call 32; refine (equal_no _ _ _ _ _ _ _ hx' hy).mono ?_; rintro e w' ⟨rfl, rfl⟩)
      go_ret
      exact ⟨rfl, rfl⟩
  go_enter Tryd.func22, Tryd.ntmps22
  go_wp2_with (go_at_call 28; refine hs.mono ?_; rintro e w' ⟨rfl, rfl⟩)
  go_ret
  exact ⟨rfl, rfl⟩

/-- bytes.Clone of a slice that is not nil. -/
theorem clone_any (b o n c : Nat) (xs : List Int) (w : World) (hl : xs.length = n) (hm : n ≤ 1048576) (hx : View .u8 w (some ⟨b, o, none⟩) xs) :
    Calls Tryd.prog 21 #[.slice (some ⟨b, o, none⟩) n c] w fun e w' => ∃ a' c', e = .returned (.slice a' n c') ∧ View .u8 w' a' xs ∧ Below w.heap.size w w' := by
  obtain ⟨i0, hi, hz0, hz1, hz2⟩ := info_parts Tryd.info5
  have hnil : ∀ wx, (binOp .eql 22 (.slice (some ⟨b, o, none⟩) n c) (.slice none 0 0)).run Tryd.prog wx = .ok (.bool false) wx := fun wx => Lib.run_eql_slice_nil wx 22 5 (some ⟨b, o, none⟩) n c 0 0 Tryd.underlying22
  have hown0 : (w.alloc (.cells #[] 5)).ownsRow w.heap.size 5 1 (.slice (some ⟨w.heap.size, 0, none⟩) 0 0) 0 [] := World.ownsRow_lit w #[] 0 (Nat.le_refl _) (Nat.zero_le _) rfl
  have hx1 : View .u8 (w.alloc (.cells #[] 5)) (some ⟨b, o, none⟩) xs := hx.below ((Below.refl _ _).alloc (Nat.le_refl _) _)
  go_enter Tryd.func21, Tryd.ntmps21
  go_wp2_with (at_builtin; refine wpList_append_own _ rfl _ _ 22 rfl w.heap.size 5 i0 (.int .u8 0) 1 1 Tryd.underlying22 hi hz0 hz1 hz2 rfl (by decide) _ _ _ rfl hown0 ⟨b, o, none⟩ n c (xs.map (Value.int .u8)) rfl (by simp [hl]) (hx1.news _ rfl) (ints_oneCell _ _) (by unfold maxLen; omega) (by omega) (by simp) ?_)
  intro v' w1 hown1 hgrow hnn
  have hbel : Below w.heap.size w w1 := ((Below.refl _ _).alloc (Nat.le_refl _) _).grown hgrow (by simp) (fun k h => by simp [Value.ownBlock] at h; omega)
  have Hown : Hid _ := hown1
  clear hown1 hgrow hnn hown0 hx1
  go_wp2
  go_ret
  rcases Hown.out.2 with ⟨rfl, h0⟩ | ⟨g, cap, cur, rfl, hg, hh, hnc, hcm, hcs, htk⟩
  · have h00 : n = 0 := by omega
    subst h00
    exact ⟨none, 0, rfl, fun i hi => by omega, hbel⟩
  · refine ⟨some ⟨g, 0, none⟩, cap, by simp, ?_, hbel⟩
    intro j hj
    refine ⟨g, 0, rfl, ?_⟩
    have := World.ownsRow.cellAt (w := w1) Hown.out j (by omega)
    rw [Nat.zero_add, this]
    simp [List.getD, hj]
end Go.Proofs.Qxb6612819aDoor

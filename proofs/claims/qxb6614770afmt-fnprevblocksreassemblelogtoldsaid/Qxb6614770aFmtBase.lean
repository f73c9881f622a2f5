import Derived.Test.Qxb6614770aFmtView
import Derived.Deep.QuietTactic
import Derived.BigQuiet
import Derived.Lib.BytesEntry
import Derived.Deep.RegionLaw
import Derived.Deep.RegionWith
import Derived.Deep.RegionHeld2
import Derived.Deep.RegionHeld3
import Derived.Laws.MakeOwn
import Derived.Deep.LoopGhost
namespace Go.Proofs.Qxb6614770aFmt
open Go.RowKit
set_option linter.unusedVariables false

set_option maxHeartbeats 400000 in
theorem same_any (a b : Option Addr) (n ca cb : Nat) (xs : List Int) (w : World) (hl : xs.length = n) (hm : n ≤ 1048576) (hx : View .u8 w a xs) (hy : View .u8 w b xs) :
    Calls Tryf.prog 10 #[.slice a n ca, .slice b n cb] w fun e w' => e = .returned (.bool true) ∧ ∃ q, w' = w.drewN q := by
  have Hl : Hid _ := hl
  clear hl
  go_enter Tryf.func10, Tryf.ntmps10
  go_wp2
  go_loopw [5] (fun i wr => ∃ k : Nat, k ≤ n ∧ i = .int .i64 k ∧ ∃ q, wr = w.drewN q) (fun i _ => n - (intOf i).toNat)
  case atStart => exact ⟨0, Nat.zero_le _, rfl, 0, rfl⟩
  case round =>
    obtain ⟨k, hk, rfl, q, rfl⟩ := hrel
    by_cases hlt : k < n
    · obtain ⟨b1, off1, rfl, hc⟩ := hx k (by rw [Hl.out]; exact hlt)
      obtain ⟨b2, off2, rfl, hd⟩ := hy k (by rw [Hl.out]; exact hlt)
      generalize xs.getD k 0 = v at hc hd
      go_wp2
      go_quiet (fail)
      go_wp2
      go_roundw
      case rel => exact ⟨k + 1, by omega, by go_num, _, rfl⟩
      case measure => simp [intOf]; omega
    · go_wp2
      go_ret
      exact ⟨rfl, _, rfl⟩
/-- Where c stands first, or -1. -/
def ixB (xs : List Int) (c : Int) : Int := if xs.idxOf c < xs.length then (xs.idxOf c : Int) else -1

theorem ixB_hit (xs : List Int) (c : Int) (k : Nat) (hk : k < xs.length) (h : xs.getD k 0 = c) (hn : ∀ j, j < k → xs.getD j 0 ≠ c) : ixB xs c = (k : Int) := by
  have e : xs.idxOf c = k := by
    induction xs generalizing k with
    | nil => simp at hk
    | cons x xs ih =>
      cases k with
      | zero => simp at h; subst h; simp
      | succ k =>
        have h0 := hn 0 (by omega)
        simp at h0
        rw [List.idxOf_cons]
        have hx : (x == c) = false := by simpa using h0
        rw [hx]
        simp at hk h
        have := ih k (by omega) (by simpa using h) (fun j hj => by have := hn (j + 1) (by omega); simpa using this)
        simp [this]
  unfold ixB
  rw [e, if_pos hk]

theorem ixB_miss (xs : List Int) (c : Int) (hn : ∀ j, j < xs.length → xs.getD j 0 ≠ c) : ixB xs c = -1 := by
  unfold ixB
  rw [if_neg]
  intro h
  refine hn _ h ?_
  simp [List.getD, h]

theorem ixB_range (xs : List Int) (c : Int) : -1 ≤ ixB xs c ∧ ixB xs c < xs.length := by
  unfold ixB; split <;> omega

/-- Each number is a byte's. -/
def Byt (xs : List Int) : Prop := ∀ x ∈ xs, 0 ≤ x ∧ x < 256

theorem indexByte_ixB (xs : List Int) (c : Int) (h : Byt xs) (h0 : 0 ≤ c) (h1 : c < 256) : Lib.indexByte (Lib.bytesOf xs) c.toNat.toUInt8 = ixB xs c := by
  induction xs with
  | nil => simp [Lib.bytesOf, Lib.indexByte, ixB]
  | cons x xs ih =>
    have ih := ih (fun y hy => h y (List.mem_cons_of_mem _ hy))
    have hx := h x (List.mem_cons_self ..)
    simp only [Lib.bytesOf, List.map_cons, Lib.indexByte] at ih ⊢
    have e : ((UInt8.ofNat x.toNat) == c.toNat.toUInt8) = (x == c) := by
      rw [Bool.eq_iff_iff]
      simp only [beq_iff_eq]
      constructor
      · intro h
        have := congrArg UInt8.toNat h
        simp at this
        omega
      · rintro rfl; rfl
    rw [e, ih]
    unfold ixB
    rw [List.idxOf_cons]
    by_cases hxc : x = c
    · subst hxc; simp
    · have hb : (x == c) = false := by simpa using hxc
      rw [hb]
      simp only [cond_false, List.length_cons]
      by_cases hl : xs.idxOf c < xs.length
      · have hl2 : xs.idxOf c + 1 < xs.length + 1 := by omega
        rw [if_pos hl, if_pos hl2]
        simp
      · have hl2 : ¬ xs.idxOf c + 1 < xs.length + 1 := by omega
        rw [if_neg hl, if_neg hl2]
        simp

theorem run_ix {P : Program} (a : Option Addr) (n ca : Nat) (xs : List Int) (c : Int) (w : World) (hn : xs.length = n) (hb : Byt xs) (h0 : 0 ≤ c) (h1 : c < 256) (hx : View .u8 w a xs) :
    (Extern.BytealgIndexByte.indexByte #[.slice a n ca, .int .u8 c]).run P w = .ok (.int .i64 (ixB xs c)) w := by
  subst hn
  by_cases hz : xs.length = 0
  · have : xs = [] := List.eq_nil_of_length_eq_zero hz
    subst this
    cases a with
    | none => exact Lib.run_indexByteNil w 0 ca c
    | some x => exact Lib.run_indexByteString (P := P) .empty c w
  · obtain ⟨b, off, rfl, -⟩ := hx 0 (by omega)
    have hc : ∀ i, i < xs.length → w.cell? ⟨b, off + i, none⟩ = some (.int .u8 (xs.getD i 0)) := fun i hi => by
      obtain ⟨b', off', e, h⟩ := hx i hi; simp at e; obtain ⟨rfl, rfl⟩ := e; exact h
    rw [Lib.run_indexByteSlice w b off xs.length ca xs rfl hc c, indexByte_ixB xs c hb h0 h1]

set_option maxHeartbeats 400000 in
set_option maxRecDepth 100000 in
theorem bIndexByte_any (a : Option Addr) (n ca : Nat) (xs : List Int) (c : Int) (w : World) (hn : xs.length = n) (hb : Byt xs) (h0 : 0 ≤ c) (h1 : c < 256) (hx : View .u8 w a xs) :
    Calls Tryf.prog 15 #[.slice a n ca, .int .u8 c] w fun e w' => e = .returned (.int .i64 (ixB xs c)) ∧ w' = w := by
  have HR : Hid _ := run_ix (P := Tryf.prog) a n ca xs c w hn hb h0 h1 hx
  clear hn hb hx
  go_enter Tryf.func15, Tryf.ntmps15
  go_wp2
  rw [run_callFunc_extern Tryf.func17 (by kernel_rfl) (by kernel_rfl) (by kernel_rfl) (e := Extern.BytealgIndexByte.indexByte) (by kernel_rfl), HR.out]
  simp only [Result.andThen]
  rw [Oper.upon_value]
  go_wp2
  go_ret
  exact ⟨rfl, rfl⟩


theorem Tryf.info5 : (Tryf.prog.info? 5).map (fun i => (i.zero, i.size, i.bytes)) = some (some (.int .u8 0), 1, 1) := by kernel_rfl

theorem Tryf.size5 : (Tryf.prog.info? 5).map (·.size) = some 1 := by kernel_rfl

/-- 'copy(dst, src)' into a row that is known whole, as one step of a region that draws: the row behind it, and that no other block has turned. -/
theorem step_copy_row {P : Program} {ops : Array Oper} {o : Oper} {a : Act} {w : World} {K : Act → World → Prop} {Q : Exit → Act → World → Prop} {E : Prop} (hgd : o.guard = none) (d s : Operand) (dT sT : TypeId)
    (ho : o.op = .call { callee := .builtin .copy, args := #[d, s], argTypes := #[dT, sT] }) (elem : TypeId) (hu : P.underlying dT = some (.slice elem)) (hsz : (P.info? elem).map (·.size) = some 1)
    (dp sp : Option Addr) (dLen dCap sLen sCap : Nat) (hd : a.eval d = .slice dp dLen dCap) (hs : a.eval s = .slice sp sLen sCap)
    (g off : Nat) (cur : List Value) (t : TypeId) (hg : w.heap[g]? = some (.cells cur.toArray t (0, 0))) (cs : List Value) (hn : cs.length = Nat.min sLen dLen)
    (hpos : 0 < cs.length → dp = some ⟨g, off, none⟩ ∧ ∃ ad, sp = some ad ∧ ∀ j v, cs[j]? = some v → w.cell? (ad.add j) = some v)
    (hfit : off + cs.length ≤ cur.length) (h1 : ∀ v ∈ cs, v.oneCell' = true)
    (h : ∀ w', Hid (w'.heap[g]? = some (.cells (splice cur off cs).toArray t (0, 0))) → Frame [g] w w' → K (a.put o.dst (goInt cs.length)) w') :
    if Region.wanted o (yielded ops a.tmps) = true then Oper.wp P o a w K Q else E := by
  have hw : Region.wanted o (yielded ops a.tmps) = true := by simp [Region.wanted, hgd]
  rw [if_pos hw]
  by_cases h0 : cs.length = 0
  · obtain rfl : cs = [] := List.eq_nil_of_length_eq_zero h0
    have hrun := run_copy_none (P := P) w dT sT o.type elem dp sp dLen dCap sLen sCap hu hsz (by simpa using hn.symm)
    unfold Oper.wp
    simp [execOp, ho, resolve, invoke, builtin, hd, hs, hrun, Result.andThen]
    exact h w (show _ = _ by simpa [splice] using hg) (Frame.refl _ _)
  · obtain ⟨rfl, ad, rfl, hsrc⟩ := hpos (by omega)
    have hrun := run_copy_row (P := P) w dT sT o.type elem g off dLen dCap ad sLen sCap cur.toArray t cs hu hsz hg hn hsrc (by simpa using hfit) h1
    unfold Oper.wp
    simp [execOp, ho, resolve, invoke, builtin, hd, hs, hrun, Result.andThen]
    exact h _ (show _ = _ by simpa [splice] using setRow_heap w g _ _ t _ hg) ((Frame.refl _ _).setRow (by simp) _)

theorem cell3 {w : World} {g j : Nat} {cs : Array Value} {t : TypeId} {fr : Nat × Nat} {v : Value} (h : w.heap[g]? = some (.cells cs t fr)) (hj : cs[j]? = some v) : w.cell? ⟨g, j, none⟩ = some v := by
  rw [cell_of_row w g j cs t fr h, hj]
theorem free3 {w : World} {g j : Nat} {cs : Array Value} {t : TypeId} (h : w.heap[g]? = some (.cells cs t (0, 0))) : w.frozen? ⟨g, j, none⟩ = false := frozen_of_row w g j cs t h

/-- 'make([]byte, n)'. -/
theorem make_bytes (n : Nat) (hn : n ≤ 1048576) : ∃ B : List Value, B.length = n ∧ (∀ j, j < n → B[j]? = some (.int .u8 0)) ∧
    ∀ (l : Int) (w : World), l = (n : Int) → (Instr.makeSlice 22 (.int .i64 l) (.int .i64 l)).run Tryf.prog w = .ok (.slice (some ⟨w.heap.size, 0, none⟩) n n) (w.alloc (.cells B.toArray 5 (0, 0))) := by
  obtain ⟨i0, hi, hz0, hz1, hz2⟩ := info_parts Tryf.info5
  refine ⟨(madeCells #[.int .u8 0] n).toList, by rw [Array.length_toList, size_madeCells], fun j hj => ?_, fun l w hl => ?_⟩
  · simp [madeCells, hj, Nat.mod_one]
  · subst hl
    have := run_makeSlice (P := Tryf.prog) w 22 5 i0 (.int .u8 0) Tryf.underlying22 hi hz0 .i64 .i64 n n (by omega) (Int.le_refl _) (by rw [hz1]; omega) (by rw [hz2]; omega) (by omega)
    simpa [hz1, Value.cells] using this

theorem Byt.drop {xs : List Int} (h : Byt xs) (k : Nat) : Byt (xs.drop k) := fun x hx => h x (List.mem_of_mem_drop hx)
theorem Byt.take {xs : List Int} (h : Byt xs) (k : Nat) : Byt (xs.take k) := fun x hx => h x (List.mem_of_mem_take hx)

end Go.Proofs.Qxb6614770aFmt

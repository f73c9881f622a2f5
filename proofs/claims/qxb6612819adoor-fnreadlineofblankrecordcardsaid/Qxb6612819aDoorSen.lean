import Derived.Test.Qxb6612819aDoorRs3
import Derived.LaidEql
namespace Go.Proofs.Qxb6612819aDoor
open Go.RowKit
set_option linter.unusedVariables false

/-- The two sentinels bufio.ErrBufferFull and io.EOF: two pointers that differ, to blocks below 'L'. -/
structure Sen (w : World) (L : Nat) (a0 a1 : Addr) : Prop where
  e0 : w.cell? ⟨0, 0, none⟩ = some (.iface 65 (.pointer (some a0)))
  e1 : w.cell? ⟨1, 0, none⟩ = some (.iface 65 (.pointer (some a1)))
  h0 : ∃ c t, w.heap[a0.block]? = some (.cells c t (0, 0))
  h1 : ∃ c t, w.heap[a1.block]? = some (.cells c t (0, 0))
  ne : a0 ≠ a1
  l : 2 ≤ L
  l0 : a0.block < L
  l1 : a1.block < L

theorem Sen.frame {w w' : World} {L : Nat} {a0 a1 : Addr} {S : List Nat} (h : Sen w L a0 a1) (hf : Frame S w w') (hS : ∀ k ∈ S, L ≤ k) : Sen w' L a0 a1 := by
  obtain ⟨e0, e1, ⟨c0, t0, h0⟩, ⟨c1, t1, h1⟩, ne, l, l0, l1⟩ := h
  refine ⟨hf.cell e0 (fun hm => ?_), hf.cell e1 (fun hm => ?_), ⟨c0, t0, hf.obj h0 (fun hm => ?_)⟩, ⟨c1, t1, hf.obj h1 (fun hm => ?_)⟩, ne, l, l0, l1⟩
  · have := hS _ hm; simp at this; omega
  · have := hS _ hm; simp at this; omega
  · have := hS _ hm; omega
  · have := hS _ hm; omega

theorem Sen.of_heap {w w' : World} {L : Nat} {a0 a1 : Addr} (h : Sen w L a0 a1) (hh : w'.heap = w.heap) : Sen w' L a0 a1 := by
  obtain ⟨e0, e1, ⟨c0, t0, h0⟩, ⟨c1, t1, h1⟩, ne, l, l0, l1⟩ := h
  exact ⟨(World.cell?_of_block (by rw [hh])).trans e0, (World.cell?_of_block (by rw [hh])).trans e1, ⟨c0, t0, by rw [hh]; exact h0⟩, ⟨c1, t1, by rw [hh]; exact h1⟩, ne, l, l0, l1⟩

theorem Tryd.comp65 : (Tryd.prog.info? 65).map (·.comparable) = some true := by kernel_rfl
theorem Tryd.size83 : (Tryd.prog.info? 83).map (fun i => i.size == 0) = some false := by kernel_rfl

theorem eql_same (a : Addr) (w : World) : (binOp .eql 28 (.iface 65 (.pointer (some a))) (.iface 65 (.pointer (some a)))).run Tryd.prog w = .ok (.bool true) w := by
  obtain ⟨i, hi, hc⟩ := Option.map_eq_some_iff.1 Tryd.comp65
  obtain ⟨j, hj, hs⟩ := Option.map_eq_some_iff.1 Tryd.size83
  exact run_eql_iface_ptr_same w a Tryd.underlying28 Tryd.underlying65 hi hc hj

theorem Sen.other {w : World} {L : Nat} {a0 a1 : Addr} (h : Sen w L a0 a1) : (binOp .eql 28 (.iface 65 (.pointer (some a1))) (.iface 65 (.pointer (some a0)))).run Tryd.prog w = .ok (.bool false) w := by
  obtain ⟨e0, e1, ⟨c0, t0, h0⟩, ⟨c1, t1, h1⟩, ne, l, l0, l1⟩ := h
  obtain ⟨i, hi, hc⟩ := Option.map_eq_some_iff.1 Tryd.comp65
  obtain ⟨j, hj, hs⟩ := Option.map_eq_some_iff.1 Tryd.size83
  exact run_eql_iface_ptr_other w Tryd.underlying28 Tryd.underlying65 hi hc hj (by simpa using hs) (Ne.symm ne) h1 h0

theorem eql_nil (a : Addr) (w : World) : (binOp .eql 28 .nilIface (.iface 65 (.pointer (some a)))).run Tryd.prog w = .ok (.bool false) w :=
  run_eql_iface_nil_left w 65 _ Tryd.underlying28

/-- n spaces and an end of line. -/
def blk (n : Nat) : List Int := List.replicate n 32 ++ [10]

theorem blk_len (n : Nat) : (blk n).length = n + 1 := by simp [blk]
theorem blk_byt (n : Nat) : Byt (blk n) := by
  intro x hx
  simp [blk] at hx
  rcases hx with ⟨_, rfl⟩ | rfl <;> decide
theorem blk_drop (n p : Nat) (h : p ≤ n) : (blk n).drop p = blk (n - p) := by
  simp [blk, List.drop_append, List.drop_replicate, show p - n = 0 from by omega]
theorem blk_take (m k : Nat) (h : k ≤ m) : (blk m).take k = List.replicate k 32 := by
  simp [blk, List.take_append, List.take_replicate, show k - m = 0 from by omega, Nat.min_eq_left h]
theorem blk_at (n j : Nat) (h : j < n) : (blk n).getD j 0 = 32 := by
  simp [blk, List.getD, List.getElem?_append_left, h]
theorem blk_end (n : Nat) : (blk n).getD n 0 = 10 := by
  simp [blk, List.getD]
theorem blk_ix (n p : Nat) (h : p ≤ n) : ixB (((blk n).drop p).take (n - p + 1)) 10 = ((n - p : Nat) : Int) := by
  rw [blk_drop n p h, List.take_of_length_le (by rw [blk_len]; omega)]
  exact ixB_hit _ _ _ (by rw [blk_len]; omega) (blk_end _) (fun j hj => by rw [blk_at _ _ hj]; decide)
theorem blk_no (n p : Nat) (h : p + 10000 ≤ n) : ixB (((blk n).drop p).take 10000) 10 = -1 := by
  rw [blk_drop n p (by omega), blk_take _ _ (by omega)]
  exact ixB_miss _ _ (fun j hj => by rw [List.length_replicate] at hj; rw [spaces_at _ _ hj]; decide)

theorem mem3 {L g q bb k : Nat} (hg : L ≤ g) (hq : L ≤ q) (hb : L ≤ bb) (hk : k ∈ [g, q, bb]) : L ≤ k := by
  simp at hk
  omega

theorem St.below {w w' : World} {g q dd bb N p r : Nat} {D : List Int} {B : List Value} (S : St w g q dd bb N p r D B) (h : Below w.heap.size w w') : St w' g q dd bb N p r D B := by
  obtain ⟨⟨lb, lr, hg0⟩, ⟨pr, hq0⟩, hD0, hDl, hb0, hBl, hN, hr, n1, n2, n3, n4, n5, n6⟩ := S
  have hf : Frame [] w w' := Frame.of_below h
  exact ⟨⟨lb, lr, hf.obj hg0 (by simp)⟩, ⟨pr, hf.obj hq0 (by simp)⟩, hD0.frame hf (by simp), hDl, hf.obj hb0 (by simp), hBl, hN, hr, n1, n2, n3, n4, n5, n6⟩
theorem St.of_heap {w w' : World} {g q dd bb N p r : Nat} {D : List Int} {B : List Value} (S : St w g q dd bb N p r D B) (h : w'.heap = w.heap) : St w' g q dd bb N p r D B := by
  obtain ⟨⟨lb, lr, hg0⟩, ⟨pr, hq0⟩, hD0, hDl, hb0, hBl, hN, hr, n1, n2, n3, n4, n5, n6⟩ := S
  refine ⟨⟨lb, lr, h ▸ hg0⟩, ⟨pr, h ▸ hq0⟩, fun i hi => ?_, hDl, h ▸ hb0, hBl, hN, hr, n1, n2, n3, n4, n5, n6⟩
  obtain ⟨b, o, e, hc⟩ := hD0 i hi
  exact ⟨b, o, e, (World.cell?_of_block (by rw [h])).trans hc⟩

/-- The head of the buffer, read as the bytes put there. -/
theorem St.buf {w : World} {g q dd bb N p r : Nat} {D L : List Int} {B : List Value} (S : St w g q dd bb N p r D (splice B 0 (L.map (Value.int .u8)))) : View .u8 w (some ⟨bb, 0, none⟩) L := by
  refine View.of_row S.hbb (fun j hj => ?_)
  simp [splice, List.getElem?_append_left, hj, List.getD]

end Go.Proofs.Qxb6612819aDoor

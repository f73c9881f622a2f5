import Derived.Test.Qxb6608861aRec
namespace Go.Proofs.Qxb6608861a
open Go.RowKit
set_option linter.unusedVariables false

/-- What the index is made of, and field i of it: the text xs, the ends es, the set ws; lo, hi: where field i stands. -/
structure Idx (w : World) (g : Nat) (xs es ws : List Int) : Prop where
  ex : ∃ a ca b cb c cl, IsIndex w g (.slice a xs.length ca) (.slice b es.length cb) (.slice c ws.length cl) ∧ xs.length ≤ ca ∧ View .u8 w a xs ∧ View .u32 w b es ∧ View .u64 w c ws

theorem Idx.below {w w' : World} {g : Nat} {xs es ws : List Int} (h : Idx w g xs es ws) (hb : Below w.heap.size w w') : Idx w' g xs es ws := by
  obtain ⟨a, ca, b, cb, c, cl, h1, h2, h3, h4, h5⟩ := h.ex
  exact ⟨a, ca, b, cb, c, cl, h1.below hb, h2, h3.below hb, h4.below hb, h5.below hb⟩

structure Small (xs es ws : List Int) : Prop where
  x : xs.length ≤ 1048576
  e : es.length ≤ 1048576
  s : ws.length ≤ 1048576
  r : ∀ x ∈ ws, 0 ≤ x ∧ x ≤ 18446744073709551615
  b : Byt xs

set_option maxHeartbeats 400000 in
theorem field_plain (g i lo hi : Nat) (xs es ws : List Int) (w : World) (hI : Idx w g xs es ws) (hS : Small xs es ws) (hin : i < es.length) (hlo : lastOr 0 es i = lo) (hhi : es.getD i 0 = hi) (h1 : lo ≤ hi) (h2 : hi ≤ xs.length) (hbit : bitB ws i = false) :
    Calls Try.prog 28 #[.pointer (some ⟨g, 0, none⟩), .int .i64 i] w fun e w' => ∃ a', e = .returned (.slice a' (hi - lo) (hi - lo)) ∧ View .u8 w' a' ((xs.take hi).drop lo) ∧ Below w.heap.size w w' := by
  obtain ⟨a, ca, b, cb, c, cl, hX, hca, hx, hy, hz⟩ := hI.ex
  obtain ⟨hxs, hes, hws, hr, hb⟩ := hS
  have hhas := has_any c ws.length cl i ws w rfl hws (by omega) hr hz
  rw [hbit] at hhas
  have Hlo : Hid _ := hlo
  have Hhi : Hid _ := hhi
  have HX := hX
  obtain ⟨c0, c1, c2, c3, c4⟩ := hX
  clear hlo hhi hbit hI
  go_enter Try.func28, Try.ntmps28
  go_wp2_with (first | (go_at_call 26; refine hhas.mono ?_; rintro e w1 ⟨rfl, hb1⟩; obtain ⟨d0, d1, d2, d3, d4⟩ := HX.below hb1) | (go_at_call 30; refine (field30_any a b _ ca _ cb i lo hi xs es _ rfl rfl hxs hes hca hin (hx.below hb1) (hy.below hb1) Hlo.out Hhi.out h1 h2).mono ?_; rintro e w2 ⟨a', rfl, hv, hb2⟩))
  go_ret
  exact ⟨a', rfl, hv, Below.step hb1 hb2⟩

/-- Where the parts of a record stand: the colon at c, the first ';' behind it i1 further, the second i2 further. -/
structure Rec (f : List Int) (c i1 i2 : Nat) : Prop where
  col : ixB f 58 = c
  one : ixB (f.drop (c + 1)) 59 = i1
  two : ixB (f.drop (c + 1 + (i1 + 1))) 59 = i2
  le : c + 1 + (i1 + 1) + (i2 + 1) ≤ f.length
  eight : 8 ≤ c

set_option maxHeartbeats 400000 in
theorem field_placed (g i lo hi c' i1 i2 : Nat) (xs es ws : List Int) (w : World) (hI : Idx w g xs es ws) (hS : Small xs es ws) (hin : i < es.length) (hlo : lastOr 0 es i = lo) (hhi : es.getD i 0 = hi) (h1 : lo ≤ hi) (h2 : hi ≤ xs.length) (hbit : bitB ws i = true) (hR : Rec ((xs.take hi).drop lo) c' i1 i2) :
    Calls Try.prog 28 #[.pointer (some ⟨g, 0, none⟩), .int .i64 i] w fun e w' => ∃ q, e = .returned (.slice (some ⟨q, 0, none⟩) (kept ((xs.take hi).drop lo) c' (c' + 1 + (i1 + 1) + (i2 + 1))).length (kept ((xs.take hi).drop lo) c' (c' + 1 + (i1 + 1) + (i2 + 1))).length) ∧
      w.heap.size ≤ q ∧ View .u8 w' (some ⟨q, 0, none⟩) (kept ((xs.take hi).drop lo) c' (c' + 1 + (i1 + 1) + (i2 + 1))) ∧ (∀ j, w'.frozen? ⟨q, j, none⟩ = false) ∧ Below w.heap.size w w' := by
  obtain ⟨a, ca, b, cb, c, cl, hX, hca, hx, hy, hz⟩ := hI.ex
  obtain ⟨hxs, hes, hws, hr, hb⟩ := hS
  have hhas := has_any c ws.length cl i ws w rfl hws (by omega) hr hz
  rw [hbit] at hhas
  have Hlo : Hid _ := hlo
  have Hhi : Hid _ := hhi
  have HX := hX
  obtain ⟨c0, c1, c2, c3, c4⟩ := hX
  have hlen : ((xs.take hi).drop lo).length = hi - lo := by simp; omega
  have Hlen : Hid _ := hlen
  have hR4 := hR.le
  have hR5 := hR.eight
  rw [hlen] at hR4
  clear hlo hhi hbit hI hlen
  go_enter Try.func28, Try.ntmps28
  go_wp2_with (first | (go_at_call 26; refine hhas.mono ?_; rintro e w1 ⟨rfl, hb1⟩; obtain ⟨d0, d1, d2, d3, d4⟩ := HX.below hb1) | (go_at_call 30; refine (field30_any a b _ ca _ cb i lo hi xs es _ rfl rfl hxs hes hca hin (hx.below hb1) (hy.below hb1) Hlo.out Hhi.out h1 h2).mono ?_; rintro e w2 ⟨a', rfl, hv, hb2⟩; (obtain ⟨b', off', hae, -⟩ := hv 0 (by rw [Hlen.out]; omega)); subst hae) | (go_at_call 29; refine (recorded_any b' off' (hi - lo) (hi - lo) c' i1 i2 ((xs.take hi).drop lo) _ Hlen.out (by omega) (Nat.le_refl _) ((hb.take _).drop _) hv hR.col hR.one hR.two hR4 hR5).mono ?_; rintro e w3 ⟨q, rfl, hq, hv3, hf3, hb3⟩))
  go_ret
  exact ⟨q, rfl, Nat.le_trans (Below.step hb1 hb2).size hq, hv3, hf3, Below.step (Below.step hb1 hb2) hb3⟩

set_option maxHeartbeats 400000 in
theorem call_plain (g i lo hi : Nat) (xs es ws : List Int) (w : World) (hI : Idx w g xs es ws) (hS : Small xs es ws) (hin : i < es.length) (hlo : lastOr 0 es i = lo) (hhi : es.getD i 0 = hi) (h1 : lo ≤ hi) (h2 : hi ≤ xs.length) (hbit : bitB ws i = false) :
    Calls Try.prog 20 #[.pointer (some ⟨g, 0, none⟩), .int .i64 i] w fun e w' => ∃ a', e = .returned (.slice a' (hi - lo) (hi - lo)) ∧ View .u8 w' a' ((xs.take hi).drop lo) ∧ Below w.heap.size w w' := by
  have hf := field_plain g i lo hi xs es ws w hI hS hin hlo hhi h1 h2 hbit
  clear hI hS hlo hhi hbit
  go_enter Try.func20, Try.ntmps20
  go_wp2_with (go_at_call 28; refine hf.mono ?_; rintro e w2 ⟨a', rfl, hv, hb2⟩)
  go_ret
  exact ⟨a', rfl, hv, hb2⟩

set_option maxHeartbeats 400000 in
theorem call_placed (g i lo hi c' i1 i2 : Nat) (xs es ws : List Int) (w : World) (hI : Idx w g xs es ws) (hS : Small xs es ws) (hin : i < es.length) (hlo : lastOr 0 es i = lo) (hhi : es.getD i 0 = hi) (h1 : lo ≤ hi) (h2 : hi ≤ xs.length) (hbit : bitB ws i = true) (hR : Rec ((xs.take hi).drop lo) c' i1 i2) :
    Calls Try.prog 20 #[.pointer (some ⟨g, 0, none⟩), .int .i64 i] w fun e w' => ∃ q, e = .returned (.slice (some ⟨q, 0, none⟩) (kept ((xs.take hi).drop lo) c' (c' + 1 + (i1 + 1) + (i2 + 1))).length (kept ((xs.take hi).drop lo) c' (c' + 1 + (i1 + 1) + (i2 + 1))).length) ∧
      w.heap.size ≤ q ∧ View .u8 w' (some ⟨q, 0, none⟩) (kept ((xs.take hi).drop lo) c' (c' + 1 + (i1 + 1) + (i2 + 1))) ∧ (∀ j, w'.frozen? ⟨q, j, none⟩ = false) ∧ Below w.heap.size w w' := by
  have hf := field_placed g i lo hi c' i1 i2 xs es ws w hI hS hin hlo hhi h1 h2 hbit hR
  generalize kept ((xs.take hi).drop lo) c' (c' + 1 + (i1 + 1) + (i2 + 1)) = K at hf ⊢
  clear hI hS hlo hhi hbit hR
  go_enter Try.func20, Try.ntmps20
  go_wp2_with (go_at_call 28; refine hf.mono ?_; rintro e w2 ⟨q, rfl, hq, hv, hfz, hb2⟩)
  go_ret
  exact ⟨q, rfl, hq, hv, hfz, hb2⟩
end Go.Proofs.Qxb6608861a

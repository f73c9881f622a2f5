import Derived.Test.Qxb6614770aFmtL3
namespace Go.Proofs.Qxb6614770aFmt
open Go.RowKit
set_option linter.unusedVariables false

theorem same_w (a b : Option Addr) (n ca cb : Nat) (xs : List Int) (w : World) (hl : xs.length = n) (hm : n ≤ 1048576) (hx : View .u8 w a xs) (hy : View .u8 w b xs) :
    Calls Tryf.prog 10 #[.slice a n ca, .slice b n cb] w fun e w' => e = .returned (.bool true) ∧ w'.heap = w.heap ∧ ∀ L w0, Below L w0 w → Below L w0 w' := by
  refine Calls.mono (same_any a b n ca cb xs w hl hm hx hy) ?_
  rintro e w' ⟨rfl, q, rfl⟩
  exact ⟨rfl, rfl, fun L w0 h => below_drewN h _⟩

set_option maxHeartbeats 2000000 in
set_option maxRecDepth 100000 in
theorem law3_main (a : Option Addr) (n c : Nat) (D : List Int) (te : TypeId) (ev : Value) (w : World) (hl : D.length = n) (hn : n ≤ 65536) (ha : a = none → c = 0) (hb : Byt D) (hx : View .u8 w a D) (he : w.cell? ⟨0, 0, none⟩ = some (.iface te ev)) :
    Calls Tryf.prog 3 #[.slice a n c] w fun e w' => e = .returned (.bool true) ∧ Below w.heap.size w w' := by
  have hL : 1 ≤ w.heap.size := by have := block_lt_of_cell he; simp at this; omega
  have HE : Hid _ := he
  have HL : Hid _ := hl
  clear he hl
  go_enter Tryf.func3, Tryf.ntmps3
  go_wp2_with fail
  refine (bytes3_any a n c _ (by omega)).mono ?_
  rintro e w' ⟨rfl, hww⟩
  have hw2 := hww.symm
  subst hw2
  clear hww
  go_wp2_with fail
  refine (clone_any a n c D _ HL.out (by omega) ha hx).mono ?_
  rintro e W1 ⟨a', rfl, v1, hdd, b1⟩
  have HDD : Hid _ := hdd
  clear hdd
  go_wp2_with fail
  refine (lineEnd_any a' n n D _ HL.out (by omega) v1).mono ?_
  rintro e w' ⟨k, rfl, hle, hww⟩
  have hw2 := hww.symm
  subst hw2
  clear hww
  go_wp2_with fail
  refine (znew_any n w.heap.size a' D _ v1 HL.out (by omega) (fun h0 => by obtain ⟨dd, e1, _⟩ := HDD.out h0; exact ⟨dd, e1⟩) b1.size).mono ?_
  rintro e W2 ⟨g, q, rfl, R2, b12⟩
  have b2 := b1.trans b12
  have e2 := (b2.cell (p := ⟨0, 0, none⟩) (show 0 < w.heap.size from hL)).trans HE.out
  have hk := hle.le
  rw [HL.out] at hk
  by_cases h0 : n = 0
  · subst h0
    obtain rfl : k = 0 := by omega
    go_wp2_with fail
    refine (zp_eof w.heap.size g q 0 a' D _ _ R2 hb hL e2).mono ?_
    rintro e W3 ⟨rfl, R3, b23⟩
    have b3 := b2.trans b23
    have e3 := (b3.cell (p := ⟨0, 0, none⟩) (show 0 < w.heap.size from hL)).trans HE.out
    go_wp2_with fail
    refine (zp_eof w.heap.size g q 0 a' D _ _ R3 hb hL e3).mono ?_
    rintro e W4 ⟨rfl, R4, b34⟩
    go_wp2
    go_ret
    exact ⟨rfl, b3.trans b34⟩
  · obtain ⟨dd, rfl, hdd⟩ := HDD.out (by omega)
    by_cases hkn : k = n
    · subst hkn
      go_wp2_with fail
      refine (zp_whole w.heap.size g q k _ D _ _ R2 hn (by omega) hle hb hL e2).mono ?_
      rintro e W3 ⟨a3, c3, rfl, v3, R3, b23⟩
      have b3 := b2.trans b23
      have hv := R3.hD
      rw [List.take_of_length_le (by rw [HL.out]; omega)] at v3
      go_wp2_with fail
      refine (same_w a3 _ k c3 k _ _ HL.out (by omega) v3 hv).mono ?_
      rintro e W4 ⟨rfl, h34, b34⟩
      have b4 := b34 _ _ b3
      have R4 := R3.of_heap h34
      have e4 := (b4.cell (p := ⟨0, 0, none⟩) (show 0 < w.heap.size from hL)).trans HE.out
      clear h34 b34
      go_wp2_with fail
      refine (zp_eof w.heap.size g q k _ D _ _ R4 hb hL e4).mono ?_
      rintro e W5 ⟨rfl, R5, b45⟩
      have b5 := b4.trans b45
      have e5 := (b5.cell (p := ⟨0, 0, none⟩) (show 0 < w.heap.size from hL)).trans HE.out
      go_wp2_with fail
      refine (zp_eof w.heap.size g q k _ D _ _ R5 hb hL e5).mono ?_
      rintro e W6 ⟨rfl, R6, b56⟩
      go_wp2
      go_ret
      exact ⟨rfl, b5.trans b56⟩
    · obtain ⟨m, hm⟩ : ∃ m, k + m = n := ⟨n - k, by omega⟩
      have hm1 : 0 < m := by omega
      have hlt : (k : Int) < (n : Int) := by omega
      have hle2 : (k : Int) ≤ (n : Int) := by omega
      have hnk : ¬ n = k := by omega
      have hsub : n - k = m := by omega
      have HM : Hid _ := hm
      have hkp : 0 < k := hle.pos (by rw [HL.out]; omega)
      clear hm
      have hno : NoNl D 0 k := fun j _ hj => hle.no j hj
      go_wp2_with fail
      refine (zp_rest w.heap.size g q n k m _ D _ _ R2 hn hle HM.out hm1 hb hL e2).mono ?_
      rintro e W3 ⟨a3, c3, rfl, v3, R3, b23⟩
      have b3 := b2.trans b23
      have hv := (R3.hD.at (lo := k)).take (hi := m)
      rw [Nat.zero_add] at hv
      go_wp2_with fail
      refine (same_w a3 _ m c3 _ _ _ (by have := HL.out; have := HM.out; simp; omega) (by omega) v3 hv).mono ?_
      rintro e W4 ⟨rfl, h34, b34⟩
      have b4 := b34 _ _ b3
      have R4 := R3.of_heap h34
      have e4 := (b4.cell (p := ⟨0, 0, none⟩) (show 0 < w.heap.size from hL)).trans HE.out
      clear h34 b34
      go_wp2_with fail
      refine (zp_line w.heap.size g q n k _ D _ _ R4 hkp hno hb hL e4).mono ?_
      rintro e W5 ⟨a5, c5, rfl, v5, R5, b45⟩
      have b5 := b4.trans b45
      have hv5 := R5.hD.take (hi := k)
      go_wp2_with fail
      refine (same_w a5 _ k c5 _ _ _ (by have := HL.out; simp; omega) (by omega) v5 hv5).mono ?_
      rintro e W6 ⟨rfl, h56, b56⟩
      have b6 := b56 _ _ b5
      have R6 := R5.of_heap h56
      have e6 := (b6.cell (p := ⟨0, 0, none⟩) (show 0 < w.heap.size from hL)).trans HE.out
      clear h56 b56
      go_wp2_with fail
      refine (zp_eof w.heap.size g q n _ D _ _ R6 hb hL e6).mono ?_
      rintro e W7 ⟨rfl, R7, b67⟩
      have b7 := b6.trans b67
      have e7 := (b7.cell (p := ⟨0, 0, none⟩) (show 0 < w.heap.size from hL)).trans HE.out
      go_wp2_with fail
      refine (zp_eof w.heap.size g q n _ D _ _ R7 hb hL e7).mono ?_
      rintro e W8 ⟨rfl, R8, b78⟩
      go_wp2
      go_ret
      exact ⟨rfl, b7.trans b78⟩

end Go.Proofs.Qxb6614770aFmt

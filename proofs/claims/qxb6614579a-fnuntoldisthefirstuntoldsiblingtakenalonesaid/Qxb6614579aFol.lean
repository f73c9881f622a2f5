import Derived.Test.Qxb6614579aReach
import Derived.Deep.QuietTactic
import Derived.BigQuiet
import Derived.Deep.RegionLaw
import Derived.Deep.RegionWith
import Derived.Deep.RegionHeld3
import Derived.Deep.LoopGhost
namespace Go.Proofs.Qxb6614579a
open Go.RowKit
set_option linter.unusedVariables false

/-- What the closure 'follows' has captured, and what it leads to. -/
structure Cx (w : World) (p1 p2 p3 p4 p5 lb kb vb : Nat) (G : ByteArray → Option Nat) (E : ByteArray → ByteArray → Option Int) (V : ByteArray → Option Int) (K : ByteArray → Bool) : Prop where
  c1 : w.cell? ⟨p1, 0, none⟩ = some (.map (some lb))
  c2 : w.cell? ⟨p2, 0, none⟩ = some (.map (some kb))
  c3 : w.cell? ⟨p3, 0, none⟩ = some (.map (some vb))
  c4 : w.cell? ⟨p4, 0, none⟩ = some .nilFunc
  c5 : w.cell? ⟨p5, 0, none⟩ = some (.func (.func 41) #[] #[.pointer (some ⟨p1, 0, none⟩), .pointer (some ⟨p2, 0, none⟩), .pointer (some ⟨p3, 0, none⟩), .pointer (some ⟨p4, 0, none⟩), .pointer (some ⟨p5, 0, none⟩)])
  lin : Lin w lb G E
  ver : MapOf w vb (fun x => (V x).map (Value.int .u64))
  lk : MapOf w kb (setF K)
  n0 : kb ∉ [p1, p2, p3, p4, p5, lb, vb]
  n1 : ∀ n b, G n = some b → b ≠ kb

theorem Cx.frame {S : List Nat} {w w' : World} {p1 p2 p3 p4 p5 lb kb vb : Nat} {G : ByteArray → Option Nat} {E : ByteArray → ByteArray → Option Int} {V : ByteArray → Option Int} {K K' : ByteArray → Bool}
    (h : Cx w p1 p2 p3 p4 p5 lb kb vb G E V K) (hf : Frame [kb] w w') (hk : MapOf w' kb (setF K')) : Cx w' p1 p2 p3 p4 p5 lb kb vb G E V K' := by
  obtain ⟨c1, c2, c3, c4, c5, lin, ver, lk, n0, n1⟩ := h
  simp at n0
  refine ⟨hf.cell c1 (by simp; omega), hf.cell c2 (by simp; omega), hf.cell c3 (by simp; omega), hf.cell c4 (by simp; omega), hf.cell c5 (by simp; omega), lin.frame hf (by simp; omega) (fun n b hb => by have := n1 n b hb; simpa using this), ver.frame hf (by simp; omega), hk, by simp; omega, n1⟩

theorem Cx.below {w w' : World} {p1 p2 p3 p4 p5 lb kb vb : Nat} {G : ByteArray → Option Nat} {E : ByteArray → ByteArray → Option Int} {V : ByteArray → Option Int} {K : ByteArray → Bool}
    (h : Cx w p1 p2 p3 p4 p5 lb kb vb G E V K) (hf : Frame [] w w') : Cx w' p1 p2 p3 p4 p5 lb kb vb G E V K :=
  h.frame (S := []) (hf.mono (by simp)) (h.lk.frame hf (by simp))

/-- While a block that is younger than the call turns. -/
theorem Cx.young {w0 w w' : World} {p1 p2 p3 p4 p5 lb kb vb : Nat} {G : ByteArray → Option Nat} {E : ByteArray → ByteArray → Option Int} {V : ByteArray → Option Int} {K0 K : ByteArray → Bool} {r : Nat}
    (h0 : Cx w0 p1 p2 p3 p4 p5 lb kb vb G E V K0) (h : Cx w p1 p2 p3 p4 p5 lb kb vb G E V K) (hf : Frame [r] w w') (hr : w0.heap.size ≤ r) : Cx w' p1 p2 p3 p4 p5 lb kb vb G E V K := by
  have l1 := block_lt_of_cell h0.c1
  have l2 := block_lt_of_cell h0.c2
  have l3 := block_lt_of_cell h0.c3
  have l4 := block_lt_of_cell h0.c4
  have l5 := block_lt_of_cell h0.c5
  have l6 := h0.lin.1.lt
  have l7 := h0.ver.lt
  have l8 := h0.lk.lt
  have l9 : ∀ n b, G n = some b → b < w0.heap.size := fun n b hb => (h0.lin.2.1 n b hb).lt
  simp at l1 l2 l3 l4 l5
  obtain ⟨c1, c2, c3, c4, c5, lin, ver, lk, n0, n1⟩ := h
  refine ⟨hf.cell c1 (by simp; omega), hf.cell c2 (by simp; omega), hf.cell c3 (by simp; omega), hf.cell c4 (by simp; omega), hf.cell c5 (by simp; omega), lin.frame hf (by simp; omega) (fun n b hb => by have := l9 n b hb; simp; omega), ver.frame hf (by simp; omega), lk.frame hf (by simp; omega), n0, n1⟩

/-- A way may end at z. -/
def Ends (V : ByteArray → Option Int) (z : ByteArray) : Prop := 0 < (V z).getD 0

/-- A block that was not there does not count. -/
theorem Frame.drop {S T : List Nat} {w w' : World} (h : Frame S w w') (hS : ∀ k ∈ S, k ∈ T ∨ w.heap.size ≤ k) : Frame T w w' :=
  ⟨h.os, h.tape, h.output, h.size, fun k hk hn => h.block k hk (fun hm => by rcases hS k hm with h1 | h1; exact hn h1; omega)⟩

theorem eql_nilFunc (w : World) : (binOp .eql 70 .nilFunc .nilFunc).run Try.prog w = .ok (.bool true) w := by kernel_rfl
theorem zero30 (w : World) : (zeroValue 30).run Try.prog w = .ok (.map none) w := by kernel_rfl
theorem zero40b (w : World) : (zeroValue 4).run Try.prog w = .ok (.bool false) w := by kernel_rfl
theorem zero24 (w : World) : (zeroValue 24).run Try.prog w = .ok (.int .u64 0) w := by kernel_rfl

set_option maxHeartbeats 1000000 in
set_option maxRecDepth 100000 in
theorem follows_none (p1 p2 p3 p4 p5 lb kb vb : Nat) (G : ByteArray → Option Nat) (E : ByteArray → ByteArray → Option Int) (V : ByteArray → Option Int) (K : ByteArray → Bool) (n : ByteArray) (q : Int) (w : World)
    (C : Cx w p1 p2 p3 p4 p5 lb kb vb G E V K) (hG : G n = none) :
    Calls Try.prog 41 #[.agg #[.string n, .int .u64 q], .pointer (some ⟨p1, 0, none⟩), .pointer (some ⟨p2, 0, none⟩), .pointer (some ⟨p3, 0, none⟩), .pointer (some ⟨p4, 0, none⟩), .pointer (some ⟨p5, 0, none⟩)] w fun e w' =>
      e = .returned (.bool false) ∧ Frame [] w w' := by
  obtain ⟨W1, hW1⟩ : ∃ W, w.alloc (.cells #[.string n, .int .u64 q] 34) = W := ⟨_, rfl⟩
  have b1 : Below w.heap.size w W1 := by rw [← hW1]; exact (Below.refl _ _).alloc (Nat.le_refl _) _
  have F1 : Frame [] w W1 := Frame.of_below b1
  have C1 := C.below F1
  have c1 := C1.c1
  have d0 : W1.cell? ⟨w.heap.size, 0, none⟩ = some (.string n) := by rw [← hW1]; exact cell_of_row _ _ 0 _ 34 (0, 0) (heap_alloc_new w _)
  have d1 : W1.cell? ⟨w.heap.size, 1, none⟩ = some (.int .u64 q) := by rw [← hW1]; exact cell_of_row _ _ 1 _ 34 (0, 0) (heap_alloc_new w _)
  have hlk := C1.lin.1.lookup (P := Try.prog) (t := 28) Try.underlying28 Try.underlying9 (zero30 W1) n
  rw [hG] at hlk
  simp only [Option.map_none, Option.getD_none] at hlk
  go_enter Try.func41, Try.ntmps41
  have hrg := run_range_nilMap (P := Try.prog) W1 30 9 24 Try.underlying30
  have hnx := fun ty => run_next_nilMap (P := Try.prog) W1 ty
  go_wp2_with fail
  refine wp_loop_rounds 1 ?_
  rw [rounds_succ]
  go_wp2
  go_ret
  exact ⟨rfl, F1.trans (Frame.of_below ((Below.refl _ _).alloc (Nat.le_refl _) _))⟩

/-- What the closure leaves. -/
def FolPost (w : World) (p1 p2 p3 p4 p5 lb kb vb : Nat) (G : ByteArray → Option Nat) (E : ByteArray → ByteArray → Option Int) (V : ByteArray → Option Int) (K : ByteArray → Bool) (d : ByteArray × Int) (e : Ending) (w' : World) : Prop :=
  ∃ (b : Bool) (K' : ByteArray → Bool), e = .returned (.bool b) ∧ Frame [kb] w w' ∧ MapOf w' kb (setF K') ∧ (∀ y, K y = true → K' y = true) ∧
    (b = true → Reach E (Ends V) d) ∧
    (b = false → Good E K' d ∧ ∀ y, K' y = true → K y = true ∨ (¬ Ends V y ∧ Good E K' (y, 1)))

set_option maxHeartbeats 2000000 in
set_option maxRecDepth 100000 in
theorem follows_some (p1 p2 p3 p4 p5 lb kb vb : Nat) (G : ByteArray → Option Nat) (E : ByteArray → ByteArray → Option Int) (V : ByteArray → Option Int) (K : ByteArray → Bool) (n : ByteArray) (q : Int) (w : World)
    (C : Cx w p1 p2 p3 p4 p5 lb kb vb G E V K) (ib : Nat) (hG : G n = some ib) (hq : 0 ≤ q)
    (ih : ∀ z s W K1, E n z = some s → K z = false → (∀ y, K y = true → K1 y = true) → K1 z = true → Cx W p1 p2 p3 p4 p5 lb kb vb G E V K1 →
      Calls Try.prog 41 #[.agg #[.string z, .int .u64 1], .pointer (some ⟨p1, 0, none⟩), .pointer (some ⟨p2, 0, none⟩), .pointer (some ⟨p3, 0, none⟩), .pointer (some ⟨p4, 0, none⟩), .pointer (some ⟨p5, 0, none⟩)] W (FolPost W p1 p2 p3 p4 p5 lb kb vb G E V K1 (z, 1))) :
    Calls Try.prog 41 #[.agg #[.string n, .int .u64 q], .pointer (some ⟨p1, 0, none⟩), .pointer (some ⟨p2, 0, none⟩), .pointer (some ⟨p3, 0, none⟩), .pointer (some ⟨p4, 0, none⟩), .pointer (some ⟨p5, 0, none⟩)] w (FolPost w p1 p2 p3 p4 p5 lb kb vb G E V K (n, q)) := by
  have HIH : Hid _ := ih
  clear ih
  obtain ⟨W1, hW1⟩ : ∃ W, w.alloc (.cells #[.string n, .int .u64 q] 34) = W := ⟨_, rfl⟩
  have b1 : Below w.heap.size w W1 := by rw [← hW1]; exact (Below.refl _ _).alloc (Nat.le_refl _) _
  have F1 : Frame [] w W1 := Frame.of_below b1
  have C1 := C.below F1
  have c1 := C1.c1
  have d0 : W1.cell? ⟨w.heap.size, 0, none⟩ = some (.string n) := by rw [← hW1]; exact cell_of_row _ _ 0 _ 34 (0, 0) (heap_alloc_new w _)
  have d1 : W1.cell? ⟨w.heap.size, 1, none⟩ = some (.int .u64 q) := by rw [← hW1]; exact cell_of_row _ _ 1 _ 34 (0, 0) (heap_alloc_new w _)
  have hlk := C1.lin.1.lookup (P := Try.prog) (t := 28) Try.underlying28 Try.underlying9 (zero30 W1) n
  rw [hG] at hlk
  simp only [Option.map_some, Option.getD_some] at hlk
  obtain ⟨W2, cnt, hrg, hit, b2⟩ := Iter.start (C1.lin.2.1 n ib hG) (P := Try.prog) (t := 30) Try.underlying30
  have F2 : Frame [] W1 W2 := Frame.of_below b2
  have C2 := C1.below F2
  have d12 := F2.cell d1 (by simp)
  obtain ⟨r, hr⟩ : ∃ r, r = W1.heap.size := ⟨_, rfl⟩
  rw [← hr] at hrg hit
  have hkb := C.lk.lt
  have hrk : r ≠ kb := by have := b1.size; omega
  have hdk : w.heap.size ≠ kb := by omega
  have hsz1 : W1.heap.size = w.heap.size + 1 := by rw [← hW1]; simp
  have hdr : w.heap.size < r := by omega
  clear hsz1
  have hir : ib ≠ r := by
    rintro rfl
    obtain ⟨es, clock, since, seen, c0, h1, h2, _⟩ := hit
    rw [h1] at h2
    cases h2
  have hik : ib ≠ kb := C.n1 n ib hG
  clear hr
  go_enter Try.func41, Try.ntmps41
  go_wp2_with fail
  go_loopg [8] cnt (fun gk v8 wr => ∃ K1 done, Hid (Iter wr r ib (fun z => (E n z).map (Value.int .u64)) done gk) ∧ Hid (Cx wr p1 p2 p3 p4 p5 lb kb vb G E V K1) ∧ Hid (Frame [kb, r] W2 wr) ∧ Hid (∀ y, K y = true → K1 y = true) ∧
    Hid (∀ z s, done z → E n z = some s → q ≤ s → K1 z = true) ∧ Hid (∀ y, K1 y = true → K y = true ∨ (¬ Ends V y ∧ Good E K1 (y, 1))))
  case atStart => exact ⟨K, fun _ => False, hit, C2, Frame.refl _ _, fun y h => h, fun z s h => h.elim, fun y h => .inl h⟩
  case round =>
    obtain ⟨K1, done, HI, HC, HF, HK, HD, HG⟩ := hrel
    rcases HI.out.next (P := Try.prog) 0 with ⟨hc0, hnx⟩ | ⟨z, v, W3, cnt3, hz, hnd, hlt, hnx, hit3, F3, hen⟩
    · go_wp2
      go_ret
      have hF : Frame [kb] w wr := ((F1.mono (by simp)).trans ((F2.mono (by simp)).trans HF.out)).drop (fun k hk => by simp at hk; simp; omega)
      refine ⟨false, K1, rfl, hF, HC.out.lk, HK.out, (fun h => by cases h), fun _ => ⟨fun z s h1 h2 => ?_, HG.out⟩⟩
      have hi := HI.out
      rw [hc0] at hi
      exact HD.out z s (hi.over z (.int .u64 s) (by simp only [h1, Option.map_some])) h1 h2
    · obtain ⟨s, hEs, hvs⟩ := Option.map_eq_some_iff.1 hz
      subst hvs
      have HZ : Hid _ := hEs
      have C3 : Cx W3 p1 p2 p3 p4 p5 lb kb vb G E V K1 := C.young HC.out F3 (by omega)
      have e2 := C3.c2
      have e3 := C3.c3
      have e4 := C3.c4
      have e5 := C3.c5
      have hF3 : Frame [kb, r] W2 W3 := HF.out.trans (F3.mono (by simp))
      have g1 := hF3.cell d12 (by simp; omega)
      have hlk1 := C3.lk.lookup (P := Try.prog) (t := 40) Try.underlying40 Try.underlying9 (zero40b W3) z
      clear hz hEs hnd
      by_cases hqs : s < q
      · go_wp2
        go_roundg cnt3
        case measure => exact hlt
        case rel =>
          refine ⟨K1, _, hit3, C3, hF3, HK.out, ?_, HG.out⟩
          rintro y t (hd | rfl) h1 h2
          · exact HD.out y t hd h1 h2
          · rw [HZ.out] at h1
            cases h1
            omega
      · cases hKz : K1 z with
        | true =>
          have hl : (setF K1 z).getD (.bool false) = .bool true := by simp [setF, hKz]
          rw [hl] at hlk1
          have HKZ : Hid _ := hKz
          clear hKz hl
          go_wp2
          go_roundg cnt3
          case measure => exact hlt
          case rel =>
            refine ⟨K1, _, hit3, C3, hF3, HK.out, ?_, HG.out⟩
            rintro y t (hd | rfl) h1 h2
            · exact HD.out y t hd h1 h2
            · exact HKZ.out
        | false =>
          have hl : (setF K1 z).getD (.bool false) = .bool false := by simp [setF, hKz]
          rw [hl] at hlk1
          have HKZ : Hid _ := hKz
          clear hKz hl
          obtain ⟨W4, hup, hlk4, F4⟩ := C3.lk.update (P := Try.prog) (t := 40) Try.underlying40 Try.underlying9 z (.bool true)
          rw [setF_put] at hlk4
          have C4 := C3.frame (S := []) F4 hlk4
          have a2 := C4.c2
          have a3 := C4.c3
          have a4 := C4.c4
          have a5 := C4.c5
          have hvl := C4.ver.lookup (P := Try.prog) (t := 31) Try.underlying31 Try.underlying9 (zero24 W4) z
          have hx : ((V z).map (Value.int .u64)).getD (.int .u64 0) = .int .u64 ((V z).getD 0) := by cases V z <;> rfl
          rw [hx] at hvl
          obtain ⟨x, hxd⟩ : ∃ x, x = (V z).getD 0 := ⟨_, rfl⟩
          rw [← hxd] at hvl
          have HX : Hid _ := hxd
          have hF4 : Frame [kb, r] W2 W4 := hF3.trans (F4.mono (by simp))
          have hK1 : ∀ y, K1 y = true → (K1 y || decide (y = z)) = true := fun y h => by rw [h]; rfl
          clear hx hxd
          have hqs2 : q ≤ s := by omega
          by_cases hx0 : 0 < x
          · have hnf := eql_nilFunc W4
            go_wp2
            go_ret
            have hF : Frame [kb] w W4 := ((F1.mono (by simp)).trans ((F2.mono (by simp)).trans hF4)).drop (fun k hk => by simp at hk; simp; omega)
            refine ⟨true, _, rfl, hF, hlk4, fun y h => hK1 y (HK.out y h), fun _ => Reach.step HZ.out hqs2 (.inl ?_), fun h => by cases h⟩
            show 0 < (V z).getD 0
            rw [← HX.out]
            exact hx0
          · have hnE : ¬ Ends V z := fun h => hx0 (by rw [HX.out]; exact h)
            go_wp2_with fail
            refine Calls.mono (HIH.out z s W4 _ HZ.out (by
              cases h : K z with
              | false => rfl
              | true => rw [HK.out z h] at HKZ; exact absurd HKZ.out (by simp)) (fun y h => hK1 y (HK.out y h)) (by simp) C4) ?_
            rintro e W5 ⟨b, K5, rfl, F5, hlk5, hK5, hbt, hbf⟩
            have C5 := C4.frame (S := []) F5 hlk5
            have hF5 : Frame [kb, r] W2 W5 := hF4.trans (F5.mono (by simp))
            cases b with
            | true =>
              have HBT : Hid _ := hbt rfl
              clear hbt hbf
              go_wp2
              go_ret
              have hF : Frame [kb] w W5 := ((F1.mono (by simp)).trans ((F2.mono (by simp)).trans hF5)).drop (fun k hk => by simp at hk; simp; omega)
              exact ⟨true, K5, rfl, hF, hlk5, fun y h => hK5 y (hK1 y (HK.out y h)), fun _ => Reach.step HZ.out hqs2 (.inr HBT.out), fun h => by cases h⟩
            | false =>
              obtain ⟨hgd, hgk⟩ := hbf rfl
              have HGD : Hid _ := hgd
              have HGK : Hid _ := hgk
              have HK5 : Hid _ := hK5
              have hit5 := (hit3.frame F4 (by simp; omega) (by simp; omega)).frame F5 (by simp; omega) (by simp; omega)
              clear hgd hgk hbt hbf hK5
              go_wp2
              go_roundg cnt3
              case measure => exact hlt
              case rel =>
                refine ⟨K5, _, hit5, C5, hF5, fun y h => HK5.out y (hK1 y (HK.out y h)), ?_, ?_⟩
                · rintro y t (hd | rfl) h1 h2
                  · exact HK5.out y (hK1 y (HD.out y t hd h1 h2))
                  · exact HK5.out y (by simp)
                · intro y hy
                  rcases HGK.out y hy with h | h
                  · rw [Bool.or_eq_true, decide_eq_true_eq] at h
                    rcases h with h | rfl
                    · rcases HG.out y h with h | ⟨h1, h2⟩
                      · exact .inl h
                      · exact .inr ⟨h1, h2.mono (fun u hu => HK5.out u (hK1 u hu))⟩
                    · exact .inr ⟨hnE, HGD.out⟩
                  · exact .inr h

end Go.Proofs.Qxb6614579a

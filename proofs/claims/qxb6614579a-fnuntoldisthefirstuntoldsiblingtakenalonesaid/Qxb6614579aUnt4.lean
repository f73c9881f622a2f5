import Derived.Test.Qxb6614579aUnt3
namespace Go.Proofs.Qxb6614579a
open Go.RowKit
set_option linter.unusedVariables false

theorem least_all {V : ByteArray → Option Int} {done : ByteArray → Prop} {q : ByteArray → Prop} {r : Option ByteArray} (h : Least (fun x => done x ∧ (V x ≠ none ∧ q x)) r) (hd : ∀ y, V y ≠ none → done y) : Least (fun x => V x ≠ none ∧ q x) r := by
  cases r with
  | none => exact fun k hk => h k ⟨hd k hk.1, hk⟩
  | some m => exact ⟨h.1.2, fun k hk => h.2 k ⟨hd k hk.1, hk⟩⟩

set_option maxHeartbeats 1000000 in
set_option maxRecDepth 100000 in
theorem untold_unc (lb vb p7 sb : Nat) (G : ByteArray → Option Nat) (E : ByteArray → ByteArray → Option Int) (V : ByteArray → Option Int) (U : List ByteArray) (kn : ByteArray → Bool) (n : ByteArray) (q : Int) (w : World) (H : LV w lb vb G E V U) (hq : 0 ≤ q) (hc : ¬ Covered E V (n, q))
    (hp : w.cell? ⟨p7, 0, none⟩ = some (.map (some sb))) (hs : MapOf w sb (setF kn)) (hsz : ∀ k, V k ≠ none → k.size ≤ maxLen) (hnz : n.size ≤ maxLen) :
    Calls Try.prog 42 #[.map (some lb), .map (some vb), .agg #[.string n, .int .u64 q], .func (.func 39) #[] #[.pointer (some ⟨p7, 0, none⟩)]] w fun e w' => ∃ r : Option ByteArray, e = .returned (.tuple #[dotOf r, .bool r.isSome]) ∧ Told E V kn (n, q) r ∧ Below w.heap.size w w' := by
  obtain ⟨W2, hW2⟩ : ∃ W, (w.alloc (.cells #[.string n, .int .u64 q] 34)).alloc (.cells #[.string ⟨#[]⟩, .int .u64 0] 34) = W := ⟨_, rfl⟩
  have b2 : Below w.heap.size w W2 := by rw [← hW2]; exact ((Below.refl _ _).alloc (Nat.le_refl _) _).alloc (by simp) _
  have r0 : W2.heap[w.heap.size]? = some (.cells #[.string n, .int .u64 q] 34 (0, 0)) := by
    rw [← hW2, Below.heap_alloc _ _ _ (by simp)]; exact heap_alloc_new w _
  have r1 : W2.heap[w.heap.size + 1]? = some (.cells #[.string ⟨#[]⟩, .int .u64 0] 34 (0, 0)) := by
    rw [← hW2]
    have := heap_alloc_new (w.alloc (.cells #[.string n, .int .u64 q] 34 (0, 0))) (.cells #[.string ⟨#[]⟩, .int .u64 0] 34 (0, 0))
    rwa [show (w.alloc (.cells #[.string n, .int .u64 q] 34 (0, 0))).heap.size = w.heap.size + 1 from by simp] at this
  have d0 : W2.cell? ⟨w.heap.size, 0, none⟩ = some (.string n) := cell_of_row _ _ 0 _ 34 (0, 0) r0
  have d1 : W2.cell? ⟨w.heap.size, 1, none⟩ = some (.int .u64 q) := cell_of_row _ _ 1 _ 34 (0, 0) r0
  have H2 := H.below (Frame.of_below b2)
  have HC : Hid _ := hc
  clear hc
  go_enter Try.func42, Try.ntmps42
  go_wp2_with fail
  refine (covers_any lb vb G E V U n q _ H2 hq).mono ?_
  rintro e W3 ⟨b, rfl, hb, b23⟩
  obtain rfl : b = false := by
    cases b with
    | false => rfl
    | true => exact absurd (hb.1 rfl) HC.out
  have F23 : Frame [] W2 W3 := Frame.of_below b23
  clear hb
  obtain ⟨W4, hW4⟩ : ∃ W, W3.alloc (.cells #[.string ⟨#[]⟩, .int .u64 0] 34) = W := ⟨_, rfl⟩
  have F34 : Frame [] W3 W4 := by rw [← hW4]; exact (Frame.refl _ _).alloc _
  have F24 := F23.trans F34
  have r4 : W4.heap[W3.heap.size]? = some (.cells (dotCells none) 34 (0, 0)) := by rw [← hW4]; exact heap_alloc_new W3 _
  have g0 := F24.cell d0 (by simp)
  have HN : Hid _ := nodeOf_any n W4 hnz
  go_wp2_with fail
  refine Calls.mono HN.out ?_
  clear HN
  rintro e W5 ⟨rfl, kd, hW5⟩
  have F45 : Frame [] W4 W5 := by rw [hW5]; exact (Frame.refl _ _).drewN _
  have F25 := F24.trans F45
  have F05 : Frame [] w W5 := (Frame.of_below b2).trans F25
  have r5 := F45.obj r4 (by simp)
  have H5 := H.below F05
  have o0 := F25.cell d0 (by simp)
  have o7 := F05.cell hp (by simp)
  have os := hs.frame F05 (by simp)
  obtain ⟨W6, cnt, hrg, hit, b56⟩ := Iter.start H5.ver (P := Try.prog) (t := 31) Try.underlying31
  have F56 : Frame [] W5 W6 := Frame.of_below b56
  obtain ⟨fb, hfb⟩ : ∃ fb, fb = W3.heap.size := ⟨_, rfl⟩
  obtain ⟨r, hr⟩ : ∃ r, r = W5.heap.size := ⟨_, rfl⟩
  obtain ⟨nb, hnb⟩ : ∃ nb, nb = nodeB n := ⟨_, rfl⟩
  rw [← hr] at hrg hit
  rw [← hfb] at r5 ⊢
  rw [← hnb]
  clear hW5
  have hwr : w.heap.size + 1 < fb := by
    have := b23.size
    have h2 : W2.heap.size = w.heap.size + 1 + 1 := by rw [← hW2]; simp
    omega
  have hfr : fb < r := by
    have h2 : fb < W5.heap.size := (Array.getElem?_eq_some_iff.1 r5).1
    omega
  have lvb := H.ver.lt
  have lsb := hs.lt
  have lp7 := block_lt_of_cell hp
  simp at lp7
  have HNB : Hid _ := hnb
  clear hnb hfb hr
  go_wp2_with fail
  go_loopg [12] cnt (fun gk v12 wr => ∃ done best, Hid (Iter wr r vb (fun x => (V x).map (Value.int .u64)) done gk) ∧ Hid (wr.heap[fb]? = some (.cells (dotCells best) 34 (0, 0))) ∧ Hid (Least (fun x => done x ∧ (V x ≠ none ∧ Fits kn n x)) best) ∧ Hid (Frame [r, fb] W6 wr))
  case atStart => exact ⟨fun _ => False, none, hit, F56.obj r5 (by simp), fun k h => h.1, Frame.refl _ _⟩
  case round =>
    obtain ⟨done, best, HI, HR, HLe, HF⟩ := hrel
    rcases HI.out.next (P := Try.prog) 0 with ⟨hc0, hnx⟩ | ⟨k, v, W7, cnt7, hz, hnd, hlt, hnx, hit7, F7, hen⟩
    · obtain ⟨m, x, hdc⟩ : ∃ m x, dotCells best = #[.string m, .int .u64 x] := by cases best <;> exact ⟨_, _, rfl⟩
      have hR := HR.out
      rw [hdc] at hR
      have k0 : wr.cell? ⟨fb, 0, none⟩ = some (.string m) := cell_of_row _ _ 0 _ 34 (0, 0) hR
      have k1 : wr.cell? ⟨fb, 1, none⟩ = some (.int .u64 x) := cell_of_row _ _ 1 _ 34 (0, 0) hR
      have s1 := HF.out.obj (F56.obj (F25.obj r1 (by simp)) (by simp)) (by simp; omega)
      have q0 : wr.cell? ⟨w.heap.size + 1, 0, none⟩ = some (.string ⟨#[]⟩) := cell_of_row _ _ 0 _ 34 (0, 0) s1
      have q1 : wr.cell? ⟨w.heap.size + 1, 1, none⟩ = some (.int .u64 0) := cell_of_row _ _ 1 _ 34 (0, 0) s1
      have z0 : wr.frozen? ⟨w.heap.size + 1, 0, none⟩ = false := frozen_of_row _ _ 0 _ 34 s1
      have z1 : wr.frozen? ⟨w.heap.size + 1, 1, none⟩ = false := frozen_of_row _ _ 1 _ 34 s1
      have HDC : Hid _ := hdc
      clear hdc
      go_wp2_with fail
      go_region
      all_goals
        go_wp2
        have g1 := heap_setCell_same wr.drew (w.heap.size + 1) 0 _ 34 (.string m) s1
        have g2 := heap_setCell_same _ (w.heap.size + 1) 1 _ 34 (.int .u64 x) g1
        refine bodyPost_ret (results_dot rfl _ _ (w.heap.size + 1) _ _ rfl g2) rfl ?_
        have hFw : Frame [r, fb] w wr := (((F05.mono (by simp)).trans (F56.mono (by simp))).trans HF.out)
        have hB : Below w.heap.size w wr := hFw.below (Nat.le_refl _) (fun k hk => by simp at hk; omega)
        have hi := HI.out
        rw [hc0] at hi
        have hT : Told E V kn (n, q) best := .inr ⟨HC.out, least_all HLe.out (fun y hy => by
          cases hv : V y with
          | none => exact absurd hv hy
          | some t => exact hi.over y (.int .u64 t) (by simp only [hv, Option.map_some]))⟩
        refine ⟨best, ?_, hT, ?_⟩
        · have hd := HDC.out
          cases best with
          | none => simp [dotCells] at hd; obtain ⟨rfl, rfl⟩ := hd; rfl
          | some b => simp [dotCells] at hd; obtain ⟨rfl, rfl⟩ := hd; rfl
        · exact (hB.drew.setCell (by simp) _).setCell (by simp) _
    · obtain ⟨t, hVt, hvt⟩ := Option.map_eq_some_iff.1 hz
      subst hvt
      have HV : Hid _ := hVt
      have hks : k.size ≤ maxLen := hsz k (by rw [hVt]; simp)
      clear hz hVt hnd
      have F67 : Frame [r, fb] W6 W7 := HF.out.trans (F7.mono (by simp))
      have F07 : Frame [r, fb] w W7 := ((F05.mono (by simp)).trans (F56.mono (by simp))).trans F67
      have a0 := F67.cell (F56.cell o0 (by simp)) (by simp; omega)
      have a7 := F07.cell hp (by simp; omega)
      have as7 := hs.frame F07 (by simp; omega)
      have hR7 := F7.obj HR.out (by simp; omega)
      by_cases hkn : k = n
      · subst hkn
        go_wp2
        go_roundg cnt7
        case measure => exact hlt
        case rel => exact ⟨_, best, hit7, hR7, least_skip HLe.out (fun h => h.2.1 rfl), F67⟩
      · have hbn : (k.toList == n.toList) = false := by
          cases h : (k.toList == n.toList) with
          | false => rfl
          | true =>
            have e := eq_of_beq h
            rw [Go.ByteArray.toList_eq, Go.ByteArray.toList_eq] at e
            exact absurd (WideShapes.bytes_inj e) hkn
        have HN7 : Hid _ := nodeOf_any k W7 hks
        go_wp2_with fail
        refine Calls.mono HN7.out ?_
        clear HN7
        rintro e W8 ⟨rfl, kd8, hW8⟩
        have F78 : Frame [] W7 W8 := by rw [hW8]; exact (Frame.refl _ _).drewN _
        have F68 : Frame [r, fb] W6 W8 := F67.trans (F78.mono (by simp))
        have it8 := hit7.frame F78 (by simp) (by simp)
        have hR8 := F78.obj hR7 (by simp)
        have a78 := F78.cell a7 (by simp)
        have as8 := as7.frame F78 (by simp)
        clear hW8 a0 a7 as7 hR7 hnx hen
        by_cases hnd : nodeB k = nb
        · rw [hnd]
          have HND : Hid _ := hnd
          clear hnd
          have HK : Hid _ := knows_any p7 sb kn k W8 a78 as8
          go_wp2_with fail
          refine Calls.mono HK.out ?_
          clear HK
          rintro e W9 ⟨rfl, hww⟩
          have hw2 := hww.symm
          subst hw2
          cases hkk : kn k with
          | true =>
            have HKK : Hid _ := hkk
            clear hkk
            go_wp2
            go_roundg cnt7
            case measure => exact hlt
            case rel => exact ⟨_, best, it8, hR8, least_skip HLe.out (fun h => by have h2 := h.2.2.2; rw [HKK.out] at h2; cases h2), F68⟩
          | false =>
            have HFIT : Hid (V k ≠ none ∧ Fits kn n k) := ⟨by rw [HV.out]; simp, hkn, by rw [HND.out, HNB.out], hkk⟩
            have z0 : W8.frozen? ⟨fb, 0, none⟩ = false := frozen_of_row _ _ 0 _ 34 hR8
            have z1 : W8.frozen? ⟨fb, 1, none⟩ = false := frozen_of_row _ _ 1 _ 34 hR8
            clear hkk
            cases best with
            | none =>
              have y0 : W8.cell? ⟨fb, 0, none⟩ = some (.string ⟨#[]⟩) := cell_of_row _ _ 0 _ 34 (0, 0) hR8
              have y1 : W8.cell? ⟨fb, 1, none⟩ = some (.int .u64 0) := cell_of_row _ _ 1 _ 34 (0, 0) hR8
              go_wp2
              go_roundg cnt7
              case measure => exact hlt
              case rel =>
                have g1 := heap_setCell_same W8 fb 0 _ 34 (.string k) hR8
                have g2 := heap_setCell_same _ fb 1 _ 34 (.int .u64 1) g1
                have FX : Frame [fb] W8 ((W8.setCell ⟨fb, 0, none⟩ (.string k)).setCell ⟨fb, 1, none⟩ (.int .u64 1)) := ((Frame.refl _ _).setCell (by simp) _).setCell (by simp) _
                exact ⟨_, some k, it8.frame FX (by simp; omega) (by simp; omega), g2, least_first HLe.out HFIT.out, F68.trans (FX.mono (by simp))⟩
            | some m =>
              have y0 : W8.cell? ⟨fb, 0, none⟩ = some (.string m) := cell_of_row _ _ 0 _ 34 (0, 0) hR8
              have y1 : W8.cell? ⟨fb, 1, none⟩ = some (.int .u64 1) := cell_of_row _ _ 1 _ 34 (0, 0) hR8
              cases hlm : Op.bytesLess k.toList m.toList with
              | true =>
                go_wp2
                go_roundg cnt7
                case measure => exact hlt
                case rel =>
                  have g1 := heap_setCell_same W8 fb 0 _ 34 (.string k) hR8
                  have g2 := heap_setCell_same _ fb 1 _ 34 (.int .u64 1) g1
                  have FX : Frame [fb] W8 ((W8.setCell ⟨fb, 0, none⟩ (.string k)).setCell ⟨fb, 1, none⟩ (.int .u64 1)) := ((Frame.refl _ _).setCell (by simp) _).setCell (by simp) _
                  exact ⟨_, some k, it8.frame FX (by simp; omega) (by simp; omega), g2, least_less HLe.out HFIT.out hlm, F68.trans (FX.mono (by simp))⟩
              | false =>
                go_wp2
                go_roundg cnt7
                case measure => exact hlt
                case rel => exact ⟨_, some m, it8, hR8, least_keep HLe.out hlm, F68⟩
        · obtain ⟨kb, hkb⟩ : ∃ kb, kb = nodeB k := ⟨_, rfl⟩
          rw [← hkb]
          have hbn2 : (kb.toList == nb.toList) = false := by
            cases h : (kb.toList == nb.toList) with
            | false => rfl
            | true =>
              have e := eq_of_beq h
              rw [Go.ByteArray.toList_eq, Go.ByteArray.toList_eq] at e
              exact absurd (hkb ▸ WideShapes.bytes_inj e) hnd
          have HND : Hid _ := hnd
          clear hnd hkb
          go_wp2
          go_roundg cnt7
          case measure => exact hlt
          case rel => exact ⟨_, best, it8, hR8, least_skip HLe.out (fun h => HND.out (by rw [HNB.out]; exact h.2.2.1)), F68⟩

end Go.Proofs.Qxb6614579a

import Derived.Test.Qxb6614579aLa
import Derived.Deep.CutBlock
import Derived.Deep.DeepCutAuto
namespace Go.Proofs.Qxb6614579a
open Go.RowKit
set_option linter.unusedVariables false

set_option maxHeartbeats 8000000 in
set_option maxRecDepth 100000 in
/-- The law. -/
theorem law_any (a0 a1 a2 a3 a4 a5 a6 a7 a8 a9 a10 a11 : Option Addr) (n0 n1 n2 n3 n4 n5 n6 n7 n8 n9 n10 n11 : Nat) (c0 c1 c2 c3 c4 c5 c6 c7 c8 c9 c10 c11 : Nat) (x0 x2 x4 x6 x8 x9 x11 : List ByteArray) (z1 z3 z5 z7 z10 : List Int) (w : World) (A0 : SArg w a0 n0 x0) (A1 : WArg w a1 n1 z1) (A2 : SArg w a2 n2 x2) (A3 : WArg w a3 n3 z3) (A4 : SArg w a4 n4 x4) (A5 : WArg w a5 n5 z5) (A6 : SArg w a6 n6 x6) (A7 : WArg w a7 n7 z7) (A8 : SArg w a8 n8 x8) (A9 : SArg w a9 n9 x9) (A10 : WArg w a10 n10 z10) (A11 : SArg w a11 n11 x11) :
    Calls Try.prog 7 #[.slice a0 n0 c0, .slice a1 n1 c1, .slice a2 n2 c2, .slice a3 n3 c3, .slice a4 n4 c4, .slice a5 n5 c5, .slice a6 n6 c6, .slice a7 n7 c7, .slice a8 n8 c8, .slice a9 n9 c9, .slice a10 n10 c10, .slice a11 n11 c11] w fun e w' => e = .returned (.bool true) ∧ Below w.heap.size w w' := by
  have HB : Hid _ := bytes_any a0 n0 c0 x0 a1 n1 c1 a2 n2 c2 x2 a3 n3 c3 a4 n4 c4 x4 a5 n5 c5 a6 n6 c6 x6 a7 n7 c7 a8 n8 c8 x8 a9 n9 c9 x9 a10 n10 c10 a11 n11 c11 x11 w A0.max A0.len A0.view A1.max A2.max A2.len A2.view A3.max A4.max A4.len A4.view A5.max A6.max A6.len A6.view A7.max A8.max A8.len A8.view A9.max A9.len A9.view A10.max A11.max A11.len A11.view
  go_enter Try.func7, Try.ntmps7
  go_wp2_with fail
  refine Calls.mono HB.out ?_
  clear HB
  rintro e w' ⟨b, rfl, hww⟩
  have hw2 := hww.symm
  subst hw2
  cases b with
  | false =>
    go_wp2
    go_ret
    exact ⟨rfl, Below.refl _ _⟩
  | true =>
    by_cases h0 : (4096 : Int) < (n0 : Int)
    · go_wp2
      go_ret
      exact ⟨rfl, Below.refl _ _⟩
    by_cases h1 : (4096 : Int) < (n1 : Int)
    · go_wp2
      go_ret
      exact ⟨rfl, Below.refl _ _⟩
    by_cases h2 : (4096 : Int) < (n2 : Int)
    · go_wp2
      go_ret
      exact ⟨rfl, Below.refl _ _⟩
    by_cases h3 : (4096 : Int) < (n3 : Int)
    · go_wp2
      go_ret
      exact ⟨rfl, Below.refl _ _⟩
    by_cases h4 : (4096 : Int) < (n4 : Int)
    · go_wp2
      go_ret
      exact ⟨rfl, Below.refl _ _⟩
    by_cases h5 : (4096 : Int) < (n5 : Int)
    · go_wp2
      go_ret
      exact ⟨rfl, Below.refl _ _⟩
    by_cases h6 : (4096 : Int) < (n6 : Int)
    · go_wp2
      go_ret
      exact ⟨rfl, Below.refl _ _⟩
    by_cases h7 : (4096 : Int) < (n7 : Int)
    · go_wp2
      go_ret
      exact ⟨rfl, Below.refl _ _⟩
    by_cases h8 : (4096 : Int) < (n8 : Int)
    · go_wp2
      go_ret
      exact ⟨rfl, Below.refl _ _⟩
    by_cases h9 : (4096 : Int) < (n9 : Int)
    · go_wp2
      go_ret
      exact ⟨rfl, Below.refl _ _⟩
    by_cases h10 : (4096 : Int) < (n10 : Int)
    · go_wp2
      go_ret
      exact ⟨rfl, Below.refl _ _⟩
    by_cases h11 : (4096 : Int) < (n11 : Int)
    · go_wp2
      go_ret
      exact ⟨rfl, Below.refl _ _⟩
    have HU : Hid _ := untoldBytes_any a0 n0 c0 x0 a1 n1 c1 a2 n2 c2 x2 a3 n3 c3 a4 n4 c4 x4 a5 n5 c5 a6 n6 c6 x6 a7 n7 c7 a8 n8 c8 x8 a9 n9 c9 x9 a10 n10 c10 a11 n11 c11 x11 w (by omega) A0.len A0.view (by omega) (by omega) A2.len A2.view (by omega) (by omega) A4.len A4.view (by omega) (by omega) A6.len A6.view (by omega) (by omega) A8.len A8.view (by omega) A9.len A9.view (by omega) (by omega) A11.len A11.view
    go_wp2_with fail
    refine Calls.mono HU.out ?_
    clear HU
    rintro e w' ⟨r, rfl, hr0, hr1, hww⟩
    have hw2 := hww.symm
    subst hw2
    by_cases hr : 1048576 < r
    · go_wp2
      go_ret
      exact ⟨rfl, Below.refl _ _⟩
    obtain ⟨cr, hcr⟩ : ∃ c, min n0 n1 = c := ⟨_, rfl⟩
    obtain ⟨dr, hdr⟩ : ∃ c, min n2 n3 = c := ⟨_, rfl⟩
    obtain ⟨co, hco⟩ : ∃ c, min n4 n5 = c := ⟨_, rfl⟩
    obtain ⟨dq, hdq⟩ : ∃ c, min n6 n7 = c := ⟨_, rfl⟩
    obtain ⟨ce, hce⟩ : ∃ c, min (min n8 n9) n10 = c := ⟨_, rfl⟩
    have HR1 : Hid _ := record_any a0 a1 a2 a3 n0 n1 n2 n3 c0 c1 c2 c3 x0 z1 x2 z3 cr dr w A0.len A1.len hcr (by omega) A0.view A1.view A2.len A3.len hdr (by omega) A2.view A3.view
    go_wp2_with fail
    refine Calls.mono HR1.out ?_
    clear HR1
    rintro e W1 ⟨vb1, g1, rfl, hvb1, hg1, M1, B1, b1⟩
    have F1 : Frame [] w W1 := Frame.of_below b1
    obtain ⟨W2, W3, p25, hW2, hp25, hW3, e0, e1, y0, y1, r25, F3⟩ := var2 W1 55 (.map none) (.slice none 0 0) (.map (some vb1)) (.slice (some ⟨g1, 0, none⟩) dr dr)
    have F03 := F1.trans F3
    have HR2 : Hid _ := record_any a4 a5 a6 a7 n4 n5 n6 n7 c4 c5 c6 c7 x4 z5 x6 z7 co dq W3 A4.len A5.len hco (by omega) (A4.view.below F03) (A5.view.below0 F03) A6.len A7.len hdq (by omega) (A6.view.below F03) (A7.view.below0 F03)
    go_wp2_with fail
    refine Calls.mono HR2.out ?_
    clear HR2 e0 e1 y0 y1 hW2 hW3
    rintro e W4 ⟨vb2, g2, rfl, hvb2, hg2, M2, B2, b4⟩
    have F4 : Frame [] W3 W4 := Frame.of_below b4
    obtain ⟨W5, W6, p26, hW5, hp26, hW6, e0, e1, y0, y1, r26, F6⟩ := var2 W4 55 (.map none) (.slice none 0 0) (.map (some vb2)) (.slice (some ⟨g2, 0, none⟩) dq dq)
    have F36 := F4.trans F6
    have F06 := F03.trans F36
    have HL : Hid _ := lineage_any a8 a9 a10 n8 n9 n10 c8 c9 c10 x8 x9 z10 ce W6 A8.len A9.len A10.len hce (by omega) (A8.view.below F06) (A9.view.below F06) (A10.view.below0 F06)
    go_wp2_with fail
    refine Calls.mono HL.out ?_
    clear HL e0 e1 y0 y1 hW5 hW6
    rintro e W7 ⟨lb, G, rfl, hlb, L7, b7⟩
    have F7 : Frame [] W6 W7 := Frame.of_below b7
    have F07 := F06.trans F7
    have HS : Hid _ := set_any a11 n11 c11 x11 W7 A11.len (by omega) (A11.view.below F07)
    go_wp2_with fail
    refine Calls.mono HS.out ?_
    clear HS
    rintro e W8 ⟨sb, rfl, hsb, K8, b8⟩
    have F8 : Frame [] W7 W8 := Frame.of_below b8
    have F08 := F07.trans F8
    have r258 := (F36.trans (F7.trans F8)).obj r25 (by simp)
    have r268 := (F7.trans F8).obj r26 (by simp)
    obtain ⟨V1, hV1⟩ : ∃ V, verF x0 z1 cr = V := ⟨_, rfl⟩
    obtain ⟨V2, hV2⟩ : ∃ V, verF x4 z5 co = V := ⟨_, rfl⟩
    obtain ⟨E, hE⟩ : ∃ E, edF x8 x9 z10 ce = E := ⟨_, rfl⟩
    obtain ⟨kn, hkn⟩ : ∃ k, knF x11 n11 = k := ⟨_, rfl⟩
    obtain ⟨ds1, hds1⟩ : ∃ d, (x2.zip z3).take dr = d := ⟨_, rfl⟩
    obtain ⟨ds2, hds2⟩ : ∃ d, (x6.zip z7).take dq = d := ⟨_, rfl⟩
    obtain ⟨T1, hT1⟩ := exists_told E V1 kn
    obtain ⟨T2, hT2⟩ := exists_told E V2 kn
    have LV1 : LV W8 lb vb1 G E V1 x9 := ⟨hE ▸ (L7.frame F8).lin, hV1 ▸ (M1.frame ((F3.trans F36).trans (F7.trans F8)) (by simp)), fun n z s h => edF_mem x8 x9 z10 n z s ce (by rw [A9.len]; omega) (hE ▸ h), hE ▸ L7.ne⟩
    have LV2 : LV W8 lb vb2 G E V2 x9 := ⟨hE ▸ (L7.frame F8).lin, hV2 ▸ (M2.frame (F6.trans (F7.trans F8)) (by simp)), fun n z s h => edF_mem x8 x9 z10 n z s ce (by rw [A9.len]; omega) (hE ▸ h), hE ▸ L7.ne⟩
    have S1 : Side W8 lb vb2 G E V2 x9 kn T2 (some ⟨g1, 0, none⟩) dr ds1 := ⟨LV2, hT2, hV2 ▸ ver_sz A4 z5 co (by omega), hds1 ▸ ds_len (by rw [A2.len]; omega) (by rw [A3.len]; omega), hds1 ▸ B1.below ((F3.trans F36).trans (F7.trans F8)), hds1 ▸ ds_ok A2 A3 (by omega) (by omega)⟩
    have S2 : Side W8 lb vb1 G E V1 x9 kn T1 (some ⟨g2, 0, none⟩) dq ds2 := ⟨LV1, hT1, hV1 ▸ ver_sz A0 z1 cr (by omega), hds2 ▸ ds_len (by rw [A6.len]; omega) (by rw [A7.len]; omega), hds2 ▸ B2.below (F6.trans (F7.trans F8)), hds2 ▸ ds_ok A6 A7 (by omega) (by omega)⟩
    have K8' : MapOf W8 sb (setF kn) := hkn ▸ K8
    obtain ⟨R, hR⟩ : ∃ R, R = orF (sideF T2 ds1 dr) (sideF T1 ds2 dq) := ⟨_, rfl⟩
    have HZ : Hid _ := zzUntold_any lb vb1 vb2 sb G E V1 V2 x9 kn T1 T2 (some ⟨g1, 0, none⟩) (some ⟨g2, 0, none⟩) dr dq dr dq ds1 ds2 W8 S1 S2 (by omega) (by omega) K8' R hR
    have HRR : Hid _ := hR
    clear hR
    have k0 : W8.cell? ⟨p25, 0, none⟩ = some (.map (some vb1)) := cell_of_row _ _ 0 _ 55 (0, 0) r258
    have k1 : W8.cell? ⟨p25, 1, none⟩ = some (.slice (some ⟨g1, 0, none⟩) dr dr) := cell_of_row _ _ 1 _ 55 (0, 0) r258
    have k2 : W8.cell? ⟨p26, 0, none⟩ = some (.map (some vb2)) := cell_of_row _ _ 0 _ 55 (0, 0) r268
    have k3 : W8.cell? ⟨p26, 1, none⟩ = some (.slice (some ⟨g2, 0, none⟩) dq dq) := cell_of_row _ _ 1 _ 55 (0, 0) r268
    go_wp2_with fail
    refine Calls.mono HZ.out ?_
    clear HZ
    rintro e W9 ⟨rfl, b9⟩
    have F9 : Frame [] W8 W9 := Frame.of_below b9
    obtain ⟨dm, dx, hd, hdc⟩ : ∃ m x, dotOf R = .agg #[.string m, .int .u64 x] ∧ dotCells R = #[.string m, .int .u64 x] := by cases R <;> exact ⟨_, _, rfl, rfl⟩
    obtain ⟨bR, hbR⟩ : ∃ b, R.isSome = b := ⟨_, rfl⟩
    rw [hd, hbR]
    have HDC : Hid _ := hdc
    have HBR : Hid _ := hbR
    clear hd hdc hbR k0 k1 k2 k3
    obtain ⟨W10, W11, p29, hW10, hp29, hW11, e0, e1, y0, y1, r29, F11⟩ := var2 W9 34 (.string ⟨#[]⟩) (.int .u64 0) (.string dm) (.int .u64 dx)
    obtain ⟨W12, W13, p31, hW12, hp31, hW13, i0, i1, j0, j1, r31, F13⟩ := var2 W11 55 (.map none) (.slice none 0 0) (.map (some vb1)) (.slice none 0 0)
    obtain ⟨W14, W15, p32, hW14, hp32, hW15, o0, o1, q0, q1, r32, F15⟩ := var2 W13 55 (.map none) (.slice none 0 0) (.map (some vb2)) (.slice none 0 0)
    obtain ⟨W16, hW16⟩ : ∃ W, W15.alloc (.cells #[.string ⟨#[]⟩, .int .u64 0] 34) = W := ⟨_, rfl⟩
    obtain ⟨p33, hp33⟩ : ∃ p, W15.heap.size = p := ⟨_, rfl⟩
    have F16 := fresh_frame hW16
    have r33 := fresh_row hW16
    rw [hp33] at r33
    have F811 := F9.trans F11
    have t0 : W11.cell? ⟨p25, 0, none⟩ = some (.map (some vb1)) := cell_of_row _ _ 0 _ 55 (0, 0) (F811.obj r258 (by simp))
    have t1 : W13.cell? ⟨p26, 0, none⟩ = some (.map (some vb2)) := cell_of_row _ _ 0 _ 55 (0, 0) ((F811.trans F13).obj r268 (by simp))
    go_upto_block 0 with fail
    have F816 : Frame [] W8 W16 := F811.trans (F13.trans (F15.trans F16))
    have R29 := (F13.trans (F15.trans F16)).obj r29 (by simp)
    have R31 := (F15.trans F16).obj r31 (by simp)
    have R32 := F16.obj r32 (by simp)
    have ne29 : p29 ≠ p33 := by
      have := (Array.getElem?_eq_some_iff.1 ((F13.trans F15).obj r29 (by simp))).1
      omega
    have ne31 : p31 ≠ p33 := by
      have := (Array.getElem?_eq_some_iff.1 (F15.obj r31 (by simp))).1
      omega
    have ne32 : p32 ≠ p33 := by
      have := (Array.getElem?_eq_some_iff.1 r32).1
      omega
    have hp8 : W8.heap.size ≤ p33 := by
      have := (F811.trans (F13.trans F15)).size
      omega
    have F0W := F08.size
    clear hW10 hW11 hW12 hW13 hW14 hW15 hW16 e0 e1 y0 y1 i0 i1 j0 j1 o0 o1 q0 q1 t0 t1 r29 r31 r32 F9 F11 F13 F15 F16 F811 hp29 hp31 hp32 hp33 hp25 hp26 b9 b8 b7 b4 b1 L7 K8 M1 M2 B1 B2 F1 F3 F4 F6 F7 F8 F36 r25 r26
    obtain ⟨X1, hX1⟩ : ∃ X, sideF T2 ds1 dr = X := ⟨_, rfl⟩
    have HX1 : Hid (orF none (sideF T2 ds1 dr) = X1) := hX1
    go_cut [34] (fun v wc => v = .bool X1.isSome ∧ Hid (wc.heap[p33]? = some (.cells (dotCells X1) 34 (0, 0))) ∧ Hid (Frame [p33] W16 wc))
    case first =>
      go_wp2_with fail
      go_loopw [34, 35] (fun v i wr => ∃ k : Nat, k ≤ dr ∧ i = .int .i64 k ∧ v = .bool (orF none (sideF T2 ds1 k)).isSome ∧ Hid (wr.heap[p33]? = some (.cells (dotCells (orF none (sideF T2 ds1 k))) 34 (0, 0))) ∧ Hid (Frame [p33] W16 wr)) (fun _ i _ => dr - (intOf i).toNat)
      case atStart => exact ⟨0, Nat.zero_le _, rfl, rfl, r33, Frame.refl _ _⟩
      case round =>
        obtain ⟨k, hk, rfl, rfl, HP, HF⟩ := hrel
        have F8r : Frame [] W8 wr := ((F816.mono (by simp)).trans HF.out).drop (fun k hk => by simp at hk; simp; omega)
        have w25 := F8r.obj r258 (by simp)
        have k0 : wr.cell? ⟨p25, 0, none⟩ = some (.map (some vb1)) := cell_of_row _ _ 0 _ 55 (0, 0) w25
        have k1 : wr.cell? ⟨p25, 1, none⟩ = some (.slice (some ⟨g1, 0, none⟩) dr dr) := cell_of_row _ _ 1 _ 55 (0, 0) w25
        by_cases hlt : k < dr
        · have hki : (k : Int) < (dr : Int) := by omega
          cases hx : orF none (sideF T2 ds1 k) with
          | some m =>
            have HM : Hid (X1 = some m) := by
              show X1 = some m
              rw [← HX1.out]
              exact acc_stays hx dr hk
            rw [hx] at HP
            clear hx
            go_wp2_with fail
            go_meet
            exact ⟨by rw [HM.out], by rw [HM.out]; exact HP, HF⟩
          | none =>
            rw [hx] at HP
            obtain ⟨d, hd⟩ : ∃ d, ds1.getD k (⟨#[]⟩, 0) = d := ⟨_, rfl⟩
            obtain ⟨x, hxx⟩ : ∃ x, T2 d = x := ⟨_, rfl⟩
            have HXS : Hid _ := acc_next hx hd hxx
            have hk1 : (k : Int) + 1 ≤ (dr : Int) := by omega
            obtain ⟨Wa, Wb, p36, hWa, hp36, hWb, e0, e1, y0, y1, r36, Fb⟩ := var2 wr 55 (.map none) (.slice none 0 0) (.map (some vb1)) (.slice (some ⟨g1, k * 7, none⟩) 1 (dr - k))
            have Fa := fresh_frame hWa
            have l0 := Fa.cell k0 (by simp)
            have l1 := Fa.cell k1 (by simp)
            have hwk : IntKind.i64.wrap ((k : Int) + 1) = (k : Int) + 1 := by rw [IntKind.wrap_i64]; omega
            have hk2 : (0 : Int) ≤ (k : Int) + 1 := by omega
            have hkt : ((k : Int) + 1).toNat = k + 1 := by omega
            have hdk : ¬ dr = k := by omega
            obtain ⟨Wc, hWc⟩ : ∃ W, Wb.drew = W := ⟨_, rfl⟩
            have Fc : Frame [] wr Wc := by rw [← hWc]; exact Fb.drew
            have r36c : Wc.heap[p36]? = some (.cells #[.map (some vb1), .slice (some ⟨g1, k * 7, none⟩) 1 (dr - k)] 55 (0, 0)) := by rw [← hWc]; exact row_drew r36
            have F8c := F8r.trans Fc
            have rBc := Fc.obj (HF.out.obj R32 (by simpa using ne32)) (by simp)
            have rPc := Fc.obj HP.out (by simp)
            have HZ : Hid _ := zzUntold_any lb vb1 vb2 sb G E V1 V2 x9 kn T1 T2 (some ⟨g1, k * 7, none⟩) none 1 0 (dr - k) 0 [d] [] Wc ((S1.below F8c).part k hlt d hd) (S2.below F8c).bare (by omega) (by omega) (K8'.frame F8c (by simp)) x (part_eq T2 T1 d x hxx)
            have s0 : Wc.cell? ⟨p36, 0, none⟩ = some (.map (some vb1)) := cell_of_row _ _ 0 _ 55 (0, 0) r36c
            have s1 : Wc.cell? ⟨p36, 1, none⟩ = some (.slice (some ⟨g1, k * 7, none⟩) 1 (dr - k)) := cell_of_row _ _ 1 _ 55 (0, 0) r36c
            have s2 : Wc.cell? ⟨p32, 0, none⟩ = some (.map (some vb2)) := cell_of_row _ _ 0 _ 55 (0, 0) rBc
            have s3 : Wc.cell? ⟨p32, 1, none⟩ = some (.slice none 0 0) := cell_of_row _ _ 1 _ 55 (0, 0) rBc
            have HF2 : Hid (Frame [p33] W16 Wc) := HF.out.trans (Fc.mono (by simp))
            clear hx hd hxx HP HF r36 r36c rBc
            go_wp2_with fail
            go_region
            clear hWa hWb e0 e1 y0 y1 l0 l1 hWc k0 k1 hp36
            go_wp2_with fail
            refine Calls.mono HZ.out ?_
            clear HZ s0 s1 s2 s3
            rintro e Wd ⟨rfl, bd⟩
            have Fd : Frame [] Wc Wd := Frame.of_below bd
            have rPd := Fd.obj rPc (by simp)
            have HF3 : Hid (Frame [p33] W16 Wd) := HF2.out.trans (Fd.mono (by simp))
            clear Fd rPc HF2 bd
            cases x with
            | none =>
              obtain ⟨We, Wf, p37, hWe, hp37, hWf, e0, e1, y0, y1, r37, Ff⟩ := var2 Wd 34 (.string ⟨#[]⟩) (.int .u64 0) (.string ⟨#[]⟩) (.int .u64 0)
              have hdo : dotOf none = .agg #[.string ⟨#[]⟩, .int .u64 0] := rfl
              rw [hdo]
              clear hdo
              go_wp2
              go_roundw
              case rel => exact ⟨k + 1, by omega, by go_num, by rw [HXS.out]; rfl, by rw [HXS.out]; exact Ff.obj rPd (by simp), HF3.out.trans (Ff.mono (by simp))⟩
              case measure => simp [intOf]; omega
            | some m =>
              obtain ⟨We, Wf, p37, hWe, hp37, hWf, e0, e1, y0, y1, r37, Ff⟩ := var2 Wd 34 (.string ⟨#[]⟩) (.int .u64 0) (.string m) (.int .u64 1)
              have hdo : dotOf (some m) = .agg #[.string m, .int .u64 1] := rfl
              rw [hdo]
              clear hdo
              have j0 : Wf.cell? ⟨p37, 0, none⟩ = some (.string m) := cell_of_row _ _ 0 _ 34 (0, 0) r37
              have j1 : Wf.cell? ⟨p37, 1, none⟩ = some (.int .u64 1) := cell_of_row _ _ 1 _ 34 (0, 0) r37
              have rPf := Ff.obj rPd (by simp)
              have o0 : Wf.cell? ⟨p33, 0, none⟩ = some (.string ⟨#[]⟩) := cell_of_row _ _ 0 _ 34 (0, 0) rPf
              have o1 : Wf.cell? ⟨p33, 1, none⟩ = some (.int .u64 0) := cell_of_row _ _ 1 _ 34 (0, 0) rPf
              have q0 : Wf.frozen? ⟨p33, 0, none⟩ = false := frozen_of_row _ _ 0 _ 34 rPf
              have q1 : Wf.frozen? ⟨p33, 1, none⟩ = false := frozen_of_row _ _ 1 _ 34 rPf
              go_wp2
              go_roundw
              case rel =>
                have g1' := heap_setCell_same Wf p33 0 _ 34 (.string m) rPf
                have g2' := heap_setCell_same _ p33 1 _ 34 (.int .u64 1) g1'
                refine ⟨k + 1, by omega, by go_num, by rw [HXS.out]; rfl, by rw [HXS.out]; exact g2', ?_⟩
                exact (HF3.out.trans (Ff.mono (by simp))).trans (((Frame.refl _ _).setCell (by simp) _).setCell (by simp) _)
              case measure => simp [intOf]; omega
        · obtain rfl : k = dr := by omega
          have hki : ¬ (k : Int) < (k : Int) := by omega
          rw [HX1.out] at HP ⊢
          go_wp2_with fail
          go_meet
          exact ⟨rfl, HP, HF⟩
    case rest =>
      obtain ⟨rfl, HP, HF⟩ := hcut
      go_upto_block 2 with fail
      have HX2 : Hid (orF X1 (sideF T1 ds2 dq) = R) := by
        show orF X1 (sideF T1 ds2 dq) = R
        rw [HRR.out, hX1]
      have h0' : orF X1 (sideF T1 ds2 0) = X1 := by cases X1 <;> rfl
      have HH0 : Hid _ := h0'
      clear h0'
      go_cut [34] (fun v wc => v = .bool R.isSome ∧ Hid (wc.heap[p33]? = some (.cells (dotCells R) 34 (0, 0))) ∧ Hid (Frame [p33] W16 wc))
      case first =>
        go_wp2_with fail
        go_loopw [34, 39] (fun v i wr => ∃ k : Nat, k ≤ dq ∧ i = .int .i64 k ∧ v = .bool (orF X1 (sideF T1 ds2 k)).isSome ∧ Hid (wr.heap[p33]? = some (.cells (dotCells (orF X1 (sideF T1 ds2 k))) 34 (0, 0))) ∧ Hid (Frame [p33] W16 wr)) (fun _ i _ => dq - (intOf i).toNat)
        case atStart => exact ⟨0, Nat.zero_le _, rfl, by rw [HH0.out], by rw [HH0.out]; exact HP, HF⟩
        case round =>
          obtain ⟨k, hk, rfl, rfl, HP, HF⟩ := hrel
          have F8r : Frame [] W8 wr := ((F816.mono (by simp)).trans HF.out).drop (fun k hk => by simp at hk; simp; omega)
          have w25 := F8r.obj r268 (by simp)
          have k0 : wr.cell? ⟨p26, 0, none⟩ = some (.map (some vb2)) := cell_of_row _ _ 0 _ 55 (0, 0) w25
          have k1 : wr.cell? ⟨p26, 1, none⟩ = some (.slice (some ⟨g2, 0, none⟩) dq dq) := cell_of_row _ _ 1 _ 55 (0, 0) w25
          by_cases hlt : k < dq
          · have hki : (k : Int) < (dq : Int) := by omega
            cases hx : orF X1 (sideF T1 ds2 k) with
            | some m =>
              have HM : Hid (R = some m) := by
                show R = some m
                rw [← HX2.out]
                exact acc_stays hx dq hk
              rw [hx] at HP
              clear hx
              go_wp2_with fail
              go_meet
              exact ⟨by rw [HM.out], by rw [HM.out]; exact HP, HF⟩
            | none =>
              rw [hx] at HP
              obtain ⟨d, hd⟩ : ∃ d, ds2.getD k (⟨#[]⟩, 0) = d := ⟨_, rfl⟩
              obtain ⟨x, hxx⟩ : ∃ x, T1 d = x := ⟨_, rfl⟩
              have HXS : Hid _ := acc_next hx hd hxx
              have hk1 : (k : Int) + 1 ≤ (dq : Int) := by omega
              obtain ⟨Wa, Wb, p36, hWa, hp36, hWb, e0, e1, y0, y1, r36, Fb⟩ := var2 wr 55 (.map none) (.slice none 0 0) (.map (some vb2)) (.slice (some ⟨g2, k * 7, none⟩) 1 (dq - k))
              have Fa := fresh_frame hWa
              have l0 := Fa.cell k0 (by simp)
              have l1 := Fa.cell k1 (by simp)
              have hwk : IntKind.i64.wrap ((k : Int) + 1) = (k : Int) + 1 := by rw [IntKind.wrap_i64]; omega
              have hk2 : (0 : Int) ≤ (k : Int) + 1 := by omega
              have hkt : ((k : Int) + 1).toNat = k + 1 := by omega
              have hdk : ¬ dq = k := by omega
              obtain ⟨Wc, hWc⟩ : ∃ W, Wb.drew = W := ⟨_, rfl⟩
              have Fc : Frame [] wr Wc := by rw [← hWc]; exact Fb.drew
              have r36c : Wc.heap[p36]? = some (.cells #[.map (some vb2), .slice (some ⟨g2, k * 7, none⟩) 1 (dq - k)] 55 (0, 0)) := by rw [← hWc]; exact row_drew r36
              have F8c := F8r.trans Fc
              have rBc := Fc.obj (HF.out.obj R31 (by simpa using ne31)) (by simp)
              have rPc := Fc.obj HP.out (by simp)
              have HZ : Hid _ := zzUntold_any lb vb2 vb1 sb G E V2 V1 x9 kn T2 T1 (some ⟨g2, k * 7, none⟩) none 1 0 (dq - k) 0 [d] [] Wc ((S2.below F8c).part k hlt d hd) (S1.below F8c).bare (by omega) (by omega) (K8'.frame F8c (by simp)) x (part_eq T1 T2 d x hxx)
              have s0 : Wc.cell? ⟨p36, 0, none⟩ = some (.map (some vb2)) := cell_of_row _ _ 0 _ 55 (0, 0) r36c
              have s1 : Wc.cell? ⟨p36, 1, none⟩ = some (.slice (some ⟨g2, k * 7, none⟩) 1 (dq - k)) := cell_of_row _ _ 1 _ 55 (0, 0) r36c
              have s2 : Wc.cell? ⟨p31, 0, none⟩ = some (.map (some vb1)) := cell_of_row _ _ 0 _ 55 (0, 0) rBc
              have s3 : Wc.cell? ⟨p31, 1, none⟩ = some (.slice none 0 0) := cell_of_row _ _ 1 _ 55 (0, 0) rBc
              have HF2 : Hid (Frame [p33] W16 Wc) := HF.out.trans (Fc.mono (by simp))
              clear hx hd hxx HP HF r36 r36c rBc
              go_wp2_with fail
              go_region
              clear hWa hWb e0 e1 y0 y1 l0 l1 hWc k0 k1 hp36
              go_wp2_with fail
              refine Calls.mono HZ.out ?_
              clear HZ s0 s1 s2 s3
              rintro e Wd ⟨rfl, bd⟩
              have Fd : Frame [] Wc Wd := Frame.of_below bd
              have rPd := Fd.obj rPc (by simp)
              have HF3 : Hid (Frame [p33] W16 Wd) := HF2.out.trans (Fd.mono (by simp))
              clear Fd rPc HF2 bd
              cases x with
              | none =>
                obtain ⟨We, Wf, p37, hWe, hp37, hWf, e0, e1, y0, y1, r37, Ff⟩ := var2 Wd 34 (.string ⟨#[]⟩) (.int .u64 0) (.string ⟨#[]⟩) (.int .u64 0)
                have hdo : dotOf none = .agg #[.string ⟨#[]⟩, .int .u64 0] := rfl
                rw [hdo]
                clear hdo
                go_wp2
                go_roundw
                case rel => exact ⟨k + 1, by omega, by go_num, by rw [HXS.out]; rfl, by rw [HXS.out]; exact Ff.obj rPd (by simp), HF3.out.trans (Ff.mono (by simp))⟩
                case measure => simp [intOf]; omega
              | some m =>
                obtain ⟨We, Wf, p37, hWe, hp37, hWf, e0, e1, y0, y1, r37, Ff⟩ := var2 Wd 34 (.string ⟨#[]⟩) (.int .u64 0) (.string m) (.int .u64 1)
                have hdo : dotOf (some m) = .agg #[.string m, .int .u64 1] := rfl
                rw [hdo]
                clear hdo
                have j0 : Wf.cell? ⟨p37, 0, none⟩ = some (.string m) := cell_of_row _ _ 0 _ 34 (0, 0) r37
                have j1 : Wf.cell? ⟨p37, 1, none⟩ = some (.int .u64 1) := cell_of_row _ _ 1 _ 34 (0, 0) r37
                have rPf := Ff.obj rPd (by simp)
                have o0 : Wf.cell? ⟨p33, 0, none⟩ = some (.string ⟨#[]⟩) := cell_of_row _ _ 0 _ 34 (0, 0) rPf
                have o1 : Wf.cell? ⟨p33, 1, none⟩ = some (.int .u64 0) := cell_of_row _ _ 1 _ 34 (0, 0) rPf
                have q0 : Wf.frozen? ⟨p33, 0, none⟩ = false := frozen_of_row _ _ 0 _ 34 rPf
                have q1 : Wf.frozen? ⟨p33, 1, none⟩ = false := frozen_of_row _ _ 1 _ 34 rPf
                go_wp2
                go_roundw
                case rel =>
                  have g1' := heap_setCell_same Wf p33 0 _ 34 (.string m) rPf
                  have g2' := heap_setCell_same _ p33 1 _ 34 (.int .u64 1) g1'
                  refine ⟨k + 1, by omega, by go_num, by rw [HXS.out]; rfl, by rw [HXS.out]; exact g2', ?_⟩
                  exact (HF3.out.trans (Ff.mono (by simp))).trans (((Frame.refl _ _).setCell (by simp) _).setCell (by simp) _)
                case measure => simp [intOf]; omega
          · obtain rfl : k = dq := by omega
            have hki : ¬ (k : Int) < (k : Int) := by omega
            rw [HX2.out] at HP ⊢
            go_wp2_with fail
            go_meet
            exact ⟨rfl, HP, HF⟩
      case rest =>
        obtain ⟨rfl, HP, HF⟩ := hcut
        have F8c : Frame [] W8 wc := ((F816.mono (by simp)).trans HF.out).drop (fun k hk => by simp at hk; simp; omega)
        have F0c := F08.trans F8c
        have w25 := F8c.obj r258 (by simp)
        have k1 : wc.cell? ⟨p25, 1, none⟩ = some (.slice (some ⟨g1, 0, none⟩) dr dr) := cell_of_row _ _ 1 _ 55 (0, 0) w25
        have w29 := HF.out.obj R29 (by simpa using ne29)
        have w33 := HP.out
        rw [HDC.out] at w33
        rw [HBR.out]
        have q0 : wc.cell? ⟨p29, 0, none⟩ = some (.string dm) := cell_of_row _ _ 0 _ 34 (0, 0) w29
        have q1 : wc.cell? ⟨p29, 1, none⟩ = some (.int .u64 dx) := cell_of_row _ _ 1 _ 34 (0, 0) w29
        have q2 : wc.cell? ⟨p33, 0, none⟩ = some (.string dm) := cell_of_row _ _ 0 _ 34 (0, 0) w33
        have q3 : wc.cell? ⟨p33, 1, none⟩ = some (.int .u64 dx) := cell_of_row _ _ 1 _ 34 (0, 0) w33
        clear w25 w29 w33 HP
        rcases dot_cases HDC.out HBR.out with ⟨hRc, rfl, rfl, rfl⟩ | ⟨m0, hRc, rfl, rfl, rfl⟩
        · have HRc : Hid _ := hRc
          clear hRc
          by_cases hd0 : (0 : Int) < (dr : Int)
          · obtain ⟨b, off, e, hcs⟩ := (S1.below F8c).sibs 0 (by rw [S1.len]; omega)
            simp at e
            obtain ⟨rfl, rfl⟩ := e
            obtain ⟨hsq, hdn⟩ := S1.ok 0 (by rw [S1.len]; omega)
            obtain ⟨dn, sq, hd⟩ : ∃ dn sq, ds1.getD 0 (⟨#[]⟩, 0) = (dn, sq) := ⟨_, _, rfl⟩
            rw [hd] at hcs hsq hdn
            simp only at hsq hdn
            have s0 : wc.cell? ⟨g1, 0, none⟩ = some (.string dn) := hcs 0 (by omega)
            have s1 : wc.cell? ⟨g1, 1, none⟩ = some (.int .u64 sq) := hcs 1 (by omega)
            obtain ⟨Wg, Wh, p46, hWg, hp46, hWh, e0, e1, y0, y1, r46, Fh⟩ := var2 wc 34 (.string ⟨#[]⟩) (.int .u64 0) (.string dn) (.int .u64 sq)
            have i0 : Wh.cell? ⟨p46, 0, none⟩ = some (.string dn) := cell_of_row _ _ 0 _ 34 (0, 0) r46
            have i1 : Wh.cell? ⟨p46, 1, none⟩ = some (.int .u64 sq) := cell_of_row _ _ 1 _ 34 (0, 0) r46
            have F0h := F0c.trans Fh
            have HD0 : Hid _ := hd
            obtain ⟨lk, hlk⟩ : ∃ x, (verF x4 z5 co dn).getD 0 = x := ⟨_, rfl⟩
            obtain ⟨hf, hhf⟩ : ∃ x, knF x8 ce dn = x := ⟨_, rfl⟩
            have HC1 : ∀ q, Calls Try.prog 25 #[.slice a4 n4 c4, .slice a5 n5 c5, .string dn] (Wh.drewN q) fun e w' => e = .returned (.int .u64 lk) ∧ w' = Wh.drewN q := fun q => hlk ▸ lookup_any a4 a5 n4 n5 c4 c5 x4 z5 dn co (Wh.drewN q) A4.len A5.len hco (by omega) ((A4.view.below F0h).below ((Frame.refl _ _).drewN _)) ((A5.view.below0 F0h).below0 ((Frame.refl _ _).drewN _))
            have HC2 : ∀ q, Calls Try.prog 31 #[.slice a8 n8 c8, .slice a9 n9 c9, .slice a10 n10 c10, .string dn] (Wh.drewN q) fun e w' => e = .returned (.bool hf) ∧ w' = Wh.drewN q := fun q => hhf ▸ hasFrom_is a8 a9 a10 n8 n9 n10 c8 c9 c10 x8 dn ce (Wh.drewN q) A8.len hce (by omega) ((A8.view.below F0h).below ((Frame.refl _ _).drewN _))
            have HH1 : Hid _ := HC1
            have HH2 : Hid _ := HC2
            have HLK : Hid _ := hlk
            have HHF : Hid _ := hhf
            have HLO : Hid (∀ q, Calls Try.prog 32 #[.slice a4 n4 c4, .slice a5 n5 c5, .string dn, .slice a11 n11 c11] (Wh.drewN q) (LoPost x4 (knF x11 n11) dn co (Wh.drewN q))) := fun q => leastOther_any a4 a5 a11 n4 n5 n11 c4 c5 c11 x4 x11 dn co (Wh.drewN q) A4.len hco (by omega) ((A4.view.below F0h).below ((Frame.refl _ _).drewN _)) A4.sz hdn A11.len (by omega) ((A11.view.below F0h).below ((Frame.refl _ _).drewN _))
            clear hd hcs hlk hhf HC1 HC2
            by_cases hl : lk < sq
            · cases hf with
              | true =>
                go_wp2_with fail
                go_quiet ((first | (go_at_call 25; exact Calls.quiet_of_same (HH1.out _)) | (go_at_call 31; exact Calls.quiet_of_same (HH2.out _))))
                have BW : Below w.heap.size w Wh := F0h.below (Nat.le_refl _) (by simp)
                go_wp2
                go_ret
                exact ⟨rfl, (F0h.drewN _).below (Nat.le_refl _) (by simp)⟩
              | false =>
                go_wp2_with fail
                go_quiet ((first | (go_at_call 25; exact Calls.quiet_of_same (HH1.out _)) | (go_at_call 31; exact Calls.quiet_of_same (HH2.out _))))
                go_wp2_with fail
                refine Calls.mono (HLO.out _) ?_
                clear HLO HH1 HH2 hWg hWh e0 e1 y0 y1 i0 i1 s0 s1
                rintro e Wi ⟨r, rfl, hL, hWi⟩
                have Fi : Frame [] Wh Wi := by rw [hWi]; exact (Frame.refl _ _).drewN _
                clear hWi
                cases r with
                | none =>
                  have BW : Below w.heap.size w Wi := (F0h.trans Fi).below (Nat.le_refl _) (by simp)
                  go_wp2
                  go_ret
                  exact ⟨rfl, BW⟩
                | some m =>
                  have hL2 : Least (fun x => V2 x ≠ none ∧ Fits kn dn x) (some m) := by
                    rw [← hV2, ← hkn]
                    exact least_congr hL (fun x => by rw [verF_some])
                  have HRm : Hid (R = some m) := by
                    show R = some m
                    rw [HRR.out, fixed_plain hT2 HD0.out (by omega : 0 < dr) (by rw [← hV2, HLK.out]; exact hl) (fun z => hE ▸ edF_none x8 x9 z10 dn z ce (knF_miss HHF.out)) hL2]
                    rfl
                  exact absurd HRm.out (by rw [HRc.out]; simp)
            · have hl2 : decide (lk < sq) = false := by simp; omega
              go_wp2_with fail
              go_quiet ((first | (go_at_call 25; exact Calls.quiet_of_same (HH1.out _)) | (go_at_call 31; exact Calls.quiet_of_same (HH2.out _))))
              have BW : Below w.heap.size w Wh := F0h.below (Nat.le_refl _) (by simp)
              go_wp2
              go_ret
              exact ⟨rfl, (F0h.drewN _).below (Nat.le_refl _) (by simp)⟩
          · have BW : Below w.heap.size w wc := F0c.below (Nat.le_refl _) (by simp)
            go_wp2
            go_ret
            exact ⟨rfl, BW⟩
        · have HRc : Hid _ := hRc
          clear hRc
          by_cases hd0 : (0 : Int) < (dr : Int)
          · obtain ⟨b, off, e, hcs⟩ := (S1.below F8c).sibs 0 (by rw [S1.len]; omega)
            simp at e
            obtain ⟨rfl, rfl⟩ := e
            obtain ⟨hsq, hdn⟩ := S1.ok 0 (by rw [S1.len]; omega)
            obtain ⟨dn, sq, hd⟩ : ∃ dn sq, ds1.getD 0 (⟨#[]⟩, 0) = (dn, sq) := ⟨_, _, rfl⟩
            rw [hd] at hcs hsq hdn
            simp only at hsq hdn
            have s0 : wc.cell? ⟨g1, 0, none⟩ = some (.string dn) := hcs 0 (by omega)
            have s1 : wc.cell? ⟨g1, 1, none⟩ = some (.int .u64 sq) := hcs 1 (by omega)
            obtain ⟨Wg, Wh, p46, hWg, hp46, hWh, e0, e1, y0, y1, r46, Fh⟩ := var2 wc 34 (.string ⟨#[]⟩) (.int .u64 0) (.string dn) (.int .u64 sq)
            have i0 : Wh.cell? ⟨p46, 0, none⟩ = some (.string dn) := cell_of_row _ _ 0 _ 34 (0, 0) r46
            have i1 : Wh.cell? ⟨p46, 1, none⟩ = some (.int .u64 sq) := cell_of_row _ _ 1 _ 34 (0, 0) r46
            have F0h := F0c.trans Fh
            have HD0 : Hid _ := hd
            obtain ⟨lk, hlk⟩ : ∃ x, (verF x4 z5 co dn).getD 0 = x := ⟨_, rfl⟩
            obtain ⟨hf, hhf⟩ : ∃ x, knF x8 ce dn = x := ⟨_, rfl⟩
            have HC1 : ∀ q, Calls Try.prog 25 #[.slice a4 n4 c4, .slice a5 n5 c5, .string dn] (Wh.drewN q) fun e w' => e = .returned (.int .u64 lk) ∧ w' = Wh.drewN q := fun q => hlk ▸ lookup_any a4 a5 n4 n5 c4 c5 x4 z5 dn co (Wh.drewN q) A4.len A5.len hco (by omega) ((A4.view.below F0h).below ((Frame.refl _ _).drewN _)) ((A5.view.below0 F0h).below0 ((Frame.refl _ _).drewN _))
            have HC2 : ∀ q, Calls Try.prog 31 #[.slice a8 n8 c8, .slice a9 n9 c9, .slice a10 n10 c10, .string dn] (Wh.drewN q) fun e w' => e = .returned (.bool hf) ∧ w' = Wh.drewN q := fun q => hhf ▸ hasFrom_is a8 a9 a10 n8 n9 n10 c8 c9 c10 x8 dn ce (Wh.drewN q) A8.len hce (by omega) ((A8.view.below F0h).below ((Frame.refl _ _).drewN _))
            have HH1 : Hid _ := HC1
            have HH2 : Hid _ := HC2
            have HLK : Hid _ := hlk
            have HHF : Hid _ := hhf
            have HLO : Hid (∀ q, Calls Try.prog 32 #[.slice a4 n4 c4, .slice a5 n5 c5, .string dn, .slice a11 n11 c11] (Wh.drewN q) (LoPost x4 (knF x11 n11) dn co (Wh.drewN q))) := fun q => leastOther_any a4 a5 a11 n4 n5 n11 c4 c5 c11 x4 x11 dn co (Wh.drewN q) A4.len hco (by omega) ((A4.view.below F0h).below ((Frame.refl _ _).drewN _)) A4.sz hdn A11.len (by omega) ((A11.view.below F0h).below ((Frame.refl _ _).drewN _))
            clear hd hcs hlk hhf HC1 HC2
            by_cases hl : lk < sq
            · cases hf with
              | true =>
                go_wp2_with fail
                go_quiet ((first | (go_at_call 25; exact Calls.quiet_of_same (HH1.out _)) | (go_at_call 31; exact Calls.quiet_of_same (HH2.out _))))
                have BW : Below w.heap.size w Wh := F0h.below (Nat.le_refl _) (by simp)
                go_wp2
                go_ret
                exact ⟨rfl, (F0h.drewN _).below (Nat.le_refl _) (by simp)⟩
              | false =>
                go_wp2_with fail
                go_quiet ((first | (go_at_call 25; exact Calls.quiet_of_same (HH1.out _)) | (go_at_call 31; exact Calls.quiet_of_same (HH2.out _))))
                go_wp2_with fail
                refine Calls.mono (HLO.out _) ?_
                clear HLO HH1 HH2 hWg hWh e0 e1 y0 y1 i0 i1 s0 s1
                rintro e Wi ⟨r, rfl, hL, hWi⟩
                have Fi : Frame [] Wh Wi := by rw [hWi]; exact (Frame.refl _ _).drewN _
                clear hWi
                cases r with
                | none =>
                  have BW : Below w.heap.size w Wi := (F0h.trans Fi).below (Nat.le_refl _) (by simp)
                  go_wp2
                  go_ret
                  exact ⟨rfl, BW⟩
                | some m =>
                  have hL2 : Least (fun x => V2 x ≠ none ∧ Fits kn dn x) (some m) := by
                    rw [← hV2, ← hkn]
                    exact least_congr hL (fun x => by rw [verF_some])
                  have HRm : Hid (R = some m) := by
                    show R = some m
                    rw [HRR.out, fixed_plain hT2 HD0.out (by omega : 0 < dr) (by rw [← hV2, HLK.out]; exact hl) (fun z => hE ▸ edF_none x8 x9 z10 dn z ce (knF_miss HHF.out)) hL2]
                    rfl
                  obtain rfl : dm = m := by
                    have h := HRm.out
                    rw [HRc.out] at h
                    exact Option.some.inj h
                  obtain ⟨Wj, Wk, p49, hWj, hp49, hWk, e0', e1', y0', y1', r49, Fk⟩ := var2 Wi 34 (.string ⟨#[]⟩) (.int .u64 0) (.string dm) (.int .u64 1)
                  have t0 : Wk.cell? ⟨p49, 0, none⟩ = some (.string dm) := cell_of_row _ _ 0 _ 34 (0, 0) r49
                  have t1 : Wk.cell? ⟨p49, 1, none⟩ = some (.int .u64 1) := cell_of_row _ _ 1 _ 34 (0, 0) r49
                  have v0 := Fk.cell (Fi.cell (Fh.cell q0 (by simp)) (by simp)) (by simp)
                  have v1 := Fk.cell (Fi.cell (Fh.cell q1 (by simp)) (by simp)) (by simp)
                  have BW : Below w.heap.size w Wk := ((F0c.trans Fh).trans (Fi.trans Fk)).below (Nat.le_refl _) (by simp)
                  go_wp2
                  go_ret
                  exact ⟨rfl, BW⟩
            · have hl2 : decide (lk < sq) = false := by simp; omega
              go_wp2_with fail
              go_quiet ((first | (go_at_call 25; exact Calls.quiet_of_same (HH1.out _)) | (go_at_call 31; exact Calls.quiet_of_same (HH2.out _))))
              have BW : Below w.heap.size w Wh := F0h.below (Nat.le_refl _) (by simp)
              go_wp2
              go_ret
              exact ⟨rfl, (F0h.drewN _).below (Nat.le_refl _) (by simp)⟩
          · have BW : Below w.heap.size w wc := F0c.below (Nat.le_refl _) (by simp)
            go_wp2
            go_ret
            exact ⟨rfl, BW⟩

end Go.Proofs.Qxb6614579a

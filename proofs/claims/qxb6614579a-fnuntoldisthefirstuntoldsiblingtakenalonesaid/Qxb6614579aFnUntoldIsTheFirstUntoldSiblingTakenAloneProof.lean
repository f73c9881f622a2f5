import Derived.Test.Qxb6614579aLaw
import Derived.Test.Qxb6614579aRows
import Derived.WalkKit
import Derived.ProofKit
import Derived.OpenShut
import Derived.SliceStrings
import Derived.ChangeOld
import Derived.Below
namespace Go.Proofs.Qxb6614579a
open Go.ChangeShapes Go.WideShapes Go.RowKit
set_option linter.unusedVariables false

theorem sarg_row {W : World} {x : Addr} {len cap : Nat} {ss : List ByteArray} (hl : len ≤ cap) (hm : cap ≤ maxLen) (hz : ss.length = cap) (hc : ∀ i, i < ss.length → W.cell? (x.add i) = some (.string (ss.getD i ByteArray.empty))) (hs : ∀ s ∈ ss, s.size ≤ maxLen) : SArg W (some x) len (ss.take len) := by
  refine ⟨by simp; omega, ?_, by omega, fun y hy => hs y (List.mem_of_mem_take hy)⟩
  intro i hi
  simp at hi
  have hci := hc i (by omega)
  obtain ⟨b, off, spot⟩ := x
  have hsp : spot = none := by
    have h0 := hc 0 (by omega)
    simpa [Addr.add] using World.cell?_spot h0
  subst hsp
  refine ⟨b, off, rfl, ?_⟩
  rw [Addr.add_lit] at hci
  rw [hci]
  simp [List.getD, show i < len from by omega, List.getElem?_eq_getElem (show i < ss.length by omega)]

theorem warg_row {W : World} {x : Addr} {len cap : Nat} {zs : List Int} (hl : len ≤ cap) (hm : cap ≤ maxLen) (hz : zs.length = cap) (hc : ∀ i, i < zs.length → W.cell? (x.add i) = some (.int .u64 (zs.getD i 0))) (hs : ∀ n ∈ zs, (Lit.int .u64 n).wf = true) : WArg W (some x) len (zs.take len) := by
  refine ⟨by simp; omega, ?_, by omega, fun y hy => ?_⟩
  · intro i hi
    simp at hi
    have hci := hc i (by omega)
    obtain ⟨b, off, spot⟩ := x
    have hsp : spot = none := by
      have h0 := hc 0 (by omega)
      simpa [Addr.add] using World.cell?_spot h0
    subst hsp
    refine ⟨b, off, rfl, ?_⟩
    rw [Addr.add_lit] at hci
    rw [hci]
    simp [List.getD, show i < len from by omega]
  · have := hs y (List.mem_of_mem_take hy)
    simp [Lit.wf, IntKind.min, IntKind.max, IntKind.signed, IntKind.bits] at this
    omega

theorem sarg_nil (W : World) : SArg W none 0 [] := ⟨rfl, fun i hi => absurd hi (by simp), by unfold maxLen; omega, fun y hy => absurd hy (by simp)⟩
theorem warg_nil (W : World) : WArg W none 0 [] := ⟨rfl, fun i hi => absurd hi (by simp), by unfold maxLen; omega, fun y hy => absurd hy (by simp)⟩

theorem sarg_open {H : Type} {enc : TypeId × Value → H} {W : World} {fuel : Nat} {a : Option Addr} {len cap : Nat} {y : DataW H × List MemPlace}
    (h : DataW.trod enc Try.prog W 0 (fun _ => true) true fuel 22 (Value.slice a len cap).cells.toList = some y) : ∃ xs, SArg W a len xs := by
  rcases open_strings Try.underlying22 Try.underlying9 (by kernel_rfl) h with ⟨hcs, _⟩ | ⟨x, l, c, ss, hcs, _, hl, hm, hz, _, hcell, hsz⟩
  · simp [Value.cells] at hcs
    obtain ⟨rfl, rfl, rfl⟩ := hcs
    exact ⟨[], sarg_nil W⟩
  · simp [Value.cells] at hcs
    obtain ⟨rfl, rfl, rfl⟩ := hcs
    exact ⟨_, sarg_row hl hm (by simpa using hz) hcell hsz⟩

theorem warg_open {H : Type} {enc : TypeId × Value → H} {W : World} {fuel : Nat} {a : Option Addr} {len cap : Nat} {y : DataW H × List MemPlace}
    (h : DataW.trod enc Try.prog W 0 (fun _ => true) true fuel 23 (Value.slice a len cap).cells.toList = some y) : ∃ xs, WArg W a len xs := by
  rcases open_ints Try.underlying23 Try.underlying24 (by kernel_rfl) h with ⟨hcs, _⟩ | ⟨x, l, c, zs, hcs, _, hl, hm, hz, _, hcell, hwz⟩
  · simp [Value.cells] at hcs
    obtain ⟨rfl, rfl, rfl⟩ := hcs
    exact ⟨[], warg_nil W⟩
  · simp [Value.cells] at hcs
    obtain ⟨rfl, rfl, rfl⟩ := hcs
    exact ⟨_, warg_row hl hm (by simpa using hz) hcell hwz⟩

end Go.Proofs.Qxb6614579a

namespace Go.Proofs.Qxb6614579a.fnUntoldIsTheFirstUntoldSiblingTakenAlone
open Go.ChangeShapes Go.WideShapes Go.ChangeAt Go.RowKit
open Go.ChangeMaps (open_string shut_string)
set_option linter.unusedVariables false

theorem own : ownKnob Try.prog.godebug = none := by kernel_rfl
theorem laidOut : laidOutB Try.prog = true := by kernel_rfl

set_option maxHeartbeats 1000000 in
set_option maxRecDepth 100000 in
theorem lifted (os : Os) (started : os.Started) (H : Type) (enc : TypeId × Value → H) :
    ReturnsInHanded {} Try.checked os 7 .any (Rows.fnUntoldIsTheFirstUntoldSiblingTakenAloneSpec.pre6 enc Try.prog Try.f7 Rows.fnUntoldIsTheFirstUntoldSiblingTakenAloneRow.domain false) (Rows.fnUntoldIsTheFirstUntoldSiblingTakenAloneSpec.post enc Try.prog Try.f7 false true false false) := by
  refine returnsInHanded_of_change (C := Try.checked) own started (by kernel_rfl) Try.func7
    (ChangeSpec.witness6 (enc := enc) (C := Try.checked) false ⟨#[], #[.slice none 0 0, .slice none 0 0, .slice none 0 0, .slice none 0 0, .slice none 0 0, .slice none 0 0, .slice none 0 0, .slice none 0 0, .slice none 0 0, .slice none 0 0, .slice none 0 0, .slice none 0 0], []⟩ 8 (by kernel_rfl) (by kernel_rfl) (by kernel_rfl) (by kernel_rfl)) ?_
  intro W base args ds gs before hval0 hW hcnd _
  have hval : ∀ (j : Nat) t v, Try.f7.params[j]? = some t → args[j]? = some v → Value.okWide Try.prog W .any base t v := hval0
  have hW' := hW
  obtain ⟨p, q, hA0, hV, rfl, hfz, hnd⟩ := hW
  have hA : DataW.TrodAll enc Try.prog W 0 (fun _ => true) true Try.f7.params.toList args.toList ds p := hA0
  rw [Try.params7] at hA hval
  obtain ⟨v0, vs0, d0, ds0, p0, q0, hargs, rfl, rfl, h0, r0⟩ := trodAll_cons hA
  obtain ⟨v1, vs1, d1, ds1, p1, q1, rfl, rfl, rfl, h1, r1⟩ := trodAll_cons r0
  obtain ⟨v2, vs2, d2, ds2, p2, q2, rfl, rfl, rfl, h2, r2⟩ := trodAll_cons r1
  obtain ⟨v3, vs3, d3, ds3, p3, q3, rfl, rfl, rfl, h3, r3⟩ := trodAll_cons r2
  obtain ⟨v4, vs4, d4, ds4, p4, q4, rfl, rfl, rfl, h4, r4⟩ := trodAll_cons r3
  obtain ⟨v5, vs5, d5, ds5, p5, q5, rfl, rfl, rfl, h5, r5⟩ := trodAll_cons r4
  obtain ⟨v6, vs6, d6, ds6, p6, q6, rfl, rfl, rfl, h6, r6⟩ := trodAll_cons r5
  obtain ⟨v7, vs7, d7, ds7, p7, q7, rfl, rfl, rfl, h7, r7⟩ := trodAll_cons r6
  obtain ⟨v8, vs8, d8, ds8, p8, q8, rfl, rfl, rfl, h8, r8⟩ := trodAll_cons r7
  obtain ⟨v9, vs9, d9, ds9, p9, q9, rfl, rfl, rfl, h9, r9⟩ := trodAll_cons r8
  obtain ⟨v10, vs10, d10, ds10, p10, q10, rfl, rfl, rfl, h10, r10⟩ := trodAll_cons r9
  obtain ⟨v11, vs11, d11, ds11, p11, q11, rfl, rfl, rfl, h11, r11⟩ := trodAll_cons r10
  obtain ⟨rfl, rfl, rfl⟩ := trodAll_nil r11
  obtain rfl : args = #[v0, v1, v2, v3, v4, v5, v6, v7, v8, v9, v10, v11] := by cases args; simp_all
  obtain ⟨rfl, rfl⟩ := trodVars_none hV
  obtain ⟨a0, n0, c0, rfl⟩ := okWide_slice Try.underlying22 (hval 0 22 v0 rfl rfl)
  have k0 := h0
  have lt0 : ∀ x ∈ p0, x.block < W.heap.size := by obtain ⟨m, hm⟩ := k0; exact DataW.trod_lt m _ _ _ hm
  obtain ⟨x0, A0⟩ : ∃ xs, SArg W a0 n0 xs := by
    obtain ⟨fuel, hf⟩ := h0
    exact sarg_open hf
  obtain ⟨a1, n1, c1, rfl⟩ := okWide_slice Try.underlying23 (hval 1 23 v1 rfl rfl)
  have k1 := h1
  have lt1 : ∀ x ∈ p1, x.block < W.heap.size := by obtain ⟨m, hm⟩ := k1; exact DataW.trod_lt m _ _ _ hm
  obtain ⟨x1, A1⟩ : ∃ xs, WArg W a1 n1 xs := by
    obtain ⟨fuel, hf⟩ := h1
    exact warg_open hf
  obtain ⟨a2, n2, c2, rfl⟩ := okWide_slice Try.underlying22 (hval 2 22 v2 rfl rfl)
  have k2 := h2
  have lt2 : ∀ x ∈ p2, x.block < W.heap.size := by obtain ⟨m, hm⟩ := k2; exact DataW.trod_lt m _ _ _ hm
  obtain ⟨x2, A2⟩ : ∃ xs, SArg W a2 n2 xs := by
    obtain ⟨fuel, hf⟩ := h2
    exact sarg_open hf
  obtain ⟨a3, n3, c3, rfl⟩ := okWide_slice Try.underlying23 (hval 3 23 v3 rfl rfl)
  have k3 := h3
  have lt3 : ∀ x ∈ p3, x.block < W.heap.size := by obtain ⟨m, hm⟩ := k3; exact DataW.trod_lt m _ _ _ hm
  obtain ⟨x3, A3⟩ : ∃ xs, WArg W a3 n3 xs := by
    obtain ⟨fuel, hf⟩ := h3
    exact warg_open hf
  obtain ⟨a4, n4, c4, rfl⟩ := okWide_slice Try.underlying22 (hval 4 22 v4 rfl rfl)
  have k4 := h4
  have lt4 : ∀ x ∈ p4, x.block < W.heap.size := by obtain ⟨m, hm⟩ := k4; exact DataW.trod_lt m _ _ _ hm
  obtain ⟨x4, A4⟩ : ∃ xs, SArg W a4 n4 xs := by
    obtain ⟨fuel, hf⟩ := h4
    exact sarg_open hf
  obtain ⟨a5, n5, c5, rfl⟩ := okWide_slice Try.underlying23 (hval 5 23 v5 rfl rfl)
  have k5 := h5
  have lt5 : ∀ x ∈ p5, x.block < W.heap.size := by obtain ⟨m, hm⟩ := k5; exact DataW.trod_lt m _ _ _ hm
  obtain ⟨x5, A5⟩ : ∃ xs, WArg W a5 n5 xs := by
    obtain ⟨fuel, hf⟩ := h5
    exact warg_open hf
  obtain ⟨a6, n6, c6, rfl⟩ := okWide_slice Try.underlying22 (hval 6 22 v6 rfl rfl)
  have k6 := h6
  have lt6 : ∀ x ∈ p6, x.block < W.heap.size := by obtain ⟨m, hm⟩ := k6; exact DataW.trod_lt m _ _ _ hm
  obtain ⟨x6, A6⟩ : ∃ xs, SArg W a6 n6 xs := by
    obtain ⟨fuel, hf⟩ := h6
    exact sarg_open hf
  obtain ⟨a7, n7, c7, rfl⟩ := okWide_slice Try.underlying23 (hval 7 23 v7 rfl rfl)
  have k7 := h7
  have lt7 : ∀ x ∈ p7, x.block < W.heap.size := by obtain ⟨m, hm⟩ := k7; exact DataW.trod_lt m _ _ _ hm
  obtain ⟨x7, A7⟩ : ∃ xs, WArg W a7 n7 xs := by
    obtain ⟨fuel, hf⟩ := h7
    exact warg_open hf
  obtain ⟨a8, n8, c8, rfl⟩ := okWide_slice Try.underlying22 (hval 8 22 v8 rfl rfl)
  have k8 := h8
  have lt8 : ∀ x ∈ p8, x.block < W.heap.size := by obtain ⟨m, hm⟩ := k8; exact DataW.trod_lt m _ _ _ hm
  obtain ⟨x8, A8⟩ : ∃ xs, SArg W a8 n8 xs := by
    obtain ⟨fuel, hf⟩ := h8
    exact sarg_open hf
  obtain ⟨a9, n9, c9, rfl⟩ := okWide_slice Try.underlying22 (hval 9 22 v9 rfl rfl)
  have k9 := h9
  have lt9 : ∀ x ∈ p9, x.block < W.heap.size := by obtain ⟨m, hm⟩ := k9; exact DataW.trod_lt m _ _ _ hm
  obtain ⟨x9, A9⟩ : ∃ xs, SArg W a9 n9 xs := by
    obtain ⟨fuel, hf⟩ := h9
    exact sarg_open hf
  obtain ⟨a10, n10, c10, rfl⟩ := okWide_slice Try.underlying23 (hval 10 23 v10 rfl rfl)
  have k10 := h10
  have lt10 : ∀ x ∈ p10, x.block < W.heap.size := by obtain ⟨m, hm⟩ := k10; exact DataW.trod_lt m _ _ _ hm
  obtain ⟨x10, A10⟩ : ∃ xs, WArg W a10 n10 xs := by
    obtain ⟨fuel, hf⟩ := h10
    exact warg_open hf
  obtain ⟨a11, n11, c11, rfl⟩ := okWide_slice Try.underlying22 (hval 11 22 v11 rfl rfl)
  have k11 := h11
  have lt11 : ∀ x ∈ p11, x.block < W.heap.size := by obtain ⟨m, hm⟩ := k11; exact DataW.trod_lt m _ _ _ hm
  obtain ⟨x11, A11⟩ : ∃ xs, SArg W a11 n11 xs := by
    obtain ⟨fuel, hf⟩ := h11
    exact sarg_open hf
  clear hA0 hval0
  refine (law_any a0 a1 a2 a3 a4 a5 a6 a7 a8 a9 a10 a11 n0 n1 n2 n3 n4 n5 n6 n7 n8 n9 n10 n11 c0 c1 c2 c3 c4 c5 c6 c7 c8 c9 c10 c11 x0 x2 x4 x6 x8 x9 x11 x1 x3 x5 x7 x10 W A0 A1 A2 A3 A4 A5 A6 A7 A8 A9 A10 A11).mono fun e W' ⟨he, bel⟩ => ?_
  subst he
  exact ⟨_, rfl, _, _, _, [], _, [], hW', trodAll_mk1 (shut_bool Try.underlying4 _), (trodAll_cons_mk (Below.trod laidOut (by kernel_rfl) (of_decide_eq_true (by kernel_rfl)) k0 bel lt0) (trodAll_cons_mk (Below.trod laidOut (by kernel_rfl) (of_decide_eq_true (by kernel_rfl)) k1 bel lt1) (trodAll_cons_mk (Below.trod laidOut (by kernel_rfl) (of_decide_eq_true (by kernel_rfl)) k2 bel lt2) (trodAll_cons_mk (Below.trod laidOut (by kernel_rfl) (of_decide_eq_true (by kernel_rfl)) k3 bel lt3) (trodAll_cons_mk (Below.trod laidOut (by kernel_rfl) (of_decide_eq_true (by kernel_rfl)) k4 bel lt4) (trodAll_cons_mk (Below.trod laidOut (by kernel_rfl) (of_decide_eq_true (by kernel_rfl)) k5 bel lt5) (trodAll_cons_mk (Below.trod laidOut (by kernel_rfl) (of_decide_eq_true (by kernel_rfl)) k6 bel lt6) (trodAll_cons_mk (Below.trod laidOut (by kernel_rfl) (of_decide_eq_true (by kernel_rfl)) k7 bel lt7) (trodAll_cons_mk (Below.trod laidOut (by kernel_rfl) (of_decide_eq_true (by kernel_rfl)) k8 bel lt8) (trodAll_cons_mk (Below.trod laidOut (by kernel_rfl) (of_decide_eq_true (by kernel_rfl)) k9 bel lt9) (trodAll_cons_mk (Below.trod laidOut (by kernel_rfl) (of_decide_eq_true (by kernel_rfl)) k10 bel lt10) (trodAll_cons_mk (Below.trod laidOut (by kernel_rfl) (of_decide_eq_true (by kernel_rfl)) k11 bel lt11) trodAll_mk0)))))))))))), rfl, bel.frame _, fun h => by cases h⟩

theorem over : Rows.fnUntoldIsTheFirstUntoldSiblingTakenAloneRow.holds Try.pinned (OpenSpec.ofChange Rows.fnUntoldIsTheFirstUntoldSiblingTakenAloneSpec) :=
  OpenClaim.holds_of_wide 7 Try.f7 rfl rfl rfl rfl rfl rfl rfl ⟨rfl, rfl, rfl, rfl, rfl⟩ rfl rfl rfl rfl rfl (by kernel_rfl) Try.func7 (by kernel_rfl)
    (of_decide_eq_true (by kernel_rfl)) (by unfold Func.isWrapper; first | (rw [if_pos (by decide +kernel)]; kernel_rfl) | (rw [if_neg (by decide +kernel)]; exact ⟨rfl, rfl⟩))
    (fun os started H enc _ => lifted os started H enc)

/-- The statement. -/
theorem proved : Rows.FnUntoldIsTheFirstUntoldSiblingTakenAloneSaid := over
#print axioms proved
end Go.Proofs.Qxb6614579a.fnUntoldIsTheFirstUntoldSiblingTakenAlone

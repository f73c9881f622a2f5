import Derived.Test.Qxb6608861aIdx
import Derived.Deep.RegionLaw
namespace Go.Proofs.Qxb6608861a
open Go.RowKit
set_option linter.unusedVariables false

theorem bIndexByte_is (a : Option Addr) (n ca : Nat) (xs : List Int) (c r : Int) (w : World) (hn : xs.length = n) (hb : Byt xs) (h0 : 0 ≤ c) (h1 : c < 256) (hx : View .u8 w a xs) (hr : ixB xs c = r) :
    Calls Try.prog 34 #[.slice a n ca, .int .u8 c] w fun e w' => e = .returned (.int .i64 r) ∧ w' = w := hr ▸ bIndexByte_any a n ca xs c w hn hb h0 h1 hx

theorem valueStart_is (a : Option Addr) (n ca : Nat) (xs : List Int) (c : Nat) (w : World) (hn : xs.length = n) (hm : n ≤ 1048576) (hb : Byt xs) (hx : View .u8 w a xs) (hc : ixB xs 58 = c) :
    Calls Try.prog 32 #[.slice a n ca] w fun e w' => e = .returned (.int .i64 ((c : Int) + 1)) ∧ w' = w := by
  have := valueStart_any a n ca xs w hn hm hb hx (by omega)
  rw [hc] at this
  exact this

/-- Where the text stands that priorValueAt has come to behind k rounds. -/
def pAt (c i1 i2 : Nat) : Nat → Nat
  | 0 => c + 1
  | 1 => c + 1 + (i1 + 1)
  | _ => c + 1 + (i1 + 1) + (i2 + 1)

theorem View.fromIf {w : World} {b off lo ca : Nat} {xs : List Int} (h : View .u8 w (some ⟨b, off, none⟩) xs) (hl : xs.length ≤ ca) : View .u8 w (if ca = lo then some ⟨b, off, none⟩ else some ⟨b, off + lo, none⟩) (xs.drop lo) := by
  by_cases e : ca = lo
  · rw [if_pos e]; exact View.from0 (by omega)
  · rw [if_neg e]; exact h.at

set_option maxHeartbeats 400000 in
theorem priorAt_any (b off n ca c i1 i2 : Nat) (xs : List Int) (w : World) (hn : xs.length = n) (hm : n ≤ 1048576) (hca : n ≤ ca) (hb : Byt xs) (hx : View .u8 w (some ⟨b, off, none⟩) xs)
    (hc : ixB xs 58 = c) (h1 : ixB (xs.drop (c + 1)) 59 = i1) (h2 : ixB (xs.drop (c + 1 + (i1 + 1))) 59 = i2) (h3 : c + 1 + (i1 + 1) + (i2 + 1) ≤ n) :
    Calls Try.prog 31 #[.slice (some ⟨b, off, none⟩) n ca] w fun e w' => e = .returned (.int .i64 ((c + 1 + (i1 + 1) + (i2 + 1) : Nat) : Int)) ∧ w' = w := by
  have Hc : Hid _ := hc
  have H1 : Hid _ := h1
  have H2 : Hid _ := h2
  clear hc h1 h2
  go_enter Try.func31, Try.ntmps31
  go_wp2_with (go_at_call 32; refine (valueStart_is _ _ _ xs c _ hn hm hb hx Hc.out).mono ?_; rintro e w' ⟨rfl, rfl⟩)
  go_loop [3, 7] (fun p i => ∃ k : Nat, k ≤ 2 ∧ i = .int .i64 k ∧ p = .int .i64 (pAt c i1 i2 k)) (fun _ i => 2 - (intOf i).toNat)
  case atStart => exact ⟨0, by omega, rfl, by simp [pAt]⟩
  case round =>
    obtain ⟨k, hk, rfl, rfl⟩ := hrel
    by_cases hlt : k < 2
    · obtain ⟨p, j, e1, e2, e3, e4⟩ : ∃ p j : Nat, pAt c i1 i2 k = p ∧ ixB (xs.drop p) 59 = j ∧ pAt c i1 i2 (k + 1) = p + (j + 1) ∧ p + (j + 1) ≤ n := by
        rcases (by omega : k = 0 ∨ k = 1) with rfl | rfl
        · exact ⟨_, i1, rfl, H1.out, rfl, by simp only [pAt]; omega⟩
        · exact ⟨_, i2, rfl, H2.out, rfl, by simp only [pAt]; omega⟩
      rw [e1]
      have E2 : Hid _ := e2
      have E3 : Hid _ := e3
      clear e1 e2 e3
      go_wp2_with (go_at_call 34; refine (bIndexByte_is _ _ _ (xs.drop p) _ j _ ?_ (hb.drop _) (by decide) (by decide) ?_ E2.out).mono ?_; (simp [hn]); (first | exact View.from0 (by omega) | exact View.at hx); rintro e w' ⟨rfl, rfl⟩)
      all_goals
        go_round
        case rel => exact ⟨k + 1, by omega, by go_num, by rw [E3.out]; go_num⟩
        case measure => simp [intOf]; omega
    · have : k = 2 := by omega
      subst this
      simp only [pAt]
      go_wp2
      go_ret
      exact ⟨rfl, rfl⟩

/-- 'append' within the capacity, whatever the source's address, as one step of a region that draws. -/
theorem step_append_fits_any {P : Program} {ops : Array Oper} {o : Oper} {a : Act} {w : World} {K : Act → World → Prop} {Q : Exit → Act → World → Prop} {E : Prop}
    (hg : o.guard = none) (s x : Operand) (t : TypeId) (hop : o.op = Op.call { callee := Callee.builtin Builtin.append, args := #[s, x], argTypes := #[t, t] })
    (base : Nat) (e : TypeId) (i : TypeInfo) (size : Nat) (h1 : P.underlying t = some (.slice e)) (h2 : P.info? e = some i) (h4 : i.size = size)
    (g k cap : Nat) (xs : List Value) (hs : a.eval s = .slice (some ⟨g, 0, none⟩) k cap) (hown : w.ownsRow base e size (.slice (some ⟨g, 0, none⟩) k cap) k xs) (ao : Option Addr) (m c : Nat) (news : List Value) (hx : a.eval x = .slice ao m c) (hn : news.length = m * size)
    (hnone : ao = none → m = 0 ∧ c = 0) (hc : ∀ ad, ao = some ad → ∀ j u, news[j]? = some u → w.cell? (ad.add j) = some u) (h1c : ∀ u ∈ news, u.oneCell' = true) (b1 : k + m ≤ cap)
    (hK : ∀ w', w'.ownsRow base e size (.slice (some ⟨g, 0, none⟩) (k + m) cap) (k + m) (xs ++ news) → w.grownBy w' (some g) → K (a.put o.dst (.slice (some ⟨g, 0, none⟩) (k + m) cap)) w') :
    if Region.wanted o (yielded ops a.tmps) = true then Oper.wp P o a w K Q else E := by
  have hw : Region.wanted o (yielded ops a.tmps) = true := by simp [Region.wanted, hg]
  rw [if_pos hw]
  cases ao with
  | some ad =>
    obtain ⟨w', hrun, r1, r2⟩ := run_append_fits (P := P) w base t o.type e i size h1 h2 h4 g k cap xs hown ad m c news hn (hc ad rfl) h1c b1
    unfold Oper.wp
    simp [execOp, hop, resolve, invoke, builtin, hs, hx, hrun, Result.andThen]
    exact hK w' r1 r2
  | none =>
    obtain ⟨rfl, rfl⟩ := hnone rfl
    have hnews : news = [] := List.eq_nil_of_length_eq_zero (by simpa using hn)
    subst hnews
    have hrun := run_append_owned_none (P := P) w base t o.type e i size h1 h2 _ k xs hown
    unfold Oper.wp
    have hk := hK w (by simpa using hown) (World.grownBy.refl _ _)
    simp at hk
    simp [execOp, hop, resolve, invoke, builtin, hs, hx, hrun, Result.andThen]
    exact hk

/-- The numbers of a view, as the cells that an append reads. -/
theorem View.news {w : World} {a : Option Addr} {xs : List Int} (h : View .u8 w a xs) : ∀ ad, a = some ad → ∀ j u, (xs.map (Value.int .u8))[j]? = some u → w.cell? (ad.add j) = some u := by
  intro ad had j u hu
  have hj : j < xs.length := by simpa using (List.getElem?_eq_some_iff.1 hu).1
  obtain ⟨b, off, e, hc⟩ := h j hj
  rw [had] at e
  obtain rfl := Option.some.inj e
  rw [Addr.add_lit, hc, ← hu]
  simp [List.getD, hj]

theorem one_news {W : World} {B : Nat} {v : Value} (h : W.cell? ⟨B, 0, none⟩ = some v) : ∀ ad, some (⟨B, 0, none⟩ : Addr) = some ad → ∀ j u, [v][j]? = some u → W.cell? (ad.add j) = some u := by
  intro ad had j u hu
  obtain rfl := Option.some.inj had
  match j, hu with
  | 0, hu => simp at hu; subst hu; simpa [Addr.add] using h

/-- The field that a record keeps. -/
def kept (xs : List Int) (c p : Nat) : List Int := (xs.take c).drop 8 ++ [58] ++ xs.drop p

theorem kept_length (xs : List Int) (c p : Nat) (h8 : 8 ≤ c) (hc : c ≤ xs.length) : (kept xs c p).length = c - 8 + 1 + (xs.length - p) := by
  simp [kept]; omega

theorem rec_fin {w : World} {B g L : Nat} {xs : List Int} {c p : Nat} (hL : (kept xs c p).length = L)
    (h : w.ownsRow B 5 1 (.slice (some ⟨g, 0, none⟩) L L) L (((xs.take c).drop 8).map (Value.int .u8) ++ [.int .u8 58] ++ (xs.drop p).map (Value.int .u8))) :
    View .u8 w (some ⟨g, 0, none⟩) (kept xs c p) ∧ ∀ j, w.frozen? ⟨g, j, none⟩ = false := by
  refine ⟨fun j hj => ⟨g, 0, rfl, ?_⟩, fun j => h.frozenAt j⟩
  have e : (((xs.take c).drop 8).map (Value.int .u8) ++ [Value.int .u8 58] ++ (xs.drop p).map (Value.int .u8)) = (kept xs c p).map (Value.int .u8) := by simp [kept]
  rw [Nat.zero_add, h.cellAt j (by omega), e]
  simp [List.getD, hj]

set_option maxHeartbeats 1000000 in
theorem recorded_any (b off n ca c i1 i2 : Nat) (xs : List Int) (w : World) (hn : xs.length = n) (hm : n ≤ 1048576) (hca : n ≤ ca) (hb : Byt xs) (hx : View .u8 w (some ⟨b, off, none⟩) xs)
    (hc : ixB xs 58 = c) (h1 : ixB (xs.drop (c + 1)) 59 = i1) (h2 : ixB (xs.drop (c + 1 + (i1 + 1))) 59 = i2) (h3 : c + 1 + (i1 + 1) + (i2 + 1) ≤ n) (h8 : 8 ≤ c) :
    Calls Try.prog 29 #[.slice (some ⟨b, off, none⟩) n ca] w fun e w' => ∃ g, e = .returned (.slice (some ⟨g, 0, none⟩) (kept xs c (c + 1 + (i1 + 1) + (i2 + 1))).length (kept xs c (c + 1 + (i1 + 1) + (i2 + 1))).length) ∧
      w.heap.size ≤ g ∧ View .u8 w' (some ⟨g, 0, none⟩) (kept xs c (c + 1 + (i1 + 1) + (i2 + 1))) ∧ (∀ j, w'.frozen? ⟨g, j, none⟩ = false) ∧ Below w.heap.size w w' := by
  have hp := priorAt_any b off n ca c i1 i2 xs w hn hm hca hb hx hc h1 h2 h3
  have Hc : Hid _ := hc
  obtain ⟨i0, hi, hz0, hz1, hz2⟩ := info_parts Try.info5
  obtain ⟨p, hpe⟩ : ∃ p, p = c + 1 + (i1 + 1) + (i2 + 1) := ⟨_, rfl⟩
  rw [← hpe] at hp ⊢
  have hp1 : c + 3 ≤ p := by omega
  have hp2 : p ≤ n := by omega
  clear hc h1 h2 h3 hpe
  have hkl : (kept xs c p).length = c - 8 + 1 + (n - p) := by rw [kept_length xs c p h8 (by omega), hn]
  have HK : Hid _ := hkl
  rw [hkl]
  clear hkl
  have hb2 : i0.bytes * (c - 8 + 1 + (n - p)) ≤ 281474976710656 := by rw [hz2]; omega
  have hb3 : c - 8 + 1 + (n - p) ≤ maxLen := by unfold maxLen; omega
  go_enter Try.func29, Try.ntmps29
  go_wp2_with (first | (go_at_call 31; refine hp.mono ?_; rintro e w' ⟨rfl, hww⟩; (have hw2 := hww.symm); subst hw2) | (go_at_call 32; refine (valueStart_is _ _ _ xs c _ hn hm hb hx Hc.out).mono ?_; rintro e w' ⟨rfl, hww⟩; (have hw2 := hww.symm); subst hw2) | (at_make; refine wpList_make_own _ rfl _ _ 64 rfl w.heap.size 5 i0 (.int .u8 0) 1 Try.underlying64 hi hz0 hz1 _ _ _ (c - 8 + 1 + (n - p)) rfl rfl (by omega) hb2 hb3 (by exact Nat.le_refl _) ?_))
  intro w1 hown0 hgrow0
  have hbel0 : Below w.heap.size w w1 := (Below.refl _ _).grown hgrow0 (Nat.le_refl _) (fun k h => by simp at h)
  have hgw : w.heap.size < w1.heap.size := by
    rcases hown0.2 with ⟨h, _⟩ | ⟨g, cap, cur, h, _, hg, _⟩
    · simp at h
    · simp at h; obtain ⟨rfl, _⟩ := h; exact (Array.getElem?_eq_some_iff.1 hg).1
  have hbw : b < w.heap.size := by obtain ⟨b', off', e, hcc⟩ := hx 0 (by omega); simp at e; obtain ⟨rfl, rfl⟩ := e; exact block_lt_of_cell hcc
  have hv1 : ∀ W, Below w.heap.size w W → View .u8 W (some ⟨b, off + 8, none⟩) ((xs.take c).drop 8) := fun W h => ((hx.below h).take (hi := c)).at
  go_wp2
  go_region_law (first | (refine step_append_fits_any rfl (.tmp 22) (.tmp 23) 64 rfl w.heap.size 5 i0 1 Try.underlying64 hi hz1 w.heap.size 0 (c - 8 + 1 + (n - p)) [] rfl ?_ (some ⟨b, off + 8, none⟩) (c - 8) (ca - 8) (((xs.take c).drop 8).map (Value.int .u8)) rfl ?_ ?_ ?_ ?_ ?_ ?_; (first | exact hown0 | exact hown0.alloc _); (simp [hn]; omega); (simp); (refine View.news (hv1 _ ?_); first | exact hbel0.drew | exact (hbel0.drew.alloc (Nat.le_of_lt hgw) _) | exact (hbel0.alloc (Nat.le_of_lt hgw) _).drew); (exact ints_oneCell _ _); (omega); intro w2 hown1 hgrow1; (simp only [Nat.zero_add, List.nil_append] at hown1); (have hbel1 : Below w.heap.size w w2 := by first | exact hbel0.drew.grown hgrow1 (Nat.le_of_lt hgw) (fun k h => by simp at h; omega) | exact (hbel0.drew.alloc (Nat.le_of_lt hgw) _).grown hgrow1 (by simp; omega) (fun k h => by simp at h; omega) | exact (hbel0.alloc (Nat.le_of_lt hgw) _).drew.grown hgrow1 (by simp; omega) (fun k h => by simp at h; omega)); (have hgw1 : w.heap.size < w2.heap.size := Nat.lt_of_lt_of_le (by first | exact hgw | (simp; omega)) hgrow1.size)) | (refine step_append_fits_any rfl (.tmp 24) (.tmp 25) 64 rfl w.heap.size 5 i0 1 Try.underlying64 hi hz1 w.heap.size (c - 8) (c - 8 + 1 + (n - p)) (((xs.take c).drop 8).map (Value.int .u8)) rfl ?_ (some ⟨_, 0, none⟩) 1 1 [.int .u8 58] rfl ?_ ?_ ?_ ?_ ?_ ?_; (first | exact hown1 | exact hown1.alloc _); (rfl); (simp); (refine one_news ?_; first | (focus (simp; done)) | (rw [World.cell?_of_block (hgrow1.block _ (by simp) (by simp; omega))]; simp)); (simp [Value.oneCell']); (omega); intro w3 hown2 hgrow2; (have hbel2 : Below w.heap.size w w3 := by first | exact hbel1.grown hgrow2 (Nat.le_of_lt hgw1) (fun k h => by simp at h; omega) | exact (hbel1.alloc (Nat.le_of_lt hgw1) _).grown hgrow2 (by simp; omega) (fun k h => by simp at h; omega)); (have hgw2 : w.heap.size < w3.heap.size := Nat.lt_of_lt_of_le (by first | exact hgw1 | (simp; omega)) hgrow2.size)) | (refine step_append_fits_any rfl (.tmp 26) (.tmp 29) 64 rfl w.heap.size 5 i0 1 Try.underlying64 hi hz1 w.heap.size (c - 8 + 1) (c - 8 + 1 + (n - p)) (((xs.take c).drop 8).map (Value.int .u8) ++ [.int .u8 58]) rfl ?_ (if ca = p then some ⟨b, off, none⟩ else some ⟨b, off + p, none⟩) (n - p) (ca - p) ((xs.drop p).map (Value.int .u8)) rfl ?_ ?_ ?_ ?_ ?_ ?_; (exact hown2); (simp [hn]); (intro h; split at h <;> simp at h); (refine View.news (View.fromIf (hx.below hbel2) (by omega))); (exact ints_oneCell _ _); (omega); intro w4 hown3 hgrow3; (have hbel3 : Below w.heap.size w w4 := hbel2.grown hgrow3 (Nat.le_of_lt hgw2) (fun k h => by simp at h; omega))))
  all_goals
    have hfin := rec_fin HK.out hown3
    clear hown0 hown1 hown2 hown3 hgrow0 hgrow1 hgrow2 hgrow3 hbel0 hbel1 hbel2 hp hv1
    have HF : Hid _ := hfin
    clear hfin
    go_wp2
  all_goals
    go_ret
    exact ⟨_, rfl, Nat.le_refl _, HF.out.1, HF.out.2, hbel3⟩
end Go.Proofs.Qxb6608861a

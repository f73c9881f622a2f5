/-
  WHAT THE WALK IS TOLD OF THE ARGUMENTS, as views; and what the ends of the fields say.
-/
import Derived.Test.Qxb6608861aLaw
namespace Go.Proofs.Qxb6608861a
open Go.RowKit
set_option linter.unusedVariables false

/-- WHAT THE WALK IS TOLD OF A SLICE OF INTEGERS THAT CAME IN: it is nil; or it leads to a row of 'cap' cells, the numbers 'zs' (the first 'len' are its elements, the rest its spare room), each fitting its kind. -/
def IsRow (k : IntKind) (w : World) (a : Option Addr) (len cap : Nat) (zs : List Int) : Prop :=
  (a = none ∧ len = 0 ∧ cap = 0 ∧ zs = []) ∨
  ∃ x, a = some x ∧ len ≤ cap ∧ cap ≤ maxLen ∧ zs.length = cap ∧ (∀ i, i < zs.length → w.cell? (x.add i) = some (.int k (zs.getD i 0))) ∧ ∀ n ∈ zs, (Lit.int k n).wf = true

theorem IsRow.views {k : IntKind} {w : World} {a : Option Addr} {len cap : Nat} {zs : List Int} (h : IsRow k w a len cap zs) :
    ∃ xs : List Int, xs.length = len ∧ View k w a xs ∧ (a = none → len = 0) ∧ len ≤ cap ∧ len ≤ maxLen ∧ ∀ n ∈ xs, (Lit.int k n).wf = true := by
  rcases h with ⟨rfl, rfl, rfl, rfl⟩ | ⟨x, rfl, h1, h2, h3, h4, h5⟩
  · exact ⟨[], rfl, View.nil _ _ _, fun _ => rfl, Nat.le_refl _, Nat.zero_le _, fun n hn => by simp at hn⟩
  · refine ⟨zs.take len, by simp; omega, ?_, fun h => by simp at h, h1, by omega, fun n hn => h5 n (List.mem_of_mem_take hn)⟩
    intro i hi
    simp at hi
    have hc := h4 i (by omega)
    obtain ⟨b, off, spot⟩ := x
    have hs : spot = none := by
      have h0 := h4 0 (by omega)
      simpa [Addr.add] using World.cell?_spot h0
    subst hs
    refine ⟨b, off, rfl, ?_⟩
    rw [Addr.add_lit] at hc
    rw [hc]
    simp [List.getD, show i < len from by omega]

theorem View.hz {k : IntKind} {w : World} {a : Option Addr} {xs : List Int} {n : Nat} (h : View k w a xs) (hl : xs.length = n) : a = none → n = 0 := by
  rintro rfl
  rcases (by omega : n = 0 ∨ 0 < xs.length) with e | e
  · exact e
  · obtain ⟨b, off, e2, _⟩ := h 0 e
    simp at e2

theorem View.drewN {k : IntKind} {w : World} {a : Option Addr} {xs : List Int} (h : View k w a xs) (n : Nat) : View k (w.drewN n) a xs := h

/-- A view of older memory stands while a younger block is written. -/
theorem View.other {k : IntKind} {w : World} {a : Option Addr} {xs : List Int} {q o : Nat} (h : ∀ j, j < xs.length → ∃ b off, a = some ⟨b, off, none⟩ ∧ b < q ∧ w.cell? ⟨b, off + j, none⟩ = some (.int k (xs.getD j 0))) (v : Value) : View k (w.setCell ⟨q, o, none⟩ v) a xs := by
  intro j hj
  obtain ⟨b, off, e, hl, hc⟩ := h j hj
  refine ⟨b, off, e, ?_⟩
  rw [World.cell?_of_block (Below.heap_setCell w ⟨q, o, none⟩ v b (by show b ≠ q; omega)), hc]

theorem ends_nonneg (n : Int) (es : List Int) (h : endsOK n 0 es = true) : ∀ j, j < es.length → 0 ≤ es.getD j 0 := by
  intro j
  induction j with
  | zero => intro hj; have := (endsOK_out n 0 es h 0 hj).1; simpa [lastOr] using this
  | succ j ih =>
    intro hj
    have h1 := ih (by omega)
    have h2 := (endsOK_out n 0 es h (j + 1) hj).1
    simp only [lastOr, Nat.add_one_sub_one] at h2
    simp at h2 h1 ⊢
    omega

/-- Field i stands from lo to hi. -/
theorem ends_field (m : Nat) (es : List Int) (h : endsOK m 0 es = true) (i : Nat) (hi : i < es.length) : ∃ lo hi : Nat, lastOr 0 es i = (lo : Int) ∧ es.getD i 0 = (hi : Int) ∧ lo ≤ hi ∧ hi ≤ m := by
  have h1 := endsOK_out m 0 es h i hi
  have h2 := ends_nonneg m es h i hi
  have h3 : 0 ≤ lastOr 0 es i := by
    unfold lastOr
    split
    · omega
    · exact ends_nonneg m es h (i - 1) (by omega)
  obtain ⟨lo, e1⟩ := Int.eq_ofNat_of_zero_le h3
  obtain ⟨hi', e2⟩ := Int.eq_ofNat_of_zero_le h2
  exact ⟨lo, hi', e1, e2, by omega, by omega⟩

theorem endsOK_is (a b : Option Addr) (m ca n cb : Nat) (es : List Int) (r : Bool) (w : World) (hl : es.length = n) (hm : m ≤ 1048576) (hn : n ≤ 1048576) (hy : View .u32 w b es) (hr : endsOK m 0 es = r) :
    Calls Try.prog 12 #[.slice a m ca, .slice b n cb] w fun e w' => e = .returned (.bool r) ∧ w' = w := hr ▸ endsOK_any a b m ca n cb es w hl hm hn hy
theorem bit_is (b : Option Addr) (n cb i : Nat) (ws : List Int) (r : Bool) (w : World) (hl : ws.length = n) (hn : n ≤ 1048576) (hi : i ≤ 1048576) (hr : ∀ x ∈ ws, 0 ≤ x ∧ x ≤ 18446744073709551615) (hy : View .u64 w b ws) (h : bitB ws i = r) :
    Calls Try.prog 17 #[.slice b n cb, .int .i64 i] w fun e w' => e = .returned (.bool r) ∧ w' = w := h ▸ bit_any b n cb i ws w hl hn hi hr hy
theorem isPrior_is (a : Option Addr) (n ca : Nat) (xs : List Int) (r : Bool) (w : World) (hn : xs.length = n) (hm : n ≤ 1048576) (hca : n ≤ ca) (hx : View .u8 w a xs) (h : isPrior xs = r) :
    Calls Try.prog 18 #[.slice a n ca] w fun e w' => e = .returned (.bool r) ∧ Below w.heap.size w w' := h ▸ isPrior_any a n ca xs w hn hm hca hx
theorem same_is (a b : Option Addr) (m ca n cb : Nat) (xs : List Int) (w : World) (hxl : xs.length = m) (hyl : xs.length = n) (hm : m ≤ 1048576) (hx : View .u8 w a xs) (hy : View .u8 w b xs) :
    Calls Try.prog 21 #[.slice a m ca, .slice b n cb] w fun e w' => e = .returned (.bool true) ∧ ∃ q, w' = w.drewN q := by
  have := bytesEqual_q a b m ca n cb xs xs w hxl hyl hm (by omega) hx hy
  rw [sameB_refl] at this
  exact this
theorem cnt_is (a : Option Addr) (n ca : Nat) (xs : List Int) (c r : Int) (w : World) (hn : xs.length = n) (hm : n ≤ 1048576) (hx : View .u8 w a xs) (hr : cntB xs c = r) :
    Calls Try.prog 23 #[.slice a n ca, .int .u8 c] w fun e w' => e = .returned (.int .i64 r) ∧ w' = w := hr ▸ countByte_any a n ca xs c w hn hm hx

/-- An index made of views. -/
theorem newIdx_any (a b c : Option Addr) (m ca n cb l cl : Nat) (xs es ws : List Int) (w : World) (hm : xs.length = m) (hn : es.length = n) (hl : ws.length = l) (hca : m ≤ ca) (hx : View .u8 w a xs) (hy : View .u32 w b es) (hz : View .u64 w c ws) :
    Calls Try.prog 19 #[.slice a m ca, .slice b n cb, .slice c l cl] w fun e w' => ∃ g, e = .returned (.pointer (some ⟨g, 0, none⟩)) ∧ Idx w' g xs es ws ∧ Below w.heap.size w w' := by
  subst hm hn hl
  exact (newIndex_any a b c xs.length ca es.length cb ws.length cl w).mono fun _ w' ⟨g, h1, h2, h3⟩ => ⟨g, h1, ⟨a, ca, b, cb, c, cl, h2, hca, hx.below h3, hy.below h3, hz.below h3⟩, h3⟩

theorem byt_of {xs : List Int} (h : ∀ n ∈ xs, (Lit.int .u8 n).wf = true) : Byt xs := by
  intro x hx
  have := h x hx
  simp [Lit.wf, IntKind.min, IntKind.max, IntKind.signed, IntKind.bits] at this
  omega
theorem u64_of {xs : List Int} (h : ∀ n ∈ xs, (Lit.int .u64 n).wf = true) : ∀ x ∈ xs, 0 ≤ x ∧ x ≤ 18446744073709551615 := by
  intro x hx
  have := h x hx
  simp [Lit.wf, IntKind.min, IntKind.max, IntKind.signed, IntKind.bits] at this
  omega
end Go.Proofs.Qxb6608861a

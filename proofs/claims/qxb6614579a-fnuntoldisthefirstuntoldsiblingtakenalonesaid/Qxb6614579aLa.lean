import Derived.Test.Qxb6614579aZz
import Derived.Test.Qxb6614579aBy3
import Derived.Test.Qxb6614579aLo2
namespace Go.Proofs.Qxb6614579a
open Go.RowKit
set_option linter.unusedVariables false

/-- A []string that came in. -/
structure SArg (w : World) (a : Option Addr) (n : Nat) (xs : List ByteArray) : Prop where
  len : xs.length = n
  view : SView w a xs
  max : n ≤ maxLen
  sz : ∀ y ∈ xs, y.size ≤ maxLen

/-- A []uint64 that came in. -/
structure WArg (w : World) (a : Option Addr) (n : Nat) (zs : List Int) : Prop where
  len : zs.length = n
  view : View .u64 w a zs
  max : n ≤ maxLen
  ok : ∀ y ∈ zs, 0 ≤ y

theorem SArg.below {w w' : World} {a : Option Addr} {n : Nat} {xs : List ByteArray} (h : SArg w a n xs) (hf : Frame [] w w') : SArg w' a n xs := ⟨h.len, h.view.below hf, h.max, h.sz⟩
theorem WArg.below {w w' : World} {a : Option Addr} {n : Nat} {xs : List Int} (h : WArg w a n xs) (hf : Frame [] w w') : WArg w' a n xs := ⟨h.len, h.view.below0 hf, h.max, h.ok⟩

theorem getD_mem {α : Type} (l : List α) (i : Nat) (d : α) (h : i < l.length) : l.getD i d ∈ l := by
  rw [List.getD, List.getElem?_eq_getElem h]
  exact List.getElem_mem _

theorem ver_sz {w : World} {a : Option Addr} {n : Nat} {xs : List ByteArray} (h : SArg w a n xs) (zs : List Int) (c : Nat) (hc : c ≤ n) : ∀ k, verF xs zs c k ≠ none → k.size ≤ maxLen := by
  intro k hk
  obtain ⟨i, hi, rfl⟩ := (verF_some xs zs k c).1 hk
  exact h.sz _ (getD_mem xs i _ (by rw [h.len]; omega))

theorem ds_ok {w : World} {a b : Option Addr} {n m d : Nat} {xs : List ByteArray} {zs : List Int} (h : SArg w a n xs) (k : WArg w b m zs) (hd : d ≤ n) (hd' : d ≤ m) :
    ∀ i, i < ((xs.zip zs).take d).length → 0 ≤ (((xs.zip zs).take d).getD i (⟨#[]⟩, 0)).2 ∧ (((xs.zip zs).take d).getD i (⟨#[]⟩, 0)).1.size ≤ maxLen := by
  intro i hi
  have h1 := h.len
  have h2 := k.len
  have hi' : i < d := by simp at hi; omega
  rw [zip_getD xs zs d i hi' (by omega) (by omega)]
  exact ⟨k.ok _ (getD_mem zs i _ (by omega)), h.sz _ (getD_mem xs i _ (by omega))⟩

theorem ds_len {xs : List ByteArray} {zs : List Int} {d : Nat} (h : d ≤ xs.length) (h' : d ≤ zs.length) : ((xs.zip zs).take d).length = d := by
  simp; omega

theorem dot_cases {R : Option ByteArray} {dm : ByteArray} {dx : Int} {bR : Bool} (h : dotCells R = #[.string dm, .int .u64 dx]) (hb : R.isSome = bR) : (R = none ∧ dm = ⟨#[]⟩ ∧ dx = 0 ∧ bR = false) ∨ ∃ m, R = some m ∧ dm = m ∧ dx = 1 ∧ bR = true := by
  subst hb
  cases R with
  | none => simp [dotCells] at h; exact .inl ⟨rfl, h.1.symm, h.2.symm, rfl⟩
  | some m => simp [dotCells] at h; exact .inr ⟨m, rfl, h.1.symm, h.2.symm, rfl⟩

theorem knF_miss {xs : List ByteArray} {n : Nat} {y : ByteArray} (h : knF xs n y = false) : ∀ i, i < n → xs.getD i ⟨#[]⟩ ≠ y := by
  intro i hi e
  rw [knF_stays xs y i e n hi] at h
  cases h

theorem fixed_plain {E : ByteArray → ByteArray → Option Int} {V : ByteArray → Option Int} {kn : ByteArray → Bool} {T : ByteArray × Int → Option ByteArray} {ds : List (ByteArray × Int)} {n : Nat} {dn m : ByteArray} {sq : Int} (hT : IsTold E V kn T) (hd : ds.getD 0 (⟨#[]⟩, 0) = (dn, sq)) (hn : 0 < n)
    (hl : (V dn).getD 0 < sq) (hE : ∀ z, E dn z = none) (hL : Least (fun x => V x ≠ none ∧ Fits kn dn x) (some m)) : sideF T ds n = some m := by
  have h1 : T (dn, sq) = some m := hT (dn, sq) (some m) (.inr ⟨fun hc => by
    rcases hc with hc | hc
    · simp only at hc
      omega
    · exact not_reach_none hE hc, hL⟩)
  exact firstF_zero (f := fun i => T (ds.getD i (⟨#[]⟩, 0))) (by show T (ds.getD 0 (⟨#[]⟩, 0)) = some m; rw [hd]; exact h1) n hn

set_option maxHeartbeats 400000 in
/-- zzHasFrom, as a function. -/
theorem hasFrom_is (a a' a'' : Option Addr) (n m l ca ca' ca'' : Nat) (fs : List ByteArray) (s : ByteArray) (c : Nat) (w : World) (hn : fs.length = n) (hc : min (min n m) l = c) (hl : n ≤ 1048576) (hx : SView w a fs) :
    Calls Try.prog 31 #[.slice a n ca, .slice a' m ca', .slice a'' l ca'', .string s] w fun e w' => e = .returned (.bool (knF fs c s)) ∧ w' = w := by
  have H1 : Hid _ := min3_any n m l c w hc
  have hcn : c ≤ n := by omega
  clear hc
  go_enter Try.func31, Try.ntmps31
  go_wp2_with fail
  refine Calls.mono H1.out ?_
  rintro e w' ⟨rfl, hww⟩
  have hw2 := hww.symm
  subst hw2
  go_wp2
  go_loop [10] (fun i => ∃ k : Nat, k ≤ c ∧ i = .int .i64 k ∧ Hid (knF fs k s = false)) (fun i => c - (intOf i).toNat)
  case atStart => exact ⟨0, Nat.zero_le _, rfl, rfl⟩
  case round =>
    obtain ⟨k, hk, rfl, hno⟩ := hrel
    by_cases hlt : k < c
    · obtain ⟨b, off, rfl, hc⟩ := hx k (by omega)
      obtain ⟨y, hy⟩ : ∃ y, fs.getD k ⟨#[]⟩ = y := ⟨_, rfl⟩
      rw [hy] at hc
      have HY : Hid _ := hy
      clear hy
      have hkn : k < n := by omega
      by_cases hys : y = s
      · subst hys
        go_wp2
        go_ret
        exact ⟨ret_bool (knF_stays fs y k HY.out c hlt).symm, rfl⟩
      · have hb := ne_list hys
        go_wp2
        go_round
        case rel =>
          refine ⟨k + 1, by omega, by go_num, ?_⟩
          show knF fs (k + 1) s = false
          rw [knF_succ, hno.out, HY.out]
          simp
          exact fun e => hys e.symm
        case measure => simp [intOf]; omega
    · obtain rfl : k = c := by omega
      go_wp2
      go_ret
      exact ⟨ret_bool hno.out.symm, rfl⟩

theorem acc_stays {X : Option ByteArray} {T : ByteArray × Int → Option ByteArray} {ds : List (ByteArray × Int)} {k : Nat} {m : ByteArray} (h : orF X (sideF T ds k) = some m) (n : Nat) (hn : k ≤ n) : orF X (sideF T ds n) = some m := by
  cases X with
  | some y => exact h
  | none =>
    have h' : sideF T ds k = some m := h
    exact firstF_stays h' n hn

theorem acc_next {X : Option ByteArray} {T : ByteArray × Int → Option ByteArray} {ds : List (ByteArray × Int)} {k : Nat} {d : ByteArray × Int} {x : Option ByteArray} (h : orF X (sideF T ds k) = none) (hd : ds.getD k (⟨#[]⟩, 0) = d) (hx : T d = x) : orF X (sideF T ds (k + 1)) = x := by
  cases X with
  | some y => cases h
  | none =>
    have h' : sideF T ds k = none := h
    show orF (sideF T ds k) (T (ds.getD k (⟨#[]⟩, 0))) = x
    rw [h', hd, hx]
    rfl

theorem part_eq (T T' : ByteArray × Int → Option ByteArray) (d : ByteArray × Int) (x : Option ByteArray) (hx : T d = x) : x = orF (sideF T [d] 1) (sideF T' [] 0) := by
  show x = orF (orF none (T d)) none
  rw [hx]
  cases x <;> rfl

theorem Side.bare {w : World} {lb vb : Nat} {G : ByteArray → Option Nat} {E : ByteArray → ByteArray → Option Int} {V : ByteArray → Option Int} {U : List ByteArray} {kn : ByteArray → Bool} {T : ByteArray × Int → Option ByteArray} {a : Option Addr} {n : Nat} {ds : List (ByteArray × Int)}
    (h : Side w lb vb G E V U kn T a n ds) : Side w lb vb G E V U kn T none 0 [] :=
  ⟨h.lv, h.told, h.sz, rfl, fun i hi => absurd hi (by simp), fun i hi => absurd hi (by simp)⟩

theorem Side.part {w : World} {lb vb : Nat} {G : ByteArray → Option Nat} {E : ByteArray → ByteArray → Option Int} {V : ByteArray → Option Int} {U : List ByteArray} {kn : ByteArray → Bool} {T : ByteArray × Int → Option ByteArray} {g : Nat} {n : Nat} {ds : List (ByteArray × Int)}
    (h : Side w lb vb G E V U kn T (some ⟨g, 0, none⟩) n ds) (k : Nat) (hk : k < n) (d : ByteArray × Int) (hd : ds.getD k (⟨#[]⟩, 0) = d) : Side w lb vb G E V U kn T (some ⟨g, k * 7, none⟩) 1 [d] := by
  have hl := h.len
  refine ⟨h.lv, h.told, h.sz, rfl, ?_, ?_⟩
  · intro i hi
    obtain rfl : i = 0 := by simp at hi; omega
    obtain ⟨b, off, e, hc⟩ := h.sibs k (by omega)
    simp at e
    obtain ⟨rfl, rfl⟩ := e
    refine ⟨g, k * 7, rfl, fun j hj => ?_⟩
    have := hc j hj
    rw [hd, Nat.zero_add] at this
    rw [Nat.zero_mul, Nat.zero_add]
    exact this
  · intro i hi
    obtain rfl : i = 0 := by simp at hi; omega
    have := h.ok k (by omega)
    rw [hd] at this
    exact this

theorem var2 (w : World) (t : TypeId) (u0 u1 v0 v1 : Value) : ∃ W2 W3 p, w.alloc (.cells #[u0, u1] t) = W2 ∧ w.heap.size = p ∧ (W2.setCell ⟨p, 0, none⟩ v0).setCell ⟨p, 1, none⟩ v1 = W3 ∧ W2.cell? ⟨p, 0, none⟩ = some u0 ∧ W2.cell? ⟨p, 1, none⟩ = some u1 ∧
    W2.frozen? ⟨p, 0, none⟩ = false ∧ W2.frozen? ⟨p, 1, none⟩ = false ∧ W3.heap[p]? = some (.cells #[v0, v1] t (0, 0)) ∧ Frame [] w W3 := by
  have r2 := heap_alloc_new w (.cells #[u0, u1] t (0, 0))
  have g0 := heap_setCell_same _ w.heap.size 0 _ t v0 r2
  refine ⟨_, _, _, rfl, rfl, rfl, cell_of_row _ _ 0 _ t (0, 0) r2, cell_of_row _ _ 1 _ t (0, 0) r2, frozen_of_row _ _ 0 _ t r2, frozen_of_row _ _ 1 _ t r2, heap_setCell_same _ w.heap.size 1 _ t v1 g0, ?_⟩
  have F : Frame [w.heap.size] w (((w.alloc (.cells #[u0, u1] t)).setCell ⟨w.heap.size, 0, none⟩ v0).setCell ⟨w.heap.size, 1, none⟩ v1) := (((Frame.refl _ _).alloc _).setCell (by simp) _).setCell (by simp) _
  exact F.drop (fun k hk => by simp at hk; omega)

end Go.Proofs.Qxb6614579a

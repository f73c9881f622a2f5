import Derived.Test.Qxb6614579aBld
namespace Go.Proofs.Qxb6614579a
open Go.RowKit
set_option linter.unusedVariables false

set_option maxHeartbeats 1000000 in
/-- zzSet. -/
theorem set_any (a : Option Addr) (n ca : Nat) (xs : List ByteArray) (w : World) (hn : xs.length = n) (hl : n ≤ 1048576) (hx : SView w a xs) :
    Calls Try.prog 18 #[.slice a n ca] w fun e w' => ∃ b, e = .returned (.map (some b)) ∧ w.heap.size ≤ b ∧ MapOf w' b (setF (knF xs n)) ∧ Below w.heap.size w w' := by
  have hmm := @run_makeMap Try.prog
  obtain ⟨W1, hW1⟩ : ∃ W, w.alloc (.map #[] 0) = W := ⟨_, rfl⟩
  have b1 : Below w.heap.size w W1 := by rw [← hW1]; exact (Below.refl _ _).alloc (Nat.le_refl _) _
  have m1 : MapOf W1 w.heap.size (fun _ => none) := by rw [← hW1]; exact MapOf.new w
  go_enter Try.func18, Try.ntmps18
  go_wp2
  go_loopw [4] (fun i wr => ∃ k : Nat, k ≤ n ∧ i = .int .i64 k ∧ Hid (MapOf wr w.heap.size (setF (knF xs k))) ∧ Hid (Frame [w.heap.size] W1 wr)) (fun i _ => n - (intOf i).toNat)
  case atStart => exact ⟨0, Nat.zero_le _, rfl, m1, Frame.refl _ _⟩
  case round =>
    obtain ⟨k, hk, rfl, HM, HF⟩ := hrel
    by_cases hlt : k < n
    · obtain ⟨b, off, rfl, hc⟩ := hx k (by omega)
      obtain ⟨y, hy⟩ : ∃ y, xs.getD k ⟨#[]⟩ = y := ⟨_, rfl⟩
      rw [hy] at hc
      have hF : Frame [w.heap.size] w wr := (Frame.of_below b1).trans HF.out
      have l1 := block_lt_of_cell hc
      simp at l1
      have g1 := hF.cell hc (by simp; omega)
      obtain ⟨W3, hup, m3, F3⟩ := HM.out.update (P := Try.prog) (t := 40) Try.underlying40 Try.underlying9 y (.bool true)
      rw [setF_put, ← hy] at m3
      have F03 : Frame [w.heap.size] W1 W3 := HF.out.trans F3
      clear hy hc l1
      go_wp2
      go_roundw
      case rel => exact ⟨k + 1, by omega, by go_num, m3, F03⟩
      case measure => simp [intOf]; omega
    · obtain rfl : k = n := by omega
      go_wp2
      go_ret
      have hF : Frame [w.heap.size] w wr := (Frame.of_below b1).trans HF.out
      exact ⟨_, rfl, Nat.le_refl _, HM.out, hF.below (Nat.le_refl _) (fun k hk => by simp at hk; omega)⟩

/-- The lineage while it is built. -/
structure LB (w : World) (lb : Nat) (G : ByteArray → Option Nat) (E : ByteArray → ByteArray → Option Int) : Prop where
  lin : Lin w lb G E
  ne : ∀ n b, G n = some b → ∃ z s, E n z = some s
  inj : ∀ n n' b, G n = some b → G n' = some b → n = n'
  lo : ∀ n b, G n = some b → lb < b

theorem LB.frame {w w' : World} {lb : Nat} {G : ByteArray → Option Nat} {E : ByteArray → ByteArray → Option Int} (h : LB w lb G E) (hf : Frame [] w w') : LB w' lb G E :=
  ⟨h.lin.frame hf (by simp) (by simp), h.ne, h.inj, h.lo⟩

theorem LB.old {w W : World} {lb : Nat} {G : ByteArray → Option Nat} {E : ByteArray → ByteArray → Option Int} (h : LB w lb G E) {y z : ByteArray} {u : Int} {ib : Nat} (hG : G y = some ib) (F : Frame [ib] w W)
    (hm : MapOf W ib (putF (fun x => (E y x).map (Value.int .u64)) z (.int .u64 u))) : LB W lb G (fun n x => if n = y ∧ x = z then some u else E n x) := by
  have hlo := h.lo y ib hG
  refine ⟨⟨h.lin.1.frame F (by simp; omega), fun n b hb => ?_, fun n hn x => ?_⟩, fun n b hb => ?_, h.inj, h.lo⟩
  · by_cases hny : n = y
    · subst hny
      rw [hG] at hb
      cases hb
      have e : putF (fun x => (E n x).map (Value.int .u64)) z (.int .u64 u) = fun x => ((if n = n ∧ x = z then some u else E n x : Option Int)).map (Value.int .u64) := by
        funext x
        by_cases hx : x = z
        · rw [putF, if_pos hx, if_pos ⟨rfl, hx⟩]; rfl
        · rw [putF, if_neg hx, if_neg (fun e => hx e.2)]
      rw [← e]
      exact hm
    · have hne : b ≠ ib := fun e => hny (h.inj n y ib (e ▸ hb) hG)
      have e : (fun x => ((if n = y ∧ x = z then some u else E n x : Option Int)).map (Value.int .u64)) = fun x => (E n x).map (Value.int .u64) := by
        funext x
        rw [if_neg (fun e => hny e.1)]
      rw [e]
      exact (h.lin.2.1 n b hb).frame F (by simpa using hne)
  · have hny : n ≠ y := by
      rintro rfl
      rw [hG] at hn
      cases hn
    show (if n = y ∧ x = z then some u else E n x) = none
    rw [if_neg (fun e => hny e.1)]
    exact h.lin.2.2 n hn x
  · obtain ⟨x, s, hx⟩ := h.ne n b hb
    by_cases hc : n = y ∧ x = z
    · exact ⟨x, u, if_pos hc⟩
    · exact ⟨x, s, by show (if n = y ∧ x = z then some u else E n x) = some s; rw [if_neg hc]; exact hx⟩

theorem LB.fresh {w W : World} {lb : Nat} {G : ByteArray → Option Nat} {E : ByteArray → ByteArray → Option Int} (h : LB w lb G E) {y z : ByteArray} {u : Int} {ib : Nat} (hG : G y = none) (hib : w.heap.size ≤ ib) (F : Frame [lb] w W)
    (hl : MapOf W lb (putF (fun n => (G n).map (fun b => .map (some b))) y (.map (some ib)))) (hm : MapOf W ib (putF (fun _ => none) z (.int .u64 u))) :
    LB W lb (fun n => if n = y then some ib else G n) (fun n x => if n = y ∧ x = z then some u else E n x) := by
  have hlt : ∀ n b, G n = some b → b < w.heap.size := fun n b hb => (h.lin.2.1 n b hb).lt
  have hll := h.lin.1.lt
  refine ⟨⟨?_, fun n b hb => ?_, fun n hn x => ?_⟩, fun n b hb => ?_, fun n n' b hb hb' => ?_, fun n b hb => ?_⟩
  · have e : putF (fun n => (G n).map (fun b => Value.map (some b))) y (.map (some ib)) = fun n => ((if n = y then some ib else G n : Option Nat)).map (fun b => Value.map (some b)) := by
      funext n
      by_cases hn : n = y
      · rw [putF, if_pos hn, if_pos hn]; rfl
      · rw [putF, if_neg hn, if_neg hn]
    rw [← e]
    exact hl
  · by_cases hny : n = y
    · subst hny
      simp only [if_pos] at hb
      cases hb
      have e : putF (fun _ => none) z (.int .u64 u) = fun x => ((if n = n ∧ x = z then some u else E n x : Option Int)).map (Value.int .u64) := by
        funext x
        by_cases hx : x = z
        · rw [putF, if_pos hx, if_pos ⟨rfl, hx⟩]; rfl
        · rw [putF, if_neg hx, if_neg (fun e => hx e.2), h.lin.2.2 n hG x]; rfl
      rw [← e]
      exact hm
    · simp only [if_neg hny] at hb
      have e : (fun x => ((if n = y ∧ x = z then some u else E n x : Option Int)).map (Value.int .u64)) = fun x => (E n x).map (Value.int .u64) := by
        funext x
        rw [if_neg (fun e => hny e.1)]
      rw [e]
      have := h.lo n b hb
      exact (h.lin.2.1 n b hb).frame F (by simp; omega)
  · have hny : n ≠ y := by
      rintro rfl
      simp at hn
    simp only [if_neg hny] at hn
    show (if n = y ∧ x = z then some u else E n x) = none
    rw [if_neg (fun e => hny e.1)]
    exact h.lin.2.2 n hn x
  · by_cases hny : n = y
    · exact ⟨z, u, if_pos ⟨hny, rfl⟩⟩
    · simp only [if_neg hny] at hb
      obtain ⟨x, s, hx⟩ := h.ne n b hb
      exact ⟨x, s, by show (if n = y ∧ x = z then some u else E n x) = some s; rw [if_neg (fun e => hny e.1)]; exact hx⟩
  · by_cases hny : n = y
    · by_cases hny' : n' = y
      · rw [hny, hny']
      · simp only [if_pos hny] at hb
        simp only [if_neg hny'] at hb'
        cases hb
        have := hlt n' _ hb'
        omega
    · by_cases hny' : n' = y
      · simp only [if_neg hny] at hb
        simp only [if_pos hny'] at hb'
        cases hb'
        have := hlt n _ hb
        omega
      · simp only [if_neg hny] at hb
        simp only [if_neg hny'] at hb'
        exact h.inj n n' b hb hb'
  · by_cases hny : n = y
    · simp only [if_pos hny] at hb
      cases hb
      omega
    · simp only [if_neg hny] at hb
      exact h.lo n b hb

theorem eql_nilMap (w : World) : (binOp .eql 30 (.map none) (.map none)).run Try.prog w = .ok (.bool true) w := by kernel_rfl
theorem eql_someMap (b : Nat) (w : World) : (binOp .eql 30 (.map (some b)) (.map none)).run Try.prog w = .ok (.bool false) w := by kernel_rfl

end Go.Proofs.Qxb6614579a

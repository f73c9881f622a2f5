import Derived.Test.Qxb6614579aSm
namespace Go.Proofs.Qxb6614579a
open Go.RowKit
set_option linter.unusedVariables false

theorem verF_put (ks : List ByteArray) (vs : List Int) (k : Nat) (y : ByteArray) (u : Int) (hy : ks.getD k ⟨#[]⟩ = y) (hu : vs.getD k 0 = u) :
    putF (fun x => (verF ks vs k x).map (Value.int .u64)) y (.int .u64 u) = fun x => (verF ks vs (k + 1) x).map (Value.int .u64) := by
  funext x
  simp only [putF, verF, hy, hu]
  by_cases h : x = y
  · rw [if_pos h, if_pos h]; rfl
  · rw [if_neg h, if_neg h]

set_option maxHeartbeats 1000000 in
/-- zzVersion. -/
theorem version_any (a a' : Option Addr) (n m ca ca' : Nat) (ks : List ByteArray) (vs : List Int) (c : Nat) (w : World) (hn : ks.length = n) (hm : vs.length = m) (hc : min n m = c) (hl : n ≤ 1048576) (hx : SView w a ks) (hv : View .u64 w a' vs) :
    Calls Try.prog 12 #[.slice a n ca, .slice a' m ca'] w fun e w' => ∃ b, e = .returned (.map (some b)) ∧ w.heap.size ≤ b ∧ MapOf w' b (fun x => (verF ks vs c x).map (Value.int .u64)) ∧ Below w.heap.size w w' := by
  have H1 : Hid _ := min2_any n m c w hc
  have hcn : c ≤ n := by omega
  have hcm : c ≤ m := by omega
  clear hc
  have hmm := @run_makeMap Try.prog
  obtain ⟨W1, hW1⟩ : ∃ W, w.alloc (.map #[] 0) = W := ⟨_, rfl⟩
  have b1 : Below w.heap.size w W1 := by rw [← hW1]; exact (Below.refl _ _).alloc (Nat.le_refl _) _
  have m1 : MapOf W1 w.heap.size (fun _ => none) := by rw [← hW1]; exact MapOf.new w
  go_enter Try.func12, Try.ntmps12
  go_wp2_with fail
  refine Calls.mono H1.out ?_
  clear H1
  rintro e w' ⟨rfl, hww⟩
  have hw2 := hww.symm
  subst hw2
  go_wp2
  go_loopw [7] (fun i wr => ∃ k : Nat, k ≤ c ∧ i = .int .i64 k ∧ Hid (MapOf wr w.heap.size (fun x => (verF ks vs k x).map (Value.int .u64))) ∧ Hid (Frame [w.heap.size] W1 wr)) (fun i _ => c - (intOf i).toNat)
  case atStart => exact ⟨0, Nat.zero_le _, rfl, m1, Frame.refl _ _⟩
  case round =>
    obtain ⟨k, hk, rfl, HM, HF⟩ := hrel
    by_cases hlt : k < c
    · obtain ⟨b, off, rfl, hc⟩ := hx k (by omega)
      obtain ⟨b', off', rfl, hc'⟩ := hv k (by omega)
      obtain ⟨y, hy⟩ : ∃ y, ks.getD k ⟨#[]⟩ = y := ⟨_, rfl⟩
      obtain ⟨u, hu⟩ : ∃ u, vs.getD k 0 = u := ⟨_, rfl⟩
      rw [hy] at hc
      rw [hu] at hc'
      have hF : Frame [w.heap.size] w wr := (Frame.of_below b1).trans HF.out
      have l1 := block_lt_of_cell hc
      have l2 := block_lt_of_cell hc'
      simp at l1 l2
      have g1 := hF.cell hc (by simp; omega)
      have g2 := hF.cell hc' (by simp; omega)
      obtain ⟨W3, hup, m3, F3⟩ := (HM.out.frame (Frame.refl [] wr).drew (by simp)).update (P := Try.prog) (t := 31) Try.underlying31 Try.underlying9 y (.int .u64 u)
      rw [verF_put ks vs k y u hy hu] at m3
      have F03 : Frame [w.heap.size] W1 W3 := (HF.out.trans (Frame.refl _ wr).drew).trans F3
      have hkn : k < n := by omega
      have hkm : k < m := by omega
      clear hy hu hc hc' l1 l2
      go_wp2_with fail
      go_region
      all_goals
        go_wp2
        go_roundw
        case rel => exact ⟨k + 1, by omega, by go_num, m3, F03⟩
        case measure => simp [intOf]; omega
    · obtain rfl : k = c := by omega
      go_wp2
      go_ret
      have hF : Frame [w.heap.size] w wr := (Frame.of_below b1).trans HF.out
      exact ⟨_, rfl, Nat.le_refl _, HM.out, hF.below (Nat.le_refl _) (fun k hk => by simp at hk; omega)⟩

end Go.Proofs.Qxb6614579a

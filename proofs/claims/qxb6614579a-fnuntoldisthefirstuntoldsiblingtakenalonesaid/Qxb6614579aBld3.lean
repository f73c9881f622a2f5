import Derived.Test.Qxb6614579aBld2
namespace Go.Proofs.Qxb6614579a
open Go.RowKit
set_option linter.unusedVariables false

theorem edF_fun (fs ts : List ByteArray) (ss : List Int) (k : Nat) (y z : ByteArray) (u : Int) (hy : fs.getD k ⟨#[]⟩ = y) (hz : ts.getD k ⟨#[]⟩ = z) (hu : ss.getD k 0 = u) :
    (fun n x => if n = y ∧ x = z then some u else edF fs ts ss k n x) = edF fs ts ss (k + 1) := by
  subst hy hz hu
  rfl

set_option maxHeartbeats 2000000 in
set_option maxRecDepth 100000 in
/-- zzLineage. -/
theorem lineage_any (a a' a'' : Option Addr) (n m l ca ca' ca'' : Nat) (fs ts : List ByteArray) (ss : List Int) (c : Nat) (w : World) (hn : fs.length = n) (hm : ts.length = m) (hs : ss.length = l) (hc : min (min n m) l = c) (hl : n ≤ 1048576)
    (hx : SView w a fs) (ht : SView w a' ts) (hv : View .u64 w a'' ss) :
    Calls Try.prog 11 #[.slice a n ca, .slice a' m ca', .slice a'' l ca''] w fun e w' => ∃ b G, e = .returned (.map (some b)) ∧ w.heap.size ≤ b ∧ LB w' b G (edF fs ts ss c) ∧ Below w.heap.size w w' := by
  have H1 : Hid _ := min3_any n m l c w hc
  have hcn : c ≤ n := by omega
  have hcm : c ≤ m := by omega
  have hcl : c ≤ l := by omega
  clear hc
  have hmm := @run_makeMap Try.prog
  obtain ⟨W1, hW1⟩ : ∃ W, w.alloc (.map #[] 0) = W := ⟨_, rfl⟩
  have b1 : Below w.heap.size w W1 := by rw [← hW1]; exact (Below.refl _ _).alloc (Nat.le_refl _) _
  have m1 : MapOf W1 w.heap.size (fun _ => none) := by rw [← hW1]; exact MapOf.new w
  have L1 : LB W1 w.heap.size (fun _ => none) (edF fs ts ss 0) := ⟨⟨m1, fun n b hb => (by cases hb), fun n _ z => rfl⟩, fun n b hb => (by cases hb), fun n n' b hb => (by cases hb), fun n b hb => (by cases hb)⟩
  go_enter Try.func11, Try.ntmps11
  go_wp2_with fail
  refine Calls.mono H1.out ?_
  clear H1
  rintro e w' ⟨rfl, hww⟩
  have hw2 := hww.symm
  subst hw2
  go_wp2
  go_loopw [9] (fun i wr => ∃ k : Nat, k ≤ c ∧ i = .int .i64 k ∧ ∃ G, Hid (LB wr w.heap.size G (edF fs ts ss k)) ∧ Hid (Below w.heap.size W1 wr)) (fun i _ => c - (intOf i).toNat)
  case atStart => exact ⟨0, Nat.zero_le _, rfl, _, L1, Below.refl _ _⟩
  case round =>
    obtain ⟨k, hk, rfl, G, HL, HB⟩ := hrel
    by_cases hlt : k < c
    · obtain ⟨b, off, rfl, hc⟩ := hx k (by omega)
      obtain ⟨b', off', rfl, hc'⟩ := ht k (by omega)
      obtain ⟨b'', off'', rfl, hc''⟩ := hv k (by omega)
      obtain ⟨y, hy⟩ : ∃ y, fs.getD k ⟨#[]⟩ = y := ⟨_, rfl⟩
      obtain ⟨z, hz⟩ : ∃ z, ts.getD k ⟨#[]⟩ = z := ⟨_, rfl⟩
      obtain ⟨u, hu⟩ : ∃ u, ss.getD k 0 = u := ⟨_, rfl⟩
      rw [hy] at hc
      rw [hz] at hc'
      rw [hu] at hc''
      have hE := edF_fun fs ts ss k y z u hy hz hu
      have F0r : Frame [] w wr := Frame.of_below (b1.trans HB.out)
      have g1 := F0r.cell hc (by simp)
      have g2 := F0r.cell hc' (by simp)
      have g3 := F0r.cell hc'' (by simp)
      have hlb := HL.out.lin.1.lt
      have ls := F0r.size
      have l1 := block_lt_of_cell hc
      have l2 := block_lt_of_cell hc'
      have l3 := block_lt_of_cell hc''
      simp at l1 l2 l3
      have hkn : k < n := by omega
      have hkm : k < m := by omega
      have hkl : k < l := by omega
      clear hy hz hu hc hc' hc''
      have hlk := HL.out.lin.1.lookup (P := Try.prog) (t := 28) Try.underlying28 Try.underlying9 (zero30 wr) y
      cases hG : G y with
      | none =>
        rw [hG] at hlk
        simp only [Option.map_none, Option.getD_none] at hlk
        have hq := eql_nilMap wr
        obtain ⟨W2, hW2⟩ : ∃ W, wr.alloc (.map #[] 0) = W := ⟨_, rfl⟩
        have F2 : Frame [] wr W2 := by rw [← hW2]; exact (Frame.refl _ _).alloc _
        have i2 : MapOf W2 wr.heap.size (fun _ => none) := by rw [← hW2]; exact MapOf.new wr
        have e1 := F2.cell g1 (by simp)
        have e2 := F2.cell g2 (by simp)
        have e3 := F2.cell g3 (by simp)
        obtain ⟨W3, hup, m3, F3⟩ := (HL.out.lin.1.frame F2 (by simp)).update (P := Try.prog) (t := 28) Try.underlying28 Try.underlying9 y (.map (some wr.heap.size))
        have f2 := F3.cell e2 (by simp; omega)
        have f3 := F3.cell e3 (by simp; omega)
        have i3 := i2.frame F3 (by simp; omega)
        obtain ⟨W4, hup4, i4, F4⟩ := (i3.frame (Frame.refl [] W3).drew (by simp)).update (P := Try.prog) (t := 30) Try.underlying30 Try.underlying9 z (.int .u64 u)
        have F34 : Frame [wr.heap.size] W3 W4 := (Frame.refl _ W3).drew.trans F4
        have F24 : Frame [w.heap.size, wr.heap.size] wr W4 := (F2.mono (by simp)).trans ((F3.mono (by simp)).trans (F34.mono (by simp)))
        have Fr4 : Frame [w.heap.size] wr W4 := F24.drop (fun k hk => by simp at hk; simp; omega)
        have L4 := HL.out.fresh hG (Nat.le_refl _) Fr4 (m3.frame F34 (by simp; omega)) i4
        rw [hE] at L4
        have B4 : Below w.heap.size W1 W4 := HB.out.trans (Fr4.below (by omega) (fun k hk => by simp at hk; omega))
        have HL4 : Hid _ := L4
        clear L4 hG i2 i3 i4 m3 hE
        go_wp2_with fail
        go_region
        all_goals
          go_wp2
          go_roundw
          case rel => exact ⟨k + 1, by omega, by go_num, _, HL4, B4⟩
          case measure => simp [intOf]; omega
      | some ib =>
        rw [hG] at hlk
        simp only [Option.map_some, Option.getD_some] at hlk
        have hq := eql_someMap ib wr
        have hib := HL.out.lo y ib hG
        have i3 := HL.out.lin.2.1 y ib hG
        obtain ⟨W4, hup4, i4, F4⟩ := (i3.frame (Frame.refl [] wr).drew (by simp)).update (P := Try.prog) (t := 30) Try.underlying30 Try.underlying9 z (.int .u64 u)
        have Fr4 : Frame [ib] wr W4 := (Frame.refl _ wr).drew.trans F4
        have L4 := HL.out.old hG Fr4 i4
        rw [hE] at L4
        have B4 : Below w.heap.size W1 W4 := HB.out.trans (Fr4.below (by omega) (fun k hk => by simp at hk; omega))
        have HL4 : Hid _ := L4
        clear L4 hG i3 i4 hE
        go_wp2_with fail
        go_region
        all_goals
          go_wp2
          go_roundw
          case rel => exact ⟨k + 1, by omega, by go_num, _, HL4, B4⟩
          case measure => simp [intOf]; omega
    · obtain rfl : k = c := by omega
      go_wp2
      go_ret
      exact ⟨_, G, rfl, Nat.le_refl _, HL.out, b1.trans HB.out⟩

end Go.Proofs.Qxb6614579a

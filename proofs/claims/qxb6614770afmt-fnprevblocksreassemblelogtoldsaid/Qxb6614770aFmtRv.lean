import Derived.Test.Qxb6614770aFmtRe2
namespace Go.Proofs.Qxb6614770aFmt
open Go.RowKit
set_option linter.unusedVariables false

/-- What a blockReverser's buffer is: nil, or a row of its own. -/
def Buf (w : World) (L g q : Nat) (da ba : Option Addr) (k c : Nat) : Prop :=
  (ba = none ∧ k = 0 ∧ c = 0) ∨ ∃ bb B, ba = some ⟨bb, 0, none⟩ ∧ w.heap[bb]? = some (.cells (List.toArray B) 5 (0, 0)) ∧ B.length = c ∧ k ≤ c ∧ 65536 < c ∧ L ≤ bb ∧ bb ≠ g ∧ bb ≠ q ∧ ∀ dd, da = some ⟨dd, 0, none⟩ → dd ≠ bb

/-- A blockReverser over D: it holds the bytes s .. s + k; what is ahead of s is unread. -/
structure Rv (w : World) (L g q : Nat) (da : Option Addr) (N s k : Nat) (D : List Int) : Prop where
  hq : w.heap[q]? = some (.cells #[.slice da N N, .int .i64 0, .int .i64 (-1)] 41 (0, 0))
  hD : View .u8 w da D
  hDl : D.length = N
  hN : N ≤ 1048576
  he : s + k ≤ N
  hda : 0 < N → ∃ dd, da = some ⟨dd, 0, none⟩ ∧ dd ≠ g ∧ dd ≠ q
  lg : L ≤ g
  lq : L ≤ q
  ngq : g ≠ q
  hg : ∃ ba c, w.heap[g]? = some (.cells (rvCells q (.slice ba k c) (s : Nat)) 38 (0, 0)) ∧ View .u8 w ba ((D.drop s).take k) ∧ Buf w L g q da ba k c

theorem Rv.of_heap {w w' : World} {L g q : Nat} {da : Option Addr} {N s k : Nat} {D : List Int} (R : Rv w L g q da N s k D) (h : w'.heap = w.heap) : Rv w' L g q da N s k D := by
  obtain ⟨hq, hD, hDl, hN, he, hda, lg, lq, ngq, ba, c, hg, hv, hb⟩ := R
  have hvw : ∀ {x : Option Addr} {xs : List Int}, View .u8 w x xs → View .u8 w' x xs := fun hx i hi => by
    obtain ⟨b, o, e, hc⟩ := hx i hi
    exact ⟨b, o, e, (World.cell?_of_block (by rw [h])).trans hc⟩
  refine ⟨by rw [h]; exact hq, hvw hD, hDl, hN, he, hda, lg, lq, ngq, ba, c, by rw [h]; exact hg, hvw hv, ?_⟩
  unfold Buf at hb ⊢
  rw [h]
  exact hb

/-- readEarlier: as many bytes as there are, at most 65536, ahead of what it holds. -/
theorem earlier_any (L g q N s p n k : Nat) (da : Option Addr) (D : List Int) (w : World) (R : Rv w L g q da N s k D) (hs : s = p + n) (hn1 : 1 ≤ n) (hn : n = Nat.min 65536 s) :
    Calls Tryf.prog 14 #[.pointer (some ⟨g, 0, none⟩)] w fun x w' => x = .returned .nilIface ∧ Rv w' L g q da N p (n + k) D ∧ Below L w w' := by
  obtain ⟨hq, hD, hDl, hN, he, hda, lg, lq, ngq, ba, c, hg, hv, hb⟩ := R
  obtain ⟨dd, rfl, n2, n6⟩ := hda (by have := hn1; clear hda; omega)
  clear hda
  have hle : n ≤ 65536 := by rw [hn]; exact Nat.min_le_left _ _
  have hzg : g < w.heap.size := (Array.getElem?_eq_some_iff.1 hg).1
  have hzq : q < w.heap.size := (Array.getElem?_eq_some_iff.1 hq).1
  have hzd : dd < w.heap.size := by
    obtain ⟨b9, o9, e9, cL⟩ := hD 0 (by omega)
    simp at e9
    obtain ⟨rfl, rfl⟩ := e9
    exact block_lt_of_cell cL
  by_cases hc : c < n + k
  · refine Calls.mono (earlier_grow g q dd N s p n k c (n + k + 65536) ba D w hg hq hD hDl hN hs hn1 he hn hc hv ngq n2 rfl) ?_
    rintro x w' ⟨rfl, B, hg', hBl, hb', hv', hF⟩
    have hbel : Below L w w' := hF.below (by omega) (by simp; omega)
    have hq' := hF.obj hq (by simp; omega)
    have hD' := hD.frame hF (fun b off e => by simp at e; simp; omega)
    refine ⟨rfl, ⟨hq', hD', hDl, hN, by omega, fun _ => ⟨dd, rfl, n2, n6⟩, lg, lq, ngq, _, _, hg', hv', ?_⟩, hbel⟩
    exact .inr ⟨_, B, rfl, hb', hBl, by omega, by omega, by omega, by omega, by omega, fun d e => by simp at e; omega⟩
  · rcases hb with ⟨_, h0, hc0⟩ | ⟨bb, B, rfl, hbb, hBl, hkc, hc6, lb, n3, n4, n5⟩
    · omega
    · have n5' := n5 dd rfl
      refine Calls.mono (earlier_place g q dd bb N s p n k c D B w hg hq hD hDl hN hs hn1 he hn (by omega) (by omega) hbb hBl hv ngq n2 n3 n4 n5') ?_
      rintro x w' ⟨rfl, B', hg', hBl', hb', hv', hF⟩
      have hbel : Below L w w' := hF.below (by omega) (fun k hk => by simp at hk; omega)
      have hq' := hF.obj hq (by simp; omega)
      have hD' := hD.frame hF (fun b off e => by simp at e; simp; omega)
      refine ⟨rfl, ⟨hq', hD', hDl, hN, by omega, fun _ => ⟨dd, rfl, n2, n6⟩, lg, lq, ngq, _, _, hg', hv', ?_⟩, hbel⟩
      exact .inr ⟨bb, B', rfl, hb', hBl', by omega, hc6, lb, n3, n4, n5⟩

end Go.Proofs.Qxb6614770aFmt

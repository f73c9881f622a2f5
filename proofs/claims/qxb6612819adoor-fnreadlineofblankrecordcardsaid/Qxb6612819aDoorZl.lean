import Derived.Test.Qxb6612819aDoorNew
namespace Go.Proofs.Qxb6612819aDoor
open Go.RowKit
set_option linter.unusedVariables false

theorem zread_of (g : Nat) (w : World) (R : Ending → World → Prop) (h : Calls Tryd.prog 17 #[.pointer (some ⟨g, 0, none⟩)] w fun e w' => ∃ x y, e = .returned (.tuple #[x, y]) ∧ R e w') :
    Calls Tryd.prog 9 #[.pointer (some ⟨g, 0, none⟩)] w R := by
  have T : Hid _ := h
  clear h
  go_enter Tryd.func9, Tryd.ntmps9
  go_wp2_with fail
  refine Calls.mono T.out ?_
  clear T
  rintro e W1 ⟨x, y, rfl, hR⟩
  go_wp2
  exact hR

/-- The first line: as many spaces as the record has, at most 10000. -/
theorem zline_first (g q dd bb n L : Nat) (B : List Value) (a0 a1 : Addr) (w : World) (S : St w g q dd bb (n + 1) 0 0 (blk n) B) (hs : Sen w L a0 a1) (lg : L ≤ g) (lq : L ≤ q) (lb : L ≤ bb) :
    Calls Tryd.prog 9 #[.pointer (some ⟨g, 0, none⟩)] w fun e w' => ∃ a' c' B' r', e = .returned (.tuple #[.slice a' (Nat.min n 10000) c', .nilIface]) ∧ View .u8 w' a' (List.replicate (Nat.min n 10000) 32) ∧ St w' g q dd bb (n + 1) (n + 1) r' (blk n) B' ∧ 1 ≤ r' ∧ Frame [g, q, bb] w w' := by
  by_cases hn : n < 10000
  · rw [show Nat.min n 10000 = n from Nat.min_eq_left (by omega)]
    refine zread_of g w _ (Calls.mono (readLine_line g q dd bb n 0 L B a0 a1 w S hn hs lg lq lb) ?_)
    rintro e w' ⟨a', c', B', rfl, hv, hS, F⟩
    exact ⟨_, _, rfl, a', c', B', n + 1, rfl, hv, hS, by omega, F⟩
  · rw [show Nat.min n 10000 = 10000 from Nat.min_eq_right (by omega)]
    refine zread_of g w _ (Calls.mono (readLine_full g q dd bb n 0 L B a0 a1 w S (by omega) hs lg lq lb) ?_)
    rintro e w' ⟨a', c', B', r', rfl, hv, hS, hr, F⟩
    exact ⟨_, _, rfl, a', c', B', r', rfl, hv, hS, hr, F⟩

/-- The second: none, and io.EOF. -/
theorem zline_second (g q dd bb N r L : Nat) (D : List Int) (B : List Value) (a0 a1 : Addr) (w : World) (S : St w g q dd bb N N r D B) (hr0 : 1 ≤ r) (hs : Sen w L a0 a1) (lg : L ≤ g) (lq : L ≤ q) (lb : L ≤ bb) :
    Calls Tryd.prog 9 #[.pointer (some ⟨g, 0, none⟩)] w fun e w' => e = .returned (.tuple #[.slice none 0 0, .iface 65 (.pointer (some a1))]) ∧ Frame [g, q, bb] w w' :=
  zread_of g w _ (Calls.mono (readLine_eof g q dd bb N r L D B a0 a1 w S hr0 hs lg lq lb) (by rintro e w' ⟨rfl, F⟩; exact ⟨_, _, rfl, rfl, F⟩))

end Go.Proofs.Qxb6612819aDoor

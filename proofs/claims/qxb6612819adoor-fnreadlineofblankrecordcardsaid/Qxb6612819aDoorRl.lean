import Derived.Test.Qxb6612819aDoorSen
import Derived.Deep.LoopGhost
namespace Go.Proofs.Qxb6612819aDoor
open Go.RowKit
set_option linter.unusedVariables false

set_option maxHeartbeats 2000000 in
set_option maxRecDepth 100000 in
theorem readLine_eof (g q dd bb N r L : Nat) (D : List Int) (B : List Value) (a0 a1 : Addr) (w : World) (S : St w g q dd bb N N r D B) (hr0 : 1 ≤ r) (hs : Sen w L a0 a1) (lg : L ≤ g) (lq : L ≤ q) (lb : L ≤ bb) :
    Calls Tryd.prog 17 #[.pointer (some ⟨g, 0, none⟩)] w fun e w' => e = .returned (.tuple #[.slice none 0 0, .iface 65 (.pointer (some a1))]) ∧ Frame [g, q, bb] w w' := by
  have hL := hs.l
  go_enter Tryd.func17, Tryd.ntmps17
  go_wp2_with fail
  refine (readSlice_eof g q dd bb N N r D B 65 (.pointer (some a1)) _ S hr0 rfl hs.e1 (fun hm => by have := mem3 lg lq lb hm; omega)).mono ?_
  rintro e W1 ⟨rfl, S1, F1⟩
  have hs1 := hs.frame F1 (fun k hk => mem3 lg lq lb hk)
  have e0 := hs1.e0
  have e1 := hs1.e1
  have q1 := hs1.other
  have q2 := eql_same a1 W1
  go_wp2
  go_ret2
  exact ⟨rfl, F1⟩

end Go.Proofs.Qxb6612819aDoor

/-
  'Rows.FnReadLineOfBlankRecordCardSaid', PROVED: the row (Qxb6612819aDoorLift.lean), its given tie, the card by the builder's one call.
-/
import Derived.Test.Qxb6612819aDoorLift
import Derived.Test.Qxb6612819aDoorTie
import Derived.Test.Qxb6612819aDoorCards
import Derived.SevenTiedAt
namespace Go.Proofs.Qxb6612819aDoor.fnReadLineOfBlankRecord
open Go

/-- ████ THE STATEMENT ████ -/
theorem proved : Rows.FnReadLineOfBlankRecordCardSaid :=
  Claim7.holds_tied_plain_at .later [] [.sentinel, .sentinel, .sentinel, .sentinel] true (true, "2e919e3506656ba0c88c33de40018c3445c3f02401b8a37479595b776981a6da") true
    over (fun _ h => by cases h) (by kernel_rfl) (fun _ h => by cases h) fnReadLineOfBlankRecord_row_tie rfl ⟨rfl, rfl⟩ (by kernel_rfl) rfl
    (fun f fn hf hfn => by
      obtain rfl : f = 5 := Option.some.inj ((show Tryd.prog.funcNamed Rows.fnReadLineOfBlankRecordRow.func = some 5 by kernel_rfl).symm.trans hf) |>.symm
      obtain rfl : fn = Tryd.f5 := (Option.some.inj (Tryd.func5.symm.trans hfn)).symm
      exact ⟨by kernel_rfl, fun j t ht => by
        rw [Tryd.params5] at ht
        have hm : t ∈ [3] := by simpa using Array.mem_of_getElem? ht
        have hall : ([3].all fun u => !Tryd.prog.wantsStandIn u) = true := by kernel_rfl
        exact (show Tryd.prog.wantsStandIn t = false by simpa using List.all_eq_true.1 hall t hm)⟩)
    (by kernel_rfl)
#print axioms proved
end Go.Proofs.Qxb6612819aDoor.fnReadLineOfBlankRecord

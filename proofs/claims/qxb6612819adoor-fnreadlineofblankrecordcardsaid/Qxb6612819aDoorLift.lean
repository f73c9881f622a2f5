import Derived.Test.Qxb6612819aDoorRows
import Derived.Test.Qxb6612819aDoorLaw
import Derived.ProofKit
import Derived.LaidMore
import Derived.OpenShut
import Derived.Below
import Derived.LaidLaws
import Derived.Stop.Joined
namespace Go.Proofs.Qxb6612819aDoor.fnReadLineOfBlankRecord
open Go.ChangeShapes Go.WideShapes Go.ChangeAt Go.RowKit
set_option linter.unusedVariables false

theorem own : ownKnob Tryd.prog.godebug = none := by kernel_rfl
theorem gEof : Tryd.prog.globalNamed "io.EOF" = some 1 := by kernel_rfl
theorem gNop : Tryd.prog.globalNamed "io.ErrNoProgress" = some 3 := by kernel_rfl
theorem gFull : Tryd.prog.globalNamed "bufio.ErrBufferFull" = some 0 := by kernel_rfl
theorem gNeg : Tryd.prog.globalNamed "bufio.errNegativeRead" = some 2 := by kernel_rfl
theorem tEof : (Tryd.prog.globals[1]?).map (·.type) = some 28 := by kernel_rfl
theorem tNop : (Tryd.prog.globals[3]?).map (·.type) = some 28 := by kernel_rfl
theorem tFull : (Tryd.prog.globals[0]?).map (·.type) = some 28 := by kernel_rfl
theorem tNeg : (Tryd.prog.globals[2]?).map (·.type) = some 28 := by kernel_rfl
/-- The name of the type that a datum of an interface bears. -/
def nameOf (d : DataW Unit) : String := match d with
  | .iface n _ => n
  | _ => ""
theorem row65 (u : TypeId) (h : Tryd.prog.typeName? 3 u = some (nameOf Rows.laid_io_EOF)) : u = 65 :=
  typeName_ptr_named (nm := "errors.errorString") (by kernel_rfl) (by kernel_rfl) (by decide) u (h.trans (congrArg some (by unfold nameOf Rows.laid_io_EOF; decide)))
theorem cells83 : Tryd.prog.cellsOf 83 = 1 := by kernel_rfl
theorem cells9 : Tryd.prog.cellsOf 9 = 1 := by kernel_rfl

theorem door_met (os : Os) (args : Array Value) : laidMetH Tryd.prog Rows.fnReadLineOfBlankRecordRow.laid ((World.doorLaid Tryd.prog 400 os).forCall (fun _ _ => 0) ⟨#[], args, []⟩).memory :=
  laidMetH_of_parts3 (fuel := 8) (laidMet_of_run' 8 (by kernel_rfl) (by kernel_rfl)) (by kernel_rfl) (by kernel_rfl)

/-- What the condition gives the walk. -/
theorem sen_of_laid {W : World} (h : laidMetH Tryd.prog Rows.fnReadLineOfBlankRecordRow.laid W) : ∃ a0 a1, Sen W W.heap.size a0 a1 := by
  rw [MakeChecks.laidMetH_plain _ _ _ (by kernel_rfl)] at h
  obtain ⟨ps, ⟨g0, t0, cs0, f0, p0, q0, hg0, ht0, hv0, hd0, ⟨g1, t1, cs1, f1, p1, q1, hg1, ht1, hv1, hd1, ⟨g2, t2, cs2, f2, p2, q2, hg2, ht2, hv2, hd2, ⟨g3, t3, cs3, f3, p3, q3, hg3, ht3, hv3, hd3, hq3, e3⟩, e2⟩, e1⟩, e0⟩, hnd, hrows⟩ := h
  obtain rfl := Option.some.inj (gEof.symm.trans hg0)
  obtain rfl := Option.some.inj (gNop.symm.trans hg1)
  obtain rfl := Option.some.inj (gFull.symm.trans hg2)
  obtain rfl := Option.some.inj (gNeg.symm.trans hg3)
  obtain rfl := Option.some.inj (tEof.symm.trans ht0)
  obtain rfl := Option.some.inj (tNop.symm.trans ht1)
  obtain rfl := Option.some.inj (tFull.symm.trans ht2)
  obtain rfl := Option.some.inj (tNeg.symm.trans ht3)
  have hq3' : q3 = [] := hq3
  subst hq3'
  subst e3
  subst e2
  subst e1
  subst e0
  obtain ⟨l0⟩ := cs0
  obtain ⟨l1⟩ := cs1
  obtain ⟨l2⟩ := cs2
  obtain ⟨l3⟩ := cs3
  have ok0 : ∀ u v, l0 = [.iface u v] → Value.okWide Tryd.prog W .any 0 u v := fun u v e => by
    subst e
    exact (hrows 1 0 (by simp [MemPlace.row])).2 u v (by simpa using World.var?_cell hg0 hv0 0)
  have ok2 : ∀ u v, l2 = [.iface u v] → Value.okWide Tryd.prog W .any 0 u v := fun u v e => by
    subst e
    exact (hrows 0 0 (by simp [MemPlace.row])).2 u v (by simpa using World.var?_cell hg2 hv2 0)
  obtain ⟨a1, s1, rfl, hc1, hs1, hz1, rfl⟩ := errorString_of_trod Tryd.underlying28 row65 Tryd.underlying65 Tryd.underlying83 rfl rfl Tryd.underlying9 cells83 cells9 hd0 ok0
  obtain ⟨a0, s0, rfl, hc0, hs0, hz0, rfl⟩ := errorString_of_trod Tryd.underlying28 row65 Tryd.underlying65 Tryd.underlying83 rfl rfl Tryd.underlying9 cells83 cells9 hd2 ok2
  obtain ⟨c1, t1, hb1⟩ := (hrows a1.block a1.off (by simp [MemPlace.row])).1
  obtain ⟨c0, t0, hb0⟩ := (hrows a0.block a0.off (by simp [MemPlace.row])).1
  have hE1 : W.cell? ⟨1, 0, none⟩ = some (.iface 65 (.pointer (some a1))) := by simpa using World.var?_cell gEof hv0 0
  have hE0 : W.cell? ⟨0, 0, none⟩ = some (.iface 65 (.pointer (some a0))) := by simpa using World.var?_cell gFull hv2 0
  refine ⟨a0, a1, hE0, hE1, ⟨c0, t0, hb0⟩, ⟨c1, t1, hb1⟩, ?_, ?_, ?_, ?_⟩
  · rintro rfl
    simp [MemPlace.row] at hnd
  · have := block_lt_of_cell hE1
    simp at this
    omega
  · exact (Array.getElem?_eq_some_iff.1 hb0).1
  · exact (Array.getElem?_eq_some_iff.1 hb1).1

set_option maxRecDepth 100000 in
theorem lifted (os : Os) (started : os.Started) (H : Type) (enc : TypeId × Value → H) :
    ReturnsInHanded {} Tryd.checked os 5 .any (fun w args => (Rows.fnReadLineOfBlankRecordSpec.pre enc Tryd.prog Tryd.f5 [] false w args ∧ laidMetH Tryd.prog Rows.fnReadLineOfBlankRecordRow.laid w) ∧ sizedMet enc Tryd.prog Tryd.f5 (OpenSpec.ofChange Rows.fnReadLineOfBlankRecordSpec) false w args)
      (Rows.fnReadLineOfBlankRecordSpec.post enc Tryd.prog Tryd.f5 false true false false) := by
  refine returnsInHanded_of_change_and (C := Tryd.checked) (X := fun w _ => laidMetH Tryd.prog Rows.fnReadLineOfBlankRecordRow.laid w) (fun _ _ _ hh h => h.of_heap hh) own started (by kernel_rfl) Tryd.func5
    (ChangeSpec.witness_shaped (enc := enc) (C := Tryd.checked) (os := os) (X := fun w _ => laidMetH Tryd.prog Rows.fnReadLineOfBlankRecordRow.laid w) false (World.doorLaid Tryd.prog 400 os) #[.int .i64 0] 8 rfl (World.shaped_of_RefB (by kernel_rfl) (by kernel_rfl)) (by kernel_rfl) (by kernel_rfl) (by kernel_rfl) (door_met os _)) ?_
  intro W base args ds gs before hval0 hW _ _ hL _
  have hval : ∀ (j : Nat) t v, Tryd.f5.params[j]? = some t → args[j]? = some v → Value.okWide Tryd.prog W .any base t v := hval0
  have hW' := hW
  obtain ⟨p, q, hA0, hV, rfl, hfz, hnd⟩ := hW
  have hA : DataW.TrodAll enc Tryd.prog W 0 (fun _ => true) true Tryd.f5.params.toList args.toList ds p := hA0
  rw [Tryd.params5] at hA hval
  obtain ⟨v0, d0, rfl, rfl, h0⟩ := trodAll_one hA
  obtain ⟨rfl, rfl⟩ := trodVars_none hV
  obtain ⟨n, rfl, rfl, rfl, hwn⟩ := open_int Tryd.underlying3 (hval 0 3 v0 rfl rfl) h0
  obtain ⟨a0, a1, hs⟩ := sen_of_laid hL
  clear hA0 hval0
  have walk : Calls Tryd.prog 5 #[.int .i64 n] W fun e w' => e = .returned (.bool true) ∧ Below W.heap.size W w' := by
    by_cases h : n < 0 ∨ 65536 < n
    · exact law_far n W h
    · obtain ⟨m, rfl⟩ := Int.eq_ofNat_of_zero_le (by omega : 0 ≤ n)
      exact law_in m a0 a1 W (by omega) hs
  refine walk.mono fun e W' ⟨he, bel⟩ => ?_
  subst he
  exact ⟨_, rfl, _, _, _, [], _, [], hW', trodAll_mk1 (shut_bool Tryd.underlying4 _), trodAll_mk1 (shut_int Tryd.underlying3 hwn), rfl, bel.frame _, fun h => by cases h⟩

theorem over : Rows.FnReadLineOfBlankRecordSaid :=
  OpenClaim.holds_of_wide 5 Tryd.f5 rfl rfl rfl rfl rfl rfl rfl ⟨rfl, rfl, rfl, rfl, rfl⟩ rfl rfl rfl rfl rfl (by kernel_rfl) Tryd.func5 (by kernel_rfl)
    (of_decide_eq_true (by kernel_rfl)) (by unfold Func.isWrapper; first | (rw [if_pos (by decide +kernel)]; kernel_rfl) | (rw [if_neg (by decide +kernel)]; exact ⟨rfl, rfl⟩))
    (fun os started H enc _ => lifted os started H enc)

end Go.Proofs.Qxb6612819aDoor.fnReadLineOfBlankRecord

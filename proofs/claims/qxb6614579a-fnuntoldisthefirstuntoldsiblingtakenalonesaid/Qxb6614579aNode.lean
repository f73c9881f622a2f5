import Derived.Test.Qxb6614579aCov
import Derived.Lib.Bytealg
namespace Go.Proofs.Qxb6614579a
open Go.RowKit
set_option linter.unusedVariables false

/-- Where '~' stands first, or -1. -/
def ixT (s : ByteArray) : Int := Lib.indexByte s.data.toList 126

set_option maxHeartbeats 400000 in
set_option maxRecDepth 100000 in
theorem slIndexByte (s : ByteArray) (w : World) :
    Calls Try.prog 48 #[.string s, .int .u8 126] w fun e w' => e = .returned (.int .i64 (ixT s)) ∧ w' = w := by
  have HR : Hid _ := Lib.run_indexByteString (P := Try.prog) s 126 w
  go_enter Try.func48, Try.ntmps48
  go_wp2
  rw [run_callFunc_extern Try.func52 (by kernel_rfl) (by kernel_rfl) (by kernel_rfl) (e := Extern.BytealgIndexByte.indexByte) (by kernel_rfl), HR.out]
  simp only [Result.andThen]
  rw [Oper.upon_value]
  go_wp2
  go_ret
  exact ⟨rfl, rfl⟩

set_option maxHeartbeats 1000000 in
set_option maxRecDepth 100000 in
theorem slIndex (s : ByteArray) (w : World) :
    Calls Try.prog 47 #[.string s, .string ⟨#[126]⟩] w fun e w' => e = .returned (.int .i64 (ixT s)) ∧ w' = w := by
  by_cases hs : s = ⟨#[126]⟩
  · subst hs
    have h0 : ixT ⟨#[126]⟩ = 0 := by decide
    have ht : (([126] : List UInt8) == (ByteArray.mk #[126]).toList) = true := by decide +kernel
    go_enter Try.func47, Try.ntmps47
    go_wp2
    go_ret
    exact ⟨by rw [h0]; rfl, rfl⟩
  · have ht : (([126] : List UInt8) == s.toList) = false := by
      cases h : (([126] : List UInt8) == s.toList) with
      | false => rfl
      | true =>
        have e := eq_of_beq h
        rw [Go.ByteArray.toList_eq] at e
        exact absurd (WideShapes.bytes_inj (a := s) (b := ⟨#[126]⟩) e.symm) hs
    have HT : Hid _ := slIndexByte s w
    go_enter Try.func47, Try.ntmps47
    go_wp2_with fail
    refine Calls.mono HT.out ?_
    rintro e w' ⟨rfl, hww⟩
    have hw2 := hww.symm
    subst hw2
    go_wp2
    go_ret
    exact ⟨rfl, rfl⟩

end Go.Proofs.Qxb6614579a

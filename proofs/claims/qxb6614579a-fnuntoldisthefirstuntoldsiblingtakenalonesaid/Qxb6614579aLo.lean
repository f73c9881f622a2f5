import Derived.Test.Qxb6614579aSm
namespace Go.Proofs.Qxb6614579a
open Go.RowKit
set_option linter.unusedVariables false

theorem indexByte_hit (c : UInt8) : ∀ (l : List UInt8) (k : Nat), (∀ j, j < k → l[j]? ≠ some c) → l[k]? = some c → Lib.indexByte l c = k
  | [], k, _, h => by simp at h
  | a :: l, 0, _, h => by
    simp at h
    simp [Lib.indexByte, h]
  | a :: l, k + 1, hn, h => by
    have h0 := hn 0 (by omega)
    simp at h0
    have ih := indexByte_hit c l k (fun j hj => by have := hn (j + 1) (by omega); simpa using this) (by simpa using h)
    simp only [Lib.indexByte, ih]
    rw [if_neg (by simpa using h0), if_neg (by simp)]
    omega

theorem indexByte_miss (c : UInt8) : ∀ (l : List UInt8), (∀ j, j < l.length → l[j]? ≠ some c) → Lib.indexByte l c = -1
  | [], _ => rfl
  | a :: l, hn => by
    have h0 := hn 0 (by simp)
    simp at h0
    have ih := indexByte_miss c l (fun j hj => by have := hn (j + 1) (by simp; omega); simpa using this)
    simp only [Lib.indexByte, ih]
    rw [if_neg (by simpa using h0)]
    rfl

theorem byte_at (s : ByteArray) (k : Nat) (h : k < s.size) : s.data.toList[k]? = some s[k] := by
  rw [List.getElem?_eq_getElem (by simpa using h)]
  rfl

theorem byte_of (s : ByteArray) (k : Nat) (h : k < s.size) (hb : ((s[k].toNat : Int) == 126) = true) : s.data.toList[k]? = some 126 := by
  rw [byte_at s k h]
  simp only [beq_iff_eq] at hb
  congr 1
  apply UInt8.toNat_inj.1
  show s[k].toNat = 126
  omega

theorem byte_no (s : ByteArray) (k : Nat) (h : k < s.size) (hb : ((s[k].toNat : Int) == 126) = false) : s.data.toList[k]? ≠ some 126 := by
  rw [byte_at s k h]
  intro e
  have e2 := Option.some.inj e
  rw [e2] at hb
  exact absurd hb (by decide)

set_option maxHeartbeats 400000 in
/-- zzNodeOf. -/
theorem zzNodeOf_any (s : ByteArray) (w : World) (hm : s.size ≤ maxLen) :
    Calls Try.prog 40 #[.string s] w fun e w' => e = .returned (.string (nodeB s)) ∧ w' = w := by
  have hm2 : (s.size : Int) ≤ 9223372036854775807 := by unfold maxLen at hm; omega
  go_enter Try.func40, Try.ntmps40
  go_wp2
  go_loop [3] (fun i => ∃ k : Nat, k ≤ s.size ∧ i = .int .i64 k ∧ Hid (∀ j, j < k → s.data.toList[j]? ≠ some 126)) (fun i => s.size - (intOf i).toNat)
  case atStart => exact ⟨0, Nat.zero_le _, rfl, fun j hj => by omega⟩
  case round =>
    obtain ⟨k, hk, rfl, hno⟩ := hrel
    by_cases hlt : k < s.size
    · cases hb : ((s[k].toNat : Int) == 126) with
      | true =>
        have HB : Hid _ := byte_of s k hlt hb
        go_wp2
        go_ret
        refine ⟨?_, rfl⟩
        rw [nodeB, ixT, indexByte_hit 126 s.data.toList k hno.out HB.out, if_neg (by omega)]
        rfl
      | false =>
        have HB : Hid _ := byte_no s k hlt hb
        go_wp2
        go_round
        case rel =>
          refine ⟨k + 1, by omega, by go_num, fun j hj => ?_⟩
          rcases (by omega : j < k ∨ j = k) with h | rfl
          · exact hno.out j h
          · exact HB.out
        case measure => simp [intOf]; omega
    · obtain rfl : k = s.size := by omega
      go_wp2
      go_ret
      refine ⟨?_, rfl⟩
      rw [nodeB, ixT, indexByte_miss 126 s.data.toList (fun j hj => hno.out j (by simpa using hj)), if_pos (by omega)]
      rfl

end Go.Proofs.Qxb6614579a

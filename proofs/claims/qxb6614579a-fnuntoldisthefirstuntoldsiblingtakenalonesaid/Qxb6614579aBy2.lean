import Derived.Test.Qxb6614579aBy
namespace Go.Proofs.Qxb6614579a
open Go.RowKit
set_option linter.unusedVariables false

set_option maxHeartbeats 2000000 in
set_option maxRecDepth 100000 in
/-- zzUntoldBytes. -/
theorem untoldBytes_any (a0 : Option Addr) (n0 c0 : Nat) (x0 : List ByteArray) (a1 : Option Addr) (n1 c1 : Nat) (a2 : Option Addr) (n2 c2 : Nat) (x2 : List ByteArray) (a3 : Option Addr) (n3 c3 : Nat) (a4 : Option Addr) (n4 c4 : Nat) (x4 : List ByteArray) (a5 : Option Addr) (n5 c5 : Nat) (a6 : Option Addr) (n6 c6 : Nat) (x6 : List ByteArray) (a7 : Option Addr) (n7 c7 : Nat) (a8 : Option Addr) (n8 c8 : Nat) (x8 : List ByteArray) (a9 : Option Addr) (n9 c9 : Nat) (x9 : List ByteArray) (a10 : Option Addr) (n10 c10 : Nat) (a11 : Option Addr) (n11 c11 : Nat) (x11 : List ByteArray) (w : World) (m0 : n0 ≤ 4096) (l0 : x0.length = n0) (v0 : SView w a0 x0) (m1 : n1 ≤ 4096) (m2 : n2 ≤ 4096) (l2 : x2.length = n2) (v2 : SView w a2 x2) (m3 : n3 ≤ 4096) (m4 : n4 ≤ 4096) (l4 : x4.length = n4) (v4 : SView w a4 x4) (m5 : n5 ≤ 4096) (m6 : n6 ≤ 4096) (l6 : x6.length = n6) (v6 : SView w a6 x6) (m7 : n7 ≤ 4096) (m8 : n8 ≤ 4096) (l8 : x8.length = n8) (v8 : SView w a8 x8) (m9 : n9 ≤ 4096) (l9 : x9.length = n9) (v9 : SView w a9 x9) (m10 : n10 ≤ 4096) (m11 : n11 ≤ 4096) (l11 : x11.length = n11) (v11 : SView w a11 x11) :
    Calls Try.prog 28 #[.slice a0 n0 c0, .slice a1 n1 c1, .slice a2 n2 c2, .slice a3 n3 c3, .slice a4 n4 c4, .slice a5 n5 c5, .slice a6 n6 c6, .slice a7 n7 c7, .slice a8 n8 c8, .slice a9 n9 c9, .slice a10 n10 c10, .slice a11 n11 c11] w (SumPost w) := by
  go_enter Try.func28, Try.ntmps28
  have H0 : Hid _ := addStrings_any a0 n0 c0 x0 0 w (by omega) (by omega) m0 l0 v0
  go_wp2_with fail
  refine Calls.mono H0.out ?_
  clear H0
  rintro e w' ⟨r0, rfl, p0, q0, hww⟩
  have hw2 := hww.symm
  subst hw2
  have H1 : Hid _ := addWords_any a1 n1 c1 r0 w p0 q0 m1
  go_wp2_with fail
  refine Calls.mono H1.out ?_
  clear H1
  rintro e w' ⟨r1, rfl, p1, q1, hww⟩
  have hw2 := hww.symm
  subst hw2
  have H2 : Hid _ := addStrings_any a2 n2 c2 x2 r1 w p1 q1 m2 l2 v2
  go_wp2_with fail
  refine Calls.mono H2.out ?_
  clear H2
  rintro e w' ⟨r2, rfl, p2, q2, hww⟩
  have hw2 := hww.symm
  subst hw2
  have H3 : Hid _ := addWords_any a3 n3 c3 r2 w p2 q2 m3
  go_wp2_with fail
  refine Calls.mono H3.out ?_
  clear H3
  rintro e w' ⟨r3, rfl, p3, q3, hww⟩
  have hw2 := hww.symm
  subst hw2
  have H4 : Hid _ := addStrings_any a4 n4 c4 x4 r3 w p3 q3 m4 l4 v4
  go_wp2_with fail
  refine Calls.mono H4.out ?_
  clear H4
  rintro e w' ⟨r4, rfl, p4, q4, hww⟩
  have hw2 := hww.symm
  subst hw2
  have H5 : Hid _ := addWords_any a5 n5 c5 r4 w p4 q4 m5
  go_wp2_with fail
  refine Calls.mono H5.out ?_
  clear H5
  rintro e w' ⟨r5, rfl, p5, q5, hww⟩
  have hw2 := hww.symm
  subst hw2
  have H6 : Hid _ := addStrings_any a6 n6 c6 x6 r5 w p5 q5 m6 l6 v6
  go_wp2_with fail
  refine Calls.mono H6.out ?_
  clear H6
  rintro e w' ⟨r6, rfl, p6, q6, hww⟩
  have hw2 := hww.symm
  subst hw2
  have H7 : Hid _ := addWords_any a7 n7 c7 r6 w p6 q6 m7
  go_wp2_with fail
  refine Calls.mono H7.out ?_
  clear H7
  rintro e w' ⟨r7, rfl, p7, q7, hww⟩
  have hw2 := hww.symm
  subst hw2
  have H8 : Hid _ := addStrings_any a8 n8 c8 x8 r7 w p7 q7 m8 l8 v8
  go_wp2_with fail
  refine Calls.mono H8.out ?_
  clear H8
  rintro e w' ⟨r8, rfl, p8, q8, hww⟩
  have hw2 := hww.symm
  subst hw2
  have H9 : Hid _ := addStrings_any a9 n9 c9 x9 r8 w p8 q8 m9 l9 v9
  go_wp2_with fail
  refine Calls.mono H9.out ?_
  clear H9
  rintro e w' ⟨r9, rfl, p9, q9, hww⟩
  have hw2 := hww.symm
  subst hw2
  have H10 : Hid _ := addWords_any a10 n10 c10 r9 w p9 q9 m10
  go_wp2_with fail
  refine Calls.mono H10.out ?_
  clear H10
  rintro e w' ⟨r10, rfl, p10, q10, hww⟩
  have hw2 := hww.symm
  subst hw2
  have H11 : Hid _ := addStrings_any a11 n11 c11 x11 r10 w p10 q10 m11 l11 v11
  go_wp2_with fail
  refine Calls.mono H11.out ?_
  clear H11
  rintro e w' ⟨r11, rfl, p11, q11, hww⟩
  have hw2 := hww.symm
  subst hw2
  go_wp2
  go_ret
  exact ⟨r11, rfl, p11, q11, rfl⟩

end Go.Proofs.Qxb6614579a

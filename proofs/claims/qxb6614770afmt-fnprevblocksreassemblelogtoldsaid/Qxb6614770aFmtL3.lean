import Derived.Test.Qxb6614770aFmtZp
namespace Go.Proofs.Qxb6614770aFmt
open Go.RowKit
set_option linter.unusedVariables false

theorem le_of {D : List Int} {o : Nat} (h0 : 0 < o) (hl : o ≤ D.length) (hn : NoNl D 0 o) (he : o = D.length ∨ D.getD (o - 1) 0 = 10) : LE D o := by
  refine ⟨hl, fun j hj => hn j (Nat.zero_le _) hj, ?_, fun _ => h0⟩
  rcases he with h | h
  · exact .inl h
  · exact .inr ⟨h0, h⟩

/-- The reverser at the log's start, nothing held: io.EOF. -/
theorem zp_eof (L g q N : Nat) (da : Option Addr) (D : List Int) (eof : Value) (w : World) (R : Rv w L g q da N 0 0 D) (hb : Byt D) (hL : 1 ≤ L) (he : w.cell? ⟨0, 0, none⟩ = some eof) :
    Calls Tryf.prog 9 #[.pointer (some ⟨g, 0, none⟩)] w fun x w' => x = .returned (.tuple #[.slice none 0 0, .int .i64 0, eof]) ∧ Rv w' L g q da N 0 0 D ∧ Below L w w' := by
  refine Calls.mono (zprev_any L g q N 0 0 0 da D eof w R hb rfl (fun j _ h => by omega) hL he) ?_
  rintro x w' ⟨b, ⟨_, rfl, R'⟩ | ⟨a', c', o, m, h1, h2, _⟩⟩
  · exact ⟨rfl, R', b⟩
  · omega

/-- .. and the first line held: it. -/
theorem zp_line (L g q N e : Nat) (da : Option Addr) (D : List Int) (eof : Value) (w : World) (R : Rv w L g q da N 0 e D) (h0 : 0 < e) (hn : NoNl D 0 e) (hb : Byt D) (hL : 1 ≤ L) (he : w.cell? ⟨0, 0, none⟩ = some eof) :
    Calls Tryf.prog 9 #[.pointer (some ⟨g, 0, none⟩)] w fun x w' => ∃ a' c', x = .returned (.tuple #[.slice a' e c', .int .i64 0, .nilIface]) ∧ View .u8 w' a' (D.take e) ∧ Rv w' L g q da N 0 0 D ∧ Below L w w' := by
  refine Calls.mono (zprev_any L g q N 0 e e da D eof w R hb (Nat.zero_add _) hn hL he) ?_
  rintro x w' ⟨b, ⟨h1, rfl, R'⟩ | ⟨a', c', o, m, h1, h2, rfl, hv, ⟨rfl, R', _⟩ | ⟨h3, _, s', k', _, _, _, _, h4⟩⟩⟩
  · omega
  · obtain rfl : m = e := by omega
    rw [List.drop_zero] at hv
    exact ⟨a', c', rfl, hv, R', b⟩
  · omega

/-- A fresh reverser over a log of at most 65536 bytes that has more than one line. -/
theorem zp_rest (L g q N e m : Nat) (da : Option Addr) (D : List Int) (eof : Value) (w : World) (R : Rv w L g q da N N 0 D) (hN : N ≤ 65536) (hle : LE D e) (hm : e + m = N) (hm1 : 0 < m) (hb : Byt D) (hL : 1 ≤ L) (he : w.cell? ⟨0, 0, none⟩ = some eof) :
    Calls Tryf.prog 9 #[.pointer (some ⟨g, 0, none⟩)] w fun x w' => ∃ a' c', x = .returned (.tuple #[.slice a' m c', .int .i64 (e : Nat), .nilIface]) ∧ View .u8 w' a' ((D.drop e).take m) ∧ Rv w' L g q da N 0 e D ∧ Below L w w' := by
  have hDl := R.hDl
  refine Calls.mono (zprev_any L g q N N 0 N da D eof w R hb rfl (fun j h1 h2 => by omega) hL he) ?_
  rintro x w' ⟨b, ⟨h1, rfl, R'⟩ | ⟨a', c', o, m', h1, h2, rfl, hv, ⟨rfl, R', hn⟩ | ⟨h3, h10, s', k', h5, h6, R', hn, h4⟩⟩⟩
  · omega
  · have := hle.unique (le_of (by omega) (by omega) hn (.inl hDl.symm))
    omega
  · obtain rfl : s' = 0 := by omega
    have := hle.unique (le_of h3 (by omega) hn (.inr h10))
    subst this
    obtain rfl : m' = m := by omega
    obtain rfl : k' = e := by omega
    exact ⟨a', c', rfl, hv, R', b⟩

/-- .. that is one line. -/
theorem zp_whole (L g q N : Nat) (da : Option Addr) (D : List Int) (eof : Value) (w : World) (R : Rv w L g q da N N 0 D) (hN : N ≤ 65536) (h0 : 0 < N) (hle : LE D N) (hb : Byt D) (hL : 1 ≤ L) (he : w.cell? ⟨0, 0, none⟩ = some eof) :
    Calls Tryf.prog 9 #[.pointer (some ⟨g, 0, none⟩)] w fun x w' => ∃ a' c', x = .returned (.tuple #[.slice a' N c', .int .i64 0, .nilIface]) ∧ View .u8 w' a' (D.take N) ∧ Rv w' L g q da N 0 0 D ∧ Below L w w' := by
  have hDl := R.hDl
  refine Calls.mono (zprev_any L g q N N 0 N da D eof w R hb rfl (fun j h1 h2 => by omega) hL he) ?_
  rintro x w' ⟨b, ⟨h1, rfl, R'⟩ | ⟨a', c', o, m', h1, h2, rfl, hv, ⟨rfl, R', hn⟩ | ⟨h3, h10, s', k', h5, h6, R', hn, h4⟩⟩⟩
  · omega
  · obtain rfl : m' = N := by omega
    rw [List.drop_zero] at hv
    exact ⟨a', c', rfl, hv, R', b⟩
  · obtain rfl : s' = 0 := by omega
    have := hle.unique (le_of h3 (by omega) hn (.inr h10))
    omega

set_option maxHeartbeats 2000000 in
set_option maxRecDepth 100000 in
theorem law3_far (a : Option Addr) (n c : Nat) (w : World) (hM : n ≤ maxLen) (h : 65536 < n) :
    Calls Tryf.prog 3 #[.slice a n c] w fun e w' => e = .returned (.bool true) ∧ Below w.heap.size w w' := by
  by_cases h0 : n ≤ 1048576
  · go_enter Tryf.func3, Tryf.ntmps3
    go_wp2_with (go_at_call 5; refine (bytes3_any a n c _ h0).mono ?_; rintro e w' ⟨rfl, hww⟩; have hw2 := hww.symm; subst hw2)
    go_ret
    exact ⟨rfl, Below.refl _ _⟩
  · go_enter Tryf.func3, Tryf.ntmps3
    go_wp2_with (go_at_call 5; refine (bytes3_far a n c _ (by omega) hM).mono ?_; rintro e w' ⟨rfl, hww⟩; have hw2 := hww.symm; subst hw2)
    go_ret
    exact ⟨rfl, Below.refl _ _⟩

end Go.Proofs.Qxb6614770aFmt

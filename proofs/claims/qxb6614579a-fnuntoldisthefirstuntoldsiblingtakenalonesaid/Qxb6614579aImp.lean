import Derived.Test.Qxb6614579aFol
namespace Go.Proofs.Qxb6614579a
open Go.RowKit
set_option linter.unusedVariables false

theorem follows_any (U : List ByteArray) (p1 p2 p3 p4 p5 lb kb vb : Nat) (G : ByteArray → Option Nat) (E : ByteArray → ByteArray → Option Int) (V : ByteArray → Option Int) (hU : ∀ n z s, E n z = some s → z ∈ U) :
    ∀ (m : Nat) (K : ByteArray → Bool) (n : ByteArray) (q : Int) (w : World), leftIn U K = m → 0 ≤ q → Cx w p1 p2 p3 p4 p5 lb kb vb G E V K →
      Calls Try.prog 41 #[.agg #[.string n, .int .u64 q], .pointer (some ⟨p1, 0, none⟩), .pointer (some ⟨p2, 0, none⟩), .pointer (some ⟨p3, 0, none⟩), .pointer (some ⟨p4, 0, none⟩), .pointer (some ⟨p5, 0, none⟩)] w (FolPost w p1 p2 p3 p4 p5 lb kb vb G E V K (n, q)) := by
  intro m
  induction m using Nat.strongRecOn with
  | _ m ih =>
    intro K n q w hm hq C
    cases hG : G n with
    | none =>
      refine Calls.mono (follows_none p1 p2 p3 p4 p5 lb kb vb G E V K n q w C hG) ?_
      rintro e w' ⟨rfl, F⟩
      refine ⟨false, K, rfl, F.mono (by simp), C.lk.frame F (by simp), fun y h => h, (fun h => by cases h), fun _ => ⟨fun z s h1 _ => ?_, fun y h => .inl h⟩⟩
      have := C.lin.2.2 n hG z
      simp only at h1
      rw [this] at h1
      cases h1
    | some ib =>
      refine follows_some p1 p2 p3 p4 p5 lb kb vb G E V K n q w C ib hG hq ?_
      intro z s W K1 hE hKz hK hK1 CW
      exact ih (leftIn U K1) (by rw [← hm]; exact leftIn_lt U K K1 hK z (hU n z s hE) hKz hK1) K1 z 1 W rfl (by decide) CW

/-- What implies reads: the lineage, the version. -/
structure LV (w : World) (lb vb : Nat) (G : ByteArray → Option Nat) (E : ByteArray → ByteArray → Option Int) (V : ByteArray → Option Int) (U : List ByteArray) : Prop where
  lin : Lin w lb G E
  ver : MapOf w vb (fun x => (V x).map (Value.int .u64))
  hU : ∀ n z s, E n z = some s → z ∈ U
  ne : ∀ n b, G n = some b → ∃ z s, E n z = some s

theorem LV.below {w w' : World} {lb vb : Nat} {G : ByteArray → Option Nat} {E : ByteArray → ByteArray → Option Int} {V : ByteArray → Option Int} {U : List ByteArray} (h : LV w lb vb G E V U) (hf : Frame [] w w') : LV w' lb vb G E V U :=
  ⟨h.lin.frame hf (by simp) (by simp), h.ver.frame hf (by simp), h.hU, h.ne⟩

theorem not_reach_none {E : ByteArray → ByteArray → Option Int} {Fin : ByteArray → Prop} {n : ByteArray} {q : Int} (h : ∀ z, E n z = none) : ¬ Reach E Fin (n, q) := by
  intro hr
  refine hr (fun x => x.1 ≠ n) ?_ rfl
  intro m q z s h1 h2 h3 h4
  simp only at h4
  subst h4
  rw [h z] at h1
  cases h1

set_option maxHeartbeats 1000000 in
set_option maxRecDepth 100000 in
theorem implies_none (lb vb : Nat) (G : ByteArray → Option Nat) (E : ByteArray → ByteArray → Option Int) (V : ByteArray → Option Int) (U : List ByteArray) (n : ByteArray) (q : Int) (w : World) (H : LV w lb vb G E V U) (hG : G n = none) :
    Calls Try.prog 36 #[.map (some lb), .map (some vb), .agg #[.string n, .int .u64 q], .nilFunc] w fun e w' => e = .returned (.bool false) ∧ Below w.heap.size w w' := by
  obtain ⟨W4, hW4⟩ : ∃ W, ((((w.alloc (.cells #[.map (some lb)] 28)).alloc (.cells #[.map (some vb)] 31)).alloc (.cells #[.string n, .int .u64 q] 34)).alloc (.cells #[.nilFunc] 70)) = W := ⟨_, rfl⟩
  have b4 : Below w.heap.size w W4 := by
    rw [← hW4]
    exact ((((Below.refl _ _).alloc (Nat.le_refl _) _).alloc (by simp) _).alloc (by simp; omega) _).alloc (by simp; omega) _
  have H4 := H.below (Frame.of_below b4)
  have hlk := H4.lin.1.lookup (P := Try.prog) (t := 28) Try.underlying28 Try.underlying9 (zero30 W4) n
  rw [hG] at hlk
  simp only [Option.map_none, Option.getD_none] at hlk
  rw [← hW4] at hlk b4
  clear hW4 H4
  go_enter Try.func36, Try.ntmps36
  go_wp2
  go_ret
  exact ⟨rfl, b4⟩

end Go.Proofs.Qxb6614579a

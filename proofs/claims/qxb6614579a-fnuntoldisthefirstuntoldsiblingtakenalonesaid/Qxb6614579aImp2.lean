import Derived.Test.Qxb6614579aImp
namespace Go.Proofs.Qxb6614579a
open Go.RowKit
set_option linter.unusedVariables false

/-- Four new blocks: each lies where it was laid. -/
theorem four (w : World) (o0 o1 o2 o3 : Obj) (W : World) (h : (((w.alloc o0).alloc o1).alloc o2).alloc o3 = W) :
    W.heap[w.heap.size]? = some o0 ∧ W.heap[w.heap.size + 1]? = some o1 ∧ W.heap[w.heap.size + 1 + 1]? = some o2 ∧ W.heap[w.heap.size + 1 + 1 + 1]? = some o3 := by
  subst h
  have s1 : (w.alloc o0).heap.size = w.heap.size + 1 := by simp
  have s2 : ((w.alloc o0).alloc o1).heap.size = w.heap.size + 1 + 1 := by simp
  have s3 : (((w.alloc o0).alloc o1).alloc o2).heap.size = w.heap.size + 1 + 1 + 1 := by simp
  refine ⟨?_, ?_, ?_, ?_⟩
  · rw [Below.heap_alloc _ _ _ (by omega), Below.heap_alloc _ _ _ (by omega), Below.heap_alloc _ _ _ (by omega)]
    exact heap_alloc_new w o0
  · rw [Below.heap_alloc _ _ _ (by omega), Below.heap_alloc _ _ _ (by omega), ← s1]
    exact heap_alloc_new _ o1
  · rw [Below.heap_alloc _ _ _ (by omega), ← s2]
    exact heap_alloc_new _ o2
  · rw [← s3]
    exact heap_alloc_new _ o3

/-- The length of a map that holds something. -/
theorem len_some {P : Program} {w : World} {b : Nat} {f : ByteArray → Option Value} (h : MapOf w b f) {s : ByteArray} {v : Value} (hf : f s = some v) {t k e : TypeId} (ht : P.underlying t = some (.map k e)) : ∃ k : Nat, 0 < k ∧ ∀ ty, (Builtin.len_ #[t] ty #[.map (some b)]).run P w = .ok (.int .i64 k) w := by
  obtain ⟨es, clock, hb, hst, h1, h2⟩ := h
  obtain ⟨e', he, _⟩ := h2 s v hf
  refine ⟨es.size, ?_, ?_⟩
  · have : e' ∈ es := by simpa using he
    exact Array.size_pos_of_mem this
  · intro ty
    simp [Builtin.len_, run_underlying ht, MapKept.run_getObj_map hb, Result.andThen, goInt]

set_option maxHeartbeats 1000000 in
set_option maxRecDepth 100000 in
theorem implies_some (lb vb : Nat) (G : ByteArray → Option Nat) (E : ByteArray → ByteArray → Option Int) (V : ByteArray → Option Int) (U : List ByteArray) (n : ByteArray) (q : Int) (w : World) (H : LV w lb vb G E V U) (ib : Nat) (hG : G n = some ib) (hq : 0 ≤ q) :
    Calls Try.prog 36 #[.map (some lb), .map (some vb), .agg #[.string n, .int .u64 q], .nilFunc] w fun e w' => ∃ b : Bool, e = .returned (.bool b) ∧ (b = true ↔ Reach E (Ends V) (n, q)) ∧ Below w.heap.size w w' := by
  obtain ⟨W4, hW4⟩ : ∃ W, ((((w.alloc (.cells #[.map (some lb)] 28)).alloc (.cells #[.map (some vb)] 31)).alloc (.cells #[.string n, .int .u64 q] 34)).alloc (.cells #[.nilFunc] 70)) = W := ⟨_, rfl⟩
  have b4 : Below w.heap.size w W4 := by
    rw [← hW4]
    exact ((((Below.refl _ _).alloc (Nat.le_refl _) _).alloc (by simp) _).alloc (by simp; omega) _).alloc (by simp; omega) _
  have H4 := H.below (Frame.of_below b4)
  have hlk := H4.lin.1.lookup (P := Try.prog) (t := 28) Try.underlying28 Try.underlying9 (zero30 W4) n
  rw [hG] at hlk
  simp only [Option.map_some, Option.getD_some] at hlk
  have sz4 : W4.heap.size = w.heap.size + 1 + 1 + 1 + 1 := by rw [← hW4]; simp
  obtain ⟨r0, r1, r2, r3⟩ := four w _ _ _ _ W4 hW4
  have e0 : W4.cell? ⟨w.heap.size, 0, none⟩ = some (.map (some lb)) := cell_of_row _ _ 0 _ 28 (0, 0) r0
  have e1 : W4.cell? ⟨w.heap.size + 1, 0, none⟩ = some (.map (some vb)) := cell_of_row _ _ 0 _ 31 (0, 0) r1
  have e2 : W4.cell? ⟨w.heap.size + 1 + 1, 0, none⟩ = some (.string n) := cell_of_row _ _ 0 _ 34 (0, 0) r2
  have e2b : W4.cell? ⟨w.heap.size + 1 + 1, 1, none⟩ = some (.int .u64 q) := cell_of_row _ _ 1 _ 34 (0, 0) r2
  have e3 : W4.cell? ⟨w.heap.size + 1 + 1 + 1, 0, none⟩ = some .nilFunc := cell_of_row _ _ 0 _ 70 (0, 0) r3
  clear r0 r1 r2 r3
  obtain ⟨z0, s0, hE0⟩ := H.ne n ib hG
  obtain ⟨kl, hkl, hlen⟩ := len_some (P := Try.prog) (H4.lin.2.1 n ib hG) (s := z0) (v := .int .u64 s0) (by simp [hE0]) Try.underlying30
  have hkl0 : ((kl : Int) == 0) = false := by simp; omega
  have hmm := @run_makeMap Try.prog
  have hmf : ∀ (fn : Fn) (first cap : Array Value) (w : World), (Instr.makeFunc fn first cap).run Try.prog w = .ok (.func fn first cap) w := fun _ _ _ _ => rfl
  obtain ⟨W7, hW7⟩ : ∃ W, (((W4.alloc (.map #[] 0)).alloc (.cells #[.map (some (w.heap.size + 1 + 1 + 1 + 1))] 40)).alloc (.cells #[.nilFunc] 49)) = W := ⟨_, rfl⟩
  have b47 : Below W4.heap.size W4 W7 := by
    rw [← hW7]
    exact (((Below.refl _ _).alloc (Nat.le_refl _) _).alloc (by simp) _).alloc (by simp; omega) _
  have m7 : MapOf W7 (w.heap.size + 1 + 1 + 1 + 1) (setF (fun _ => false)) := by
    have h0 := MapOf.new W4
    rw [sz4] at h0
    have hF : Frame [] (W4.alloc (.map #[] 0)) W7 := by
      rw [← hW7]
      exact ((Frame.refl _ _).alloc _).alloc _
    have := h0.frame hF (by simp)
    exact this
  have r5 : W7.heap[w.heap.size + 1 + 1 + 1 + 1 + 1]? = some (.cells #[.map (some (w.heap.size + 1 + 1 + 1 + 1))] 40 (0, 0)) := by
    rw [← hW7, Below.heap_alloc _ _ _ (by simp [sz4])]
    have := heap_alloc_new (W4.alloc (.map #[] 0)) (.cells #[.map (some (w.heap.size + 1 + 1 + 1 + 1))] 40 (0, 0))
    rwa [show (W4.alloc (.map #[] 0)).heap.size = w.heap.size + 1 + 1 + 1 + 1 + 1 from by simp [sz4]] at this
  have r6 : W7.heap[w.heap.size + 1 + 1 + 1 + 1 + 1 + 1]? = some (.cells #[.nilFunc] 49 (0, 0)) := by
    rw [← hW7]
    have := heap_alloc_new ((W4.alloc (.map #[] 0)).alloc (.cells #[.map (some (w.heap.size + 1 + 1 + 1 + 1))] 40 (0, 0))) (.cells #[.nilFunc] 49 (0, 0))
    rwa [show ((W4.alloc (.map #[] 0)).alloc (.cells #[.map (some (w.heap.size + 1 + 1 + 1 + 1))] 40 (0, 0))).heap.size = w.heap.size + 1 + 1 + 1 + 1 + 1 + 1 from by simp [sz4]] at this
  have k6 : W7.cell? ⟨w.heap.size + 1 + 1 + 1 + 1 + 1 + 1, 0, none⟩ = some .nilFunc := cell_of_row _ _ 0 _ 49 (0, 0) r6
  have z6 : W7.frozen? ⟨w.heap.size + 1 + 1 + 1 + 1 + 1 + 1, 0, none⟩ = false := frozen_of_row _ _ 0 _ 49 r6
  have F47 : Frame [] W4 W7 := Frame.of_below b47
  have k0 := F47.cell e0 (by simp)
  have k1 := F47.cell e1 (by simp)
  have k2 := F47.cell e2 (by simp)
  have k2b := F47.cell e2b (by simp)
  have k3 := F47.cell e3 (by simp)
  have k5 : W7.cell? ⟨w.heap.size + 1 + 1 + 1 + 1 + 1, 0, none⟩ = some (.map (some (w.heap.size + 1 + 1 + 1 + 1))) := cell_of_row _ _ 0 _ 40 (0, 0) r5
  have H7 := H4.below F47
  have hst : ∀ c : Array Value, (store ⟨w.heap.size + 1 + 1 + 1 + 1 + 1 + 1, 0, none⟩ (.func (.func 41) #[] c)).run Try.prog W7 = .ok () (W7.setCell ⟨w.heap.size + 1 + 1 + 1 + 1 + 1 + 1, 0, none⟩ (.func (.func 41) #[] c)) := fun c => by
    rw [run_store _ _ _ _ _ rfl]
    simp [k6, z6]
  go_enter Try.func36, Try.ntmps36
  go_wp2_with fail
  obtain ⟨fv, hfv⟩ : ∃ fv : Value, fv = .func (.func 41) #[] #[.pointer (some ⟨w.heap.size, 0, none⟩), .pointer (some ⟨w.heap.size + 1 + 1 + 1 + 1 + 1, 0, none⟩), .pointer (some ⟨w.heap.size + 1, 0, none⟩), .pointer (some ⟨w.heap.size + 1 + 1 + 1, 0, none⟩), .pointer (some ⟨w.heap.size + 1 + 1 + 1 + 1 + 1 + 1, 0, none⟩)] := ⟨_, rfl⟩
  have F78 : Frame [w.heap.size + 1 + 1 + 1 + 1 + 1 + 1] W7 (W7.setCell ⟨w.heap.size + 1 + 1 + 1 + 1 + 1 + 1, 0, none⟩ fv) := (Frame.refl _ _).setCell (by simp) _
  have r8 := heap_setCell_same W7 (w.heap.size + 1 + 1 + 1 + 1 + 1 + 1) 0 _ 49 fv r6
  have k8 : (W7.setCell ⟨w.heap.size + 1 + 1 + 1 + 1 + 1 + 1, 0, none⟩ fv).cell? ⟨w.heap.size + 1 + 1 + 1 + 1 + 1 + 1, 0, none⟩ = some fv := cell_of_row _ _ 0 _ 49 (0, 0) r8
  have lbl := H.lin.1.lt
  have vbl := H.ver.lt
  have gl : ∀ n b, G n = some b → b < w.heap.size := fun n b hb => (H.lin.2.1 n b hb).lt
  have C8 : Cx (W7.setCell ⟨w.heap.size + 1 + 1 + 1 + 1 + 1 + 1, 0, none⟩ fv) w.heap.size (w.heap.size + 1 + 1 + 1 + 1 + 1) (w.heap.size + 1) (w.heap.size + 1 + 1 + 1) (w.heap.size + 1 + 1 + 1 + 1 + 1 + 1) lb (w.heap.size + 1 + 1 + 1 + 1) vb G E V (fun _ => false) :=
    ⟨F78.cell k0 (by simp; omega), F78.cell k5 (by simp), F78.cell k1 (by simp), F78.cell k3 (by simp), hfv ▸ k8, H7.lin.frame F78 (by simp; omega) (fun n b hb => by have := gl n b hb; simp; omega), H7.ver.frame F78 (by simp; omega), m7.frame F78 (by simp), by simp; omega, fun n b hb => by have := gl n b hb; omega⟩
  rw [← hfv]
  refine Calls.mono (follows_any U _ _ _ _ _ lb _ vb G E V H.hU _ (fun _ => false) n q _ rfl hq C8) ?_
  rintro e W9 ⟨b, K', rfl, F89, hlk9, hK', hbt, hbf⟩
  have hF : Frame [w.heap.size + 1 + 1 + 1 + 1, w.heap.size + 1 + 1 + 1 + 1 + 1 + 1] w W9 := ((Frame.of_below b4).trans ((F47.mono (by simp)).trans (F78.mono (by simp)))).trans (F89.mono (by simp))
  have hB : Below w.heap.size w W9 := hF.below (Nat.le_refl _) (fun k hk => by simp at hk; omega)
  have HBT : Hid _ := hbt
  have HBF : Hid _ := hbf
  clear hbt hbf
  go_wp2
  go_ret
  refine ⟨b, rfl, ⟨HBT.out, fun hr => ?_⟩, hB⟩
  cases b with
  | true => rfl
  | false =>
    obtain ⟨g1, g2⟩ := HBF.out rfl
    refine absurd hr (not_reach (fun y hy => ?_) g1)
    rcases g2 y hy with h | h
    · cases h
    · exact h

end Go.Proofs.Qxb6614579a

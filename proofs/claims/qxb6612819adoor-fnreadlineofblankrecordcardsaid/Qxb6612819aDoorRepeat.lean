import Derived.Test.Qxb6612819aDoorIx
import Derived.Lib.MakeNoZero
import Derived.Lib.SlBytesConst
namespace Go.Proofs.Qxb6612819aDoor
open Go.RowKit
set_option linter.unusedVariables false

theorem and_low (n : Nat) (h : n ≤ 65536) : bits BinOp.and IntKind.u64 (n : Int) 4294967295 = (n : Int) := by
  have := u64_and_nat n 4294967295 (by omega) (by omega)
  rw [show ((4294967295 : Nat) : Int) = 4294967295 from rfl] at this
  rw [this, show (4294967295 : Nat) = 2 ^ 32 - 1 from rfl, Nat.and_two_pow_sub_one_eq_mod]
  omega
theorem and_low1 : bits BinOp.and IntKind.u64 1 4294967295 = 1 := by simpa using and_low 1 (by omega)
theorem and_low0 : bits BinOp.and IntKind.u64 0 4294967295 = 0 := by simpa using and_low 0 (by omega)

set_option maxHeartbeats 400000 in
theorem mul64_one (n : Nat) (w : World) (h : n ≤ 65536) :
    Calls Tryd.prog 34 #[.int .u64 1, .int .u64 n] w fun e w' => e = .returned (.tuple #[.int .u64 0, .int .u64 n]) ∧ w' = w := by
  have h1 := and_low n h
  have h2 := and_low1
  have h3 := and_low0
  have h4 : (n : Int) / 4294967296 = 0 := by omega
  go_enter Tryd.func34, Tryd.ntmps34
  go_wp2
  go_ret2
  exact ⟨rfl, rfl⟩

set_option maxHeartbeats 400000 in
theorem mul_one (n : Nat) (w : World) (h : n ≤ 65536) :
    Calls Tryd.prog 29 #[.int .u64 1, .int .u64 n] w fun e w' => e = .returned (.tuple #[.int .u64 0, .int .u64 n]) ∧ w' = w := by
  go_enter Tryd.func29, Tryd.ntmps29
  go_wp2_with (go_at_call 34; refine (mul64_one n _ h).mono ?_; rintro e w' ⟨rfl, rfl⟩)
  go_ret2
  exact ⟨rfl, rfl⟩

set_option maxHeartbeats 400000 in
theorem repeat_zero (b o c : Nat) (w : World) :
    Calls Tryd.prog 23 #[.slice (some ⟨b, o, none⟩) 1 c, .int .i64 0] w fun e w' => e = .returned (.slice (some ⟨w.heap.size, 0, none⟩) 0 0) ∧ Below w.heap.size w w' := by
  go_enter Tryd.func23, Tryd.ntmps23
  go_wp2
  go_ret
  exact ⟨rfl, (Below.refl _ _).alloc (Nat.le_refl _) _⟩

theorem Tryd.size5 : (Tryd.prog.info? 5).map (·.size) = some 1 := by kernel_rfl

theorem wrap_km (k m : Nat) (h : k + m ≤ 65536) : IntKind.i64.wrap ((k : Int) + (m : Int)) = ((k + m : Nat) : Int) := by rw [IntKind.wrap_i64]; omega

theorem one_news2 {W : World} {b o : Nat} {v : Value} (h : W.cell? ⟨b, o, none⟩ = some v) : ∀ j u, [v][j]? = some u → W.cell? ((⟨b, o, none⟩ : Addr).add j) = some u := by
  intro j u hu
  match j, hu with
  | 0, hu => simp at hu; subst hu; simpa [Addr.add] using h

theorem splice_one {cs : List Value} {v : Value} : Hid (∀ j, j < 1 → (splice cs 0 [v])[j]? = some v) := by
  intro j hj
  obtain rfl : j = 0 := by omega
  simp [splice]

theorem splice_spaces {cur : List Value} {v : Value} {k m : Nat} (h : ∀ j, j < k → cur[j]? = some v) (hk : k ≤ cur.length) : Hid (∀ j, j < k + m → (splice cur k (List.replicate m v))[j]? = some v) := by
  intro j hj
  unfold splice
  by_cases hjk : j < k
  · rw [List.getElem?_append_left (by simp; omega), List.getElem?_take, if_pos hjk]; exact h j hjk
  · rw [List.getElem?_append_right (by simp; omega)]
    have e : (cur.take k).length = k := by simp; omega
    rw [e, List.getElem?_append_left (by simp; omega), List.getElem?_replicate, if_pos (by omega)]

theorem spaces_news {W : World} {g : Nat} {cur : List Value} {v : Value} {k m : Nat} {t : TypeId} {fr : Nat × Nat} (hg : W.heap[g]? = some (.cells cur.toArray t fr)) (h : ∀ j, j < k → cur[j]? = some v) (hm : m ≤ k) :
    ∀ j u, (List.replicate m v)[j]? = some u → W.cell? ((⟨g, 0, none⟩ : Addr).add j) = some u := by
  intro j u hu
  rw [List.getElem?_replicate] at hu
  split at hu
  · rw [Addr.add_lit, Nat.zero_add, cell_of_row W g j _ t fr hg]
    have := h j (by omega)
    simpa [this] using hu
  · simp at hu

set_option maxHeartbeats 1000000 in
set_option maxRecDepth 100000 in
theorem repeat_long (b o c n : Nat) (w : World) (hn : 1 ≤ n) (hm : n ≤ 65536) (h8 : 8192 < n) (hx : w.cell? ⟨b, o, none⟩ = some (.int .u8 32)) :
    Calls Tryd.prog 23 #[.slice (some ⟨b, o, none⟩) 1 c, .int .i64 n] w fun e w' => ∃ g, e = .returned (.slice (some ⟨g, 0, none⟩) n n) ∧ View .u8 w' (some ⟨g, 0, none⟩) (List.replicate n 32) ∧ Below w.heap.size w w' := by
  obtain ⟨cs, hrunM, hle, _⟩ := Lib.run_makeNoZero (P := Tryd.prog) w #[3] 22 5 Tryd.underlying22 n (by omega)
  have hcall : (callFunc 30 #[.int .i64 (n : Int)]).run Tryd.prog w = .ok (.value (.slice (some ⟨w.heap.size, 0, none⟩) n cs.size)) ((w.alloc (.cells cs 5)).drewN 2) := by
    rw [run_callFunc_extern Tryd.func30 (by kernel_rfl) (by kernel_rfl) (by kernel_rfl) (e := Extern.BytealgMakeNoZero.makeNoZero #[3] #[22]) (by kernel_rfl), hrunM]
    rfl
  clear hrunM
  have h0 : ((n : Int) == 0) = false := by simp; omega
  go_enter Tryd.func23, Tryd.ntmps23
  go_wp2_with (first | (go_at_call 29; refine (mul_one n _ hm).mono ?_; rintro e w' ⟨rfl, hww⟩; (have hw2 := hww.symm); subst hw2) | (go_at_call 30; fail) | (show wpList _ _ _ ({ dst := _, op := Op.call { callee := Callee.builtin Builtin.copy, args := _, argTypes := _ }, type := _, pos := _, after := _, guard := _ } :: _) _ _; (refine wpList_copy_splice rfl (.tmp 58) (.tmp 59) 22 22 rfl 5 Tryd.underlying22 Tryd.size5 (some ⟨w.heap.size, 0, none⟩) (some ⟨b, o, none⟩) n n 1 c rfl rfl w.heap.size 0 cs.toList 5 ?_ [.int .u8 32] ?_ ?_ ?_ ?_ w.heap.size w ?_ (Nat.le_refl _) ?_; (exact heap_alloc_new w _); (simp [Nat.min_eq_left hn]); (exact fun _ => ⟨rfl, _, rfl, one_news2 (by rw [World.cell?_drewN, World.cell?_of_block (Below.heap_alloc w _ b (block_lt_of_cell hx))]; exact hx)⟩); (simp; omega); (simp [Value.oneCell']); (exact below_drewN ((Below.refl _ _).alloc (Nat.le_refl _) _) _); intro w2 hg2 hb2)))
  clear hcall
  go_wp2
  obtain ⟨cm, hcm, hcm1⟩ : ∃ cm : Nat, (8192 : Int) = (cm : Int) ∧ 1 ≤ cm := ⟨8192, rfl, by omega⟩
  rw [hcm]
  have hcn : cm ≤ n := by omega
  clear hcm
  go_loopw [10] (fun bp wr => ∃ k : Nat, 1 ≤ k ∧ k ≤ n ∧ bp = .int .i64 k ∧ ∃ cur : List Value, Hid (wr.heap[w.heap.size]? = some (.cells cur.toArray 5 (0, 0))) ∧ n ≤ cur.length ∧ Hid (∀ j, j < k → cur[j]? = some (.int .u8 32)) ∧ Below w.heap.size w wr) (fun bp _ => n - (intOf bp).toNat)
  case atStart => exact ⟨1, Nat.le_refl _, hn, by simp, _, hg2, by rw [length_splice _ _ _ (by simp; omega)]; simpa using hle, splice_one, hb2⟩
  case round =>
    obtain ⟨k, hk1, hk, rfl, cur, hg, hcl, hsp, hb⟩ := hrel
    by_cases hlt : k < n
    · have hne : ¬ n = k := by omega
      by_cases hck : cm < k
      ·
        have hs1 : (cm : Int) ≤ (n : Int) := by omega
        have hs2 : (k : Int) ≤ (n : Int) := by omega
        have hch : 1 ≤ cm ∧ cm ≤ k := by omega
        obtain ⟨m, hmd⟩ : ∃ m, m = Nat.min cm (n - k) := ⟨_, rfl⟩
        have hm1 : 1 ≤ m ∧ m ≤ cm ∧ m ≤ n - k := by rw [hmd]; exact ⟨by rw [Nat.le_min]; omega, Nat.min_le_left _ _, Nat.min_le_right _ _⟩
        have HMD : Hid _ := hmd
        clear hmd
        go_wp2_with fail
        go_region_law (refine step_copy_splice rfl (.tmp 70) (.tmp 73) 22 22 rfl 5 Tryd.underlying22 Tryd.size5 (some ⟨w.heap.size, k, none⟩) (some ⟨w.heap.size, 0, none⟩) (n - k) (n - k) cm n (by kernel_rfl) (by kernel_rfl) w.heap.size k cur 5 ?_ (List.replicate m (.int .u8 32)) ?_ ?_ ?_ ?_ w.heap.size w ?_ (Nat.le_refl _) ?_; (exact hg.out); (rw [List.length_replicate]; exact HMD.out); (refine fun _ => ⟨rfl, _, rfl, spaces_news hg.out hsp.out ?_⟩; omega); (rw [List.length_replicate]; omega); (intro v hv; rw [List.eq_of_mem_replicate hv]; rfl); (first | exact hb | exact hb.drew); (rw [List.length_replicate]); intro w3 hg3 hb3)
        all_goals
          go_wp2
          go_roundw
          case rel => exact ⟨_, _, _, _, _, _, _, _, _, _, _, _, _, _, _, _, _, ⟨k + m, by omega, by omega, congrArg (Value.int .i64) (wrap_km k m (by omega)), _, hg3, by rw [length_splice _ _ _ (by rw [List.length_replicate]; omega)]; exact hcl, splice_spaces hsp.out (by omega), hb3⟩, rfl⟩
          case measure => (show n - (IntKind.i64.wrap ((k : Int) + (m : Int))).toNat < n - ((k : Int)).toNat); rw [wrap_km k m (by omega)]; omega
      ·
        have hs1 : (k : Int) ≤ (n : Int) := by omega
        have hs2 : (k : Int) ≤ (n : Int) := by omega
        have hch : 1 ≤ k ∧ k ≤ k := by omega
        obtain ⟨m, hmd⟩ : ∃ m, m = Nat.min k (n - k) := ⟨_, rfl⟩
        have hm1 : 1 ≤ m ∧ m ≤ k ∧ m ≤ n - k := by rw [hmd]; exact ⟨by rw [Nat.le_min]; omega, Nat.min_le_left _ _, Nat.min_le_right _ _⟩
        have HMD : Hid _ := hmd
        clear hmd
        go_wp2_with fail
        go_region_law (refine step_copy_splice rfl (.tmp 70) (.tmp 73) 22 22 rfl 5 Tryd.underlying22 Tryd.size5 (some ⟨w.heap.size, k, none⟩) (some ⟨w.heap.size, 0, none⟩) (n - k) (n - k) k n (by kernel_rfl) (by kernel_rfl) w.heap.size k cur 5 ?_ (List.replicate m (.int .u8 32)) ?_ ?_ ?_ ?_ w.heap.size w ?_ (Nat.le_refl _) ?_; (exact hg.out); (rw [List.length_replicate]; exact HMD.out); (refine fun _ => ⟨rfl, _, rfl, spaces_news hg.out hsp.out ?_⟩; omega); (rw [List.length_replicate]; omega); (intro v hv; rw [List.eq_of_mem_replicate hv]; rfl); (first | exact hb | exact hb.drew); (rw [List.length_replicate]); intro w3 hg3 hb3)
        all_goals
          go_wp2
          go_roundw
          case rel => exact ⟨_, _, _, _, _, _, _, _, _, _, _, _, _, _, _, _, _, ⟨k + m, by omega, by omega, congrArg (Value.int .i64) (wrap_km k m (by omega)), _, hg3, by rw [length_splice _ _ _ (by rw [List.length_replicate]; omega)]; exact hcl, splice_spaces hsp.out (by omega), hb3⟩, rfl⟩
          case measure => (show n - (IntKind.i64.wrap ((k : Int) + (m : Int))).toNat < n - ((k : Int)).toNat); rw [wrap_km k m (by omega)]; omega
    · have hkn : k = n := by omega
      subst hkn
      go_wp2
      go_ret
      exact ⟨_, rfl, View.of_row hg.out (fun j hj => by simp at hj; rw [spaces_at _ _ hj]; simpa using hsp.out j hj), hb⟩

set_option maxHeartbeats 1000000 in
set_option maxRecDepth 100000 in
theorem repeat_short (b o c n : Nat) (w : World) (hn : 1 ≤ n) (hm : n ≤ 65536) (h8 : n ≤ 8192) (hx : w.cell? ⟨b, o, none⟩ = some (.int .u8 32)) :
    Calls Tryd.prog 23 #[.slice (some ⟨b, o, none⟩) 1 c, .int .i64 n] w fun e w' => ∃ g, e = .returned (.slice (some ⟨g, 0, none⟩) n n) ∧ View .u8 w' (some ⟨g, 0, none⟩) (List.replicate n 32) ∧ Below w.heap.size w w' := by
  obtain ⟨cs, hrunM, hle, _⟩ := Lib.run_makeNoZero (P := Tryd.prog) w #[3] 22 5 Tryd.underlying22 n (by omega)
  have hcall : (callFunc 30 #[.int .i64 (n : Int)]).run Tryd.prog w = .ok (.value (.slice (some ⟨w.heap.size, 0, none⟩) n cs.size)) ((w.alloc (.cells cs 5)).drewN 2) := by
    rw [run_callFunc_extern Tryd.func30 (by kernel_rfl) (by kernel_rfl) (by kernel_rfl) (e := Extern.BytealgMakeNoZero.makeNoZero #[3] #[22]) (by kernel_rfl), hrunM]
    rfl
  clear hrunM
  have h0 : ((n : Int) == 0) = false := by simp; omega
  go_enter Tryd.func23, Tryd.ntmps23
  go_wp2_with (first | (go_at_call 29; refine (mul_one n _ hm).mono ?_; rintro e w' ⟨rfl, hww⟩; (have hw2 := hww.symm); subst hw2) | (go_at_call 30; fail) | (show wpList _ _ _ ({ dst := _, op := Op.call { callee := Callee.builtin Builtin.copy, args := _, argTypes := _ }, type := _, pos := _, after := _, guard := _ } :: _) _ _; (refine wpList_copy_splice rfl (.tmp 58) (.tmp 59) 22 22 rfl 5 Tryd.underlying22 Tryd.size5 (some ⟨w.heap.size, 0, none⟩) (some ⟨b, o, none⟩) n n 1 c rfl rfl w.heap.size 0 cs.toList 5 ?_ [.int .u8 32] ?_ ?_ ?_ ?_ w.heap.size w ?_ (Nat.le_refl _) ?_; (exact heap_alloc_new w _); (simp [Nat.min_eq_left hn]); (exact fun _ => ⟨rfl, _, rfl, one_news2 (by rw [World.cell?_drewN, World.cell?_of_block (Below.heap_alloc w _ b (block_lt_of_cell hx))]; exact hx)⟩); (simp; omega); (simp [Value.oneCell']); (exact below_drewN ((Below.refl _ _).alloc (Nat.le_refl _) _) _); intro w2 hg2 hb2)))
  clear hcall
  go_wp2
  go_loopw [10] (fun bp wr => ∃ k : Nat, 1 ≤ k ∧ k ≤ n ∧ bp = .int .i64 k ∧ ∃ cur : List Value, Hid (wr.heap[w.heap.size]? = some (.cells cur.toArray 5 (0, 0))) ∧ n ≤ cur.length ∧ Hid (∀ j, j < k → cur[j]? = some (.int .u8 32)) ∧ Below w.heap.size w wr) (fun bp _ => n - (intOf bp).toNat)
  case atStart => exact ⟨1, Nat.le_refl _, hn, by simp, _, hg2, by rw [length_splice _ _ _ (by simp; omega)]; simpa using hle, splice_one, hb2⟩
  case round =>
    obtain ⟨k, hk1, hk, rfl, cur, hg, hcl, hsp, hb⟩ := hrel
    by_cases hlt : k < n
    · have hne : ¬ n = k := by omega
      have hs1 : (k : Int) ≤ (n : Int) := by omega
      have hs2 : (k : Int) ≤ (n : Int) := by omega
      have hch : 1 ≤ k ∧ k ≤ k := by omega
      obtain ⟨m, hmd⟩ : ∃ m, m = Nat.min k (n - k) := ⟨_, rfl⟩
      have hm1 : 1 ≤ m ∧ m ≤ k ∧ m ≤ n - k := by rw [hmd]; exact ⟨by rw [Nat.le_min]; omega, Nat.min_le_left _ _, Nat.min_le_right _ _⟩
      have HMD : Hid _ := hmd
      clear hmd
      go_wp2_with fail
      go_region_law (refine step_copy_splice rfl (.tmp 70) (.tmp 73) 22 22 rfl 5 Tryd.underlying22 Tryd.size5 (some ⟨w.heap.size, k, none⟩) (some ⟨w.heap.size, 0, none⟩) (n - k) (n - k) k n (by kernel_rfl) (by kernel_rfl) w.heap.size k cur 5 ?_ (List.replicate m (.int .u8 32)) ?_ ?_ ?_ ?_ w.heap.size w ?_ (Nat.le_refl _) ?_; (exact hg.out); (rw [List.length_replicate]; exact HMD.out); (refine fun _ => ⟨rfl, _, rfl, spaces_news hg.out hsp.out ?_⟩; omega); (rw [List.length_replicate]; omega); (intro v hv; rw [List.eq_of_mem_replicate hv]; rfl); (first | exact hb | exact hb.drew); (rw [List.length_replicate]); intro w3 hg3 hb3)
      all_goals
        go_wp2
        go_roundw
        case rel => exact ⟨_, _, _, _, _, _, _, _, _, _, _, _, _, _, _, _, _, ⟨k + m, by omega, by omega, congrArg (Value.int .i64) (wrap_km k m (by omega)), _, hg3, by rw [length_splice _ _ _ (by rw [List.length_replicate]; omega)]; exact hcl, splice_spaces hsp.out (by omega), hb3⟩, rfl⟩
        case measure => (show n - (IntKind.i64.wrap ((k : Int) + (m : Int))).toNat < n - ((k : Int)).toNat); rw [wrap_km k m (by omega)]; omega
    · have hkn : k = n := by omega
      subst hkn
      go_wp2
      go_ret
      exact ⟨_, rfl, View.of_row hg.out (fun j hj => by simp at hj; rw [spaces_at _ _ hj]; simpa using hsp.out j hj), hb⟩

theorem repeat_some (b o c n : Nat) (w : World) (hn : 1 ≤ n) (hm : n ≤ 65536) (hx : w.cell? ⟨b, o, none⟩ = some (.int .u8 32)) :
    Calls Tryd.prog 23 #[.slice (some ⟨b, o, none⟩) 1 c, .int .i64 n] w fun e w' => ∃ g, e = .returned (.slice (some ⟨g, 0, none⟩) n n) ∧ View .u8 w' (some ⟨g, 0, none⟩) (List.replicate n 32) ∧ Below w.heap.size w w' := by
  by_cases h8 : 8192 < n
  · exact repeat_long b o c n w hn hm h8 hx
  · exact repeat_short b o c n w hn hm (by omega) hx

/-- '[]byte("x")' of a constant: the row is laid, then marked behind its last cell. -/
theorem constByte (x : Int) (w : World) : (convert 22 22 (.slice (some ⟨w.heap.size, 0, none⟩) 1 1)).run Tryd.prog (w.alloc (.cells #[.int .u8 x] 5)) = .ok (.slice (some ⟨w.heap.size, 0, none⟩) 1 1) (w.alloc (.cells #[.int .u8 x] 5 (1, 2))) :=
  Lib.run_convert_bytes_const (P := Tryd.prog) w 22 5 #[.int .u8 x] 1 1 Tryd.underlying22 Tryd.underlying5

/-- blank(n): n spaces, in new memory. -/
theorem blank_any (n : Nat) (w : World) (hm : n ≤ 65536) :
    Calls Tryd.prog 18 #[.int .i64 n] w fun e w' => ∃ a, e = .returned (.slice a n n) ∧ View .u8 w' a (List.replicate n 32) ∧ Below w.heap.size w w' := by
  have hcv := constByte 32 w
  have hb1 : Below w.heap.size w (w.alloc (.cells #[.int .u8 32] 5 (1, 2))) := (Below.refl _ _).alloc (Nat.le_refl _) _
  by_cases h0 : n = 0
  · subst h0
    go_enter Tryd.func18, Tryd.ntmps18
    go_wp2_with (go_at_call 23; refine (repeat_zero _ _ _ _).mono ?_; rintro e w' ⟨rfl, hb⟩)
    go_ret
    exact ⟨_, rfl, View.nil _ _ _, Below.step hb1 hb⟩
  · go_enter Tryd.func18, Tryd.ntmps18
    go_wp2_with (go_at_call 23; refine (repeat_some _ _ _ n _ (by omega) hm (by rw [World.cell?_alloc_mark]; rfl)).mono ?_; rintro e w' ⟨g, rfl, hv, hb⟩)
    go_ret
    exact ⟨_, rfl, hv, Below.step hb1 hb⟩

theorem zblank_any (n : Nat) (w : World) (hm : n ≤ 65536) :
    Calls Tryd.prog 13 #[.int .i64 n] w fun e w' => ∃ a, e = .returned (.slice a n n) ∧ View .u8 w' a (List.replicate n 32) ∧ Below w.heap.size w w' := by
  go_enter Tryd.func13, Tryd.ntmps13
  go_wp2_with (go_at_call 18; refine (blank_any n _ hm).mono ?_; rintro e w' ⟨a, rfl, hv, hb⟩)
  go_ret
  exact ⟨a, rfl, hv, hb⟩
end Go.Proofs.Qxb6612819aDoor

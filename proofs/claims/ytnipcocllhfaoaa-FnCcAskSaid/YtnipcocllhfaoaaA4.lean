/- Go functions of this seat come to the answers of the Lean functions that stand here ('.calls'), under what each theorem states and nothing else. Written by pw.py, a program of this session, with texts of its own. -/
import Derived.Test.YtnipcocllhfaoaaA0
import Derived.Test.YtnipcocllhfaoaaA3
namespace Go.Proofs.Ytnipcocllhfaoaa.A
open Go.RowKit Go.Proofs.YtnipcocllhfaoaaW.PrintWords Go.Proofs.YtnipcocllhfaoaaW.PrintLast
open Go.Proofs.Ytnipcocllhfaoaa.B (gate_callee gate_builtin)
set_option linter.unusedVariables false
set_option linter.unusedSimpArgs false
set_option maxRecDepth 100000

/-! ### spec_nameBytes: function 29 -/
def spec_nameBytes.l0 : Nat → ByteArray → List ByteArray → Int → Int → Option (ByteArray)
  | 0, _, _, _, _ => none
  | k + 1, x3, x22, x23, x24 => if x24 < x23 then (if 0 ≤ x24 then (if x24 < (x22.length : Int) then ((spec_counted.f (rdOf ByteArray.empty x22 x24) 4).bind fun t115 => (if x3.size + t115.size ≤ 9223372036854775807 then (spec_nameBytes.l0 k (x3 ++ t115) x22 x23 (wrap64 (x24 + 1))) else (none))) else (none)) else (none)) else (some x3)
def spec_nameBytes.f (k : Nat) (a0_0 : ByteArray) (l0_1 : List ByteArray) (a0_2 : Int) : Option (ByteArray) := (spec_big.f ((a0_2) % 4294967296) 4).bind fun t111 => ((spec_big.f (IntKind.u64.wrap ((l0_1.length : Int))) 4).bind fun t112 => (if t111.size + t112.size ≤ 9223372036854775807 then ((spec_counted.f a0_0 4).bind fun t113 => (if (t111 ++ t112).size + t113.size ≤ 9223372036854775807 then (spec_nameBytes.l0 k ((t111 ++ t112) ++ t113) l0_1 (l0_1.length : Int) 0) else (none))) else (none)))
set_option maxRecDepth 100000 in
theorem spec_nameBytes.mono_l : ∀ k, (∀ y0 y1 y2 y3, LeO (spec_nameBytes.l0 k y0 y1 y2 y3) (spec_nameBytes.l0 (k + 1) y0 y1 y2 y3))
  | 0 => fun _ _ _ _ r h => by simp [spec_nameBytes.l0] at h
  | k + 1 => by
    have ih0 := spec_nameBytes.mono_l k
    · intro y0 y1 y2 y3
      unfold spec_nameBytes.l0
      repeat' first
      | (with_reducible exact ih0 _ _ _ _)
      | (with_reducible exact LeO.refl _)
      | (with_reducible exact LeO.none _)
      | (with_reducible refine LeO.ite ?_ ?_)
      | (with_reducible refine LeO.bind ?_ (fun _ => ?_))
      | exact ih0 _ _ _ _
      | exact LeO.none _
      | refine LeO.ite ?_ ?_
      | refine LeO.bind ?_ (fun _ => ?_)
set_option maxRecDepth 100000 in
theorem spec_nameBytes.mono : ∀ a0 a1 a2 k, LeO (spec_nameBytes.f k a0 a1 a2) (spec_nameBytes.f (k + 1) a0 a1 a2) := by
  intro a0 a1 a2 k
  have ih0 := spec_nameBytes.mono_l k
  unfold spec_nameBytes.f
  repeat' first
      | (with_reducible exact ih0 _ _ _ _)
      | (with_reducible exact LeO.refl _)
      | (with_reducible exact LeO.none _)
      | (with_reducible refine LeO.ite ?_ ?_)
      | (with_reducible refine LeO.bind ?_ (fun _ => ?_))
      | exact ih0 _ _ _ _
      | exact LeO.none _
      | refine LeO.ite ?_ ?_
      | refine LeO.bind ?_ (fun _ => ?_)
def spec_nameBytes.T1 : Bool × List (List Nat × List Nat) := (true, [([], []), ([0], [0]), ([1], [1]), ([2], [2]), ([3], [3]), ([], []), ([5], [5]), ([6], [6]), ([7], [7]), ([8, 4], [8]), ([4, 9], [4, 9]), ([], []), ([11], [11]), ([12, 9], [12]), ([10, 13], [10, 13]), ([14, 13, 0, 1, 2, 3, 4, 5, 6, 7, 8, 9, 10, 11, 12, 13, 14], [14])])
def spec_nameBytes.B1 : List Nat := [0, 1, 3, 7, 15, 0, 32, 96, 224, 511, 1023, 0, 2048, 7167, 16383, 32767]
theorem spec_nameBytes.tab1 : rtab .any (opsOf Try.f29 1) = spec_nameBytes.T1 := by kernel_rfl
theorem spec_nameBytes.bits1 : waitsOk spec_nameBytes.T1.2 spec_nameBytes.B1 = true := by kernel_rfl
set_option maxHeartbeats 8000000 in
set_option maxRecDepth 100000 in
theorem spec_nameBytes.calls (k : Nat) (a0_0 : ByteArray) (A0_1 : Option Addr) (c0_1 : Nat) (l0_1 : List ByteArray) (a0_2 : Int) (r : ByteArray) (w : World) (hr0_1 : Kd.C Kd.string w A0_1 l0_1.length l0_1) (hc0_1 : l0_1.length ≤ c0_1) (h : spec_nameBytes.f k a0_0 l0_1 a0_2 = some r) :
    Calls Try.prog 29 #[.agg #[.string a0_0, .slice A0_1 l0_1.length c0_1, .int .i32 a0_2]] w fun e w' => e = .returned (.string r) ∧ Below w.heap.size w w' := by
  have hu24 := Try.underlying24
  have HR0_1 := Aside0.mk hr0_1
  have HC0_1 := Aside0.mk hc0_1
  clear hr0_1 hc0_1
  have HB := Aside0.mk (Below.refl w.heap.size w)
  have H : ((spec_big.f ((a0_2) % 4294967296) 4).bind fun t111 => ((spec_big.f (IntKind.u64.wrap ((l0_1.length : Int))) 4).bind fun t112 => (if t111.size + t112.size ≤ 9223372036854775807 then ((spec_counted.f a0_0 4).bind fun t113 => (if (t111 ++ t112).size + t113.size ≤ 9223372036854775807 then (spec_nameBytes.l0 k ((t111 ++ t112) ++ t113) l0_1 (l0_1.length : Int) 0) else (none))) else (none)))) = some r := h
  clear h
  replace H := Option.bind_eq_some_iff.mp H
  obtain ⟨t111, A20, H⟩ := H
  replace H : ((spec_big.f (IntKind.u64.wrap ((l0_1.length : Int))) 4).bind fun t112 => (if t111.size + t112.size ≤ 9223372036854775807 then ((spec_counted.f a0_0 4).bind fun t113 => (if (t111 ++ t112).size + t113.size ≤ 9223372036854775807 then (spec_nameBytes.l0 k ((t111 ++ t112) ++ t113) l0_1 (l0_1.length : Int) 0) else (none))) else (none))) = some r := H
  have A2 := Aside0.mk A20
  clear A20
  replace H := Option.bind_eq_some_iff.mp H
  obtain ⟨t112, A30, H⟩ := H
  replace H : (if t111.size + t112.size ≤ 9223372036854775807 then ((spec_counted.f a0_0 4).bind fun t113 => (if (t111 ++ t112).size + t113.size ≤ 9223372036854775807 then (spec_nameBytes.l0 k ((t111 ++ t112) ++ t113) l0_1 (l0_1.length : Int) 0) else (none))) else (none)) = some r := H
  have A3 := Aside0.mk A30
  clear A30
  by_cases c4 : t111.size + t112.size ≤ 9223372036854775807
  · rw [if_pos c4] at H
    have c4b0 := eq_true c4
    have c4b1 : decide (t111.size + t112.size ≤ 9223372036854775807) = true := decide_eq_true c4
    try have c4b2 : (9223372036854775807 < t111.size + t112.size) = False := eq_false (Nat.not_lt.2 c4)
    replace H := Option.bind_eq_some_iff.mp H
    obtain ⟨t113, A50, H⟩ := H
    replace H : (if (t111 ++ t112).size + t113.size ≤ 9223372036854775807 then (spec_nameBytes.l0 k ((t111 ++ t112) ++ t113) l0_1 (l0_1.length : Int) 0) else (none)) = some r := H
    have A5 := Aside0.mk A50
    clear A50
    by_cases c6 : (t111 ++ t112).size + t113.size ≤ 9223372036854775807
    · rw [if_pos c6] at H
      have c6b0 := eq_true c6
      have c6b1 : decide ((t111 ++ t112).size + t113.size ≤ 9223372036854775807) = true := decide_eq_true c6
      try have c6b2 : (9223372036854775807 < (t111 ++ t112).size + t113.size) = False := eq_false (Nat.not_lt.2 c6)
      try (have c6b3 := c6b2; simp only [ByteArray.size_append] at c6b3)
      have H' := Aside0.mk H
      clear H
      go_enter Try.func29, Try.ntmps29
      try go_wp2_with (first | ((with_reducible refine gate_dst (N := 1) rfl ?_); refine box_event ?hg (N := 1) ?hd (cs := #[.string a0_0, .slice A0_1 l0_1.length c0_1, .int .i32 a0_2]) (t := 24) ?hr ?_; (case hd => rfl); (case hg => rfl); (case hr => first | (go_simp; done) | (go_simp; rfl)); intro gb110 hg w7 hbox hb; have n0_ := Aside0.mk (below_step (by repeat (first | (with_reducible first | exact HB.out | apply below_alloc | apply pw_below_drewN | apply below_drew1) | exact HB.out)) hb); have n1_ := Aside0.mk (hbox); have n2_ := Aside0.mk ((by rw [hg]; exact (below_size (by repeat (first | (with_reducible first | exact HB.out | apply below_alloc | apply pw_below_drewN | apply below_drew1) | exact HB.out))) : w.heap.size ≤ gb110)); have n3_ := Aside0.mk ((by rw [hg]; exact (below_size (by repeat (first | (with_reducible first | exact HB.out | apply below_alloc | apply pw_below_drewN | apply below_drew1) | exact HB.out))) : w.heap.size ≤ gb110)); clear HB; have HB := n0_; have BK110 := n1_; have GW110 := n2_; have GE110 := n3_; clear n0_ n1_ n2_ n3_; clear hb hbox hg))
      have n0_ := Aside0.mk (blk_drew BK110.out)
      have n1_ := Aside0.mk (below_drew1 HB.out)
      clear BK110
      clear HB
      have BK110 := n0_
      have HB := n1_
      clear n0_ n1_
      refine start_ (n := 16) (S := fun w' => w'.cell? ⟨gb110, 0, none⟩ = some (.string a0_0) ∧ w'.cell? ⟨gb110, 1, none⟩ = some (.slice A0_1 l0_1.length c0_1) ∧ w'.cell? ⟨gb110, 2, none⟩ = some (.int .i32 a0_2)) (ds := []) #[false, false, false, false, false, false, false, false, false, false, false, false, false, false, false, false] (by kernel_rfl) rfl rfl ⟨(blk_cell BK110.out 0).trans rfl, (blk_cell BK110.out 1).trans rfl, (blk_cell BK110.out 2).trans rfl⟩ (fun hHeld => ?_); refine with_tabW spec_nameBytes.tab1 spec_nameBytes.bits1 (fun HT_ HW_ => ?_)
      generalize w7.drew = w8 at BK110 HB hHeld ⊢
      refine pure_ (i := 0) (N := some 6) (v := ?_) (a' := ?_) #[true, false, false, false, false, false, false, false, false, false, false, false, false, false, false, false] rfl rfl (any_of HT_.out (by kernel_rfl)) (fun _ _ _ h => h) (Or.inl ⟨by rfl, ?_⟩) ?_ ?_
      rotate_left
      · intro w'
        go_simp
        with_reducible rfl
      rotate_left
      · simp only [Act.put, List.setIfInBounds_toArray, List.set_cons_zero, List.set_cons_succ, i64_w, i32_w]
        rfl
      refine pure_ (i := 5) (N := some 11) (v := ?_) (a' := ?_) #[true, false, false, false, false, true, false, false, false, false, false, false, false, false, false, false] rfl rfl (any_of HT_.out (by kernel_rfl)) (fun _ _ _ h => h) (Or.inl ⟨by rfl, ?_⟩) ?_ ?_
      rotate_left
      · intro w'
        go_simp
        with_reducible rfl
      rotate_left
      · simp only [Act.put, List.setIfInBounds_toArray, List.set_cons_zero, List.set_cons_succ, i64_w, i32_w]
        rfl
      refine pure_ (i := 11) (N := some 17) (v := ?_) (a' := ?_) #[true, false, false, false, false, true, false, false, false, false, false, true, false, false, false, false] rfl rfl (any_of HT_.out (by kernel_rfl)) (fun _ _ _ h => h) (Or.inl ⟨by rfl, ?_⟩) ?_ ?_
      rotate_left
      · intro w'
        go_simp
        with_reducible rfl
      rotate_left
      · simp only [Act.put, List.setIfInBounds_toArray, List.set_cons_zero, List.set_cons_succ, i64_w, i32_w]
        rfl
      refine take_ (i := 1) (N := some 7) (v := ?_) (a' := ?_) #[true, true, false, false, false, true, false, false, false, false, false, true, false, false, false, false] rfl rfl (take_ofW HT_.out HW_.out (by kernel_rfl)) (fun _ _ _ h => h) (Or.inl ⟨by rfl, ?_⟩) hHeld ?_ ?_
      rotate_left
      · rintro w' ⟨s0, s1, s2⟩
        go_simp
        with_reducible rfl
      rotate_left
      · simp only [Act.put, List.setIfInBounds_toArray, List.set_cons_zero, List.set_cons_succ, i64_w, i32_w]
        rfl
      refine pure_ (i := 2) (N := some 8) (v := ?_) (a' := ?_) #[true, true, true, false, false, true, false, false, false, false, false, true, false, false, false, false] rfl rfl (any_of HT_.out (by kernel_rfl)) (fun _ _ _ h => h) (Or.inl ⟨by rfl, ?_⟩) ?_ ?_
      rotate_left
      · intro w'
        go_simp
        with_reducible rfl
      rotate_left
      · simp only [Act.put, List.setIfInBounds_toArray, List.set_cons_zero, List.set_cons_succ, i64_w, i32_w]
        rfl
      refine pure_ (i := 3) (N := some 9) (v := ?_) (a' := ?_) #[true, true, true, true, false, true, false, false, false, false, false, true, false, false, false, false] rfl rfl (any_of HT_.out (by kernel_rfl)) (fun _ _ _ h => h) (Or.inl ⟨by rfl, ?_⟩) ?_ ?_
      rotate_left
      · intro w'
        go_simp
        with_reducible rfl
      rotate_left
      · simp only [Act.put, List.setIfInBounds_toArray, List.set_cons_zero, List.set_cons_succ, i64_w, i32_w]
        rfl
      refine take_ (i := 6) (N := some 12) (v := ?_) (a' := ?_) #[true, true, true, true, false, true, true, false, false, false, false, true, false, false, false, false] rfl rfl (take_ofW HT_.out HW_.out (by kernel_rfl)) (fun _ _ _ h => h) (Or.inl ⟨by rfl, ?_⟩) hHeld ?_ ?_
      rotate_left
      · rintro w' ⟨s0, s1, s2⟩
        go_simp
        with_reducible rfl
      rotate_left
      · simp only [Act.put, List.setIfInBounds_toArray, List.set_cons_zero, List.set_cons_succ, i64_w, i32_w]
        rfl
      refine pure_ (i := 7) (N := some 13) (v := ?_) (a' := ?_) #[true, true, true, true, false, true, true, true, false, false, false, true, false, false, false, false] rfl rfl (any_of HT_.out (by kernel_rfl)) (fun _ _ _ h => h) (Or.inl ⟨by rfl, ?_⟩) ?_ ?_
      rotate_left
      · intro w'
        go_simp
        with_reducible rfl
      rotate_left
      · simp only [Act.put, List.setIfInBounds_toArray, List.set_cons_zero, List.set_cons_succ, i64_w, i32_w]
        rfl
      refine pure_ (i := 8) (N := some 14) (v := ?_) (a' := ?_) #[true, true, true, true, false, true, true, true, true, false, false, true, false, false, false, false] rfl rfl (any_of HT_.out (by kernel_rfl)) (fun _ _ _ h => h) (Or.inl ⟨by rfl, ?_⟩) ?_ ?_
      rotate_left
      · intro w'
        go_simp
        with_reducible rfl
      rotate_left
      · simp only [Act.put, List.setIfInBounds_toArray, List.set_cons_zero, List.set_cons_succ, i64_w, i32_w]
        rfl
      refine take_ (i := 12) (N := some 18) (v := ?_) (a' := ?_) #[true, true, true, true, false, true, true, true, true, false, false, true, true, false, false, false] rfl rfl (take_ofW HT_.out HW_.out (by kernel_rfl)) (fun _ _ _ h => h) (Or.inl ⟨by rfl, ?_⟩) hHeld ?_ ?_
      rotate_left
      · rintro w' ⟨s0, s1, s2⟩
        go_simp
        with_reducible rfl
      rotate_left
      · simp only [Act.put, List.setIfInBounds_toArray, List.set_cons_zero, List.set_cons_succ, i64_w, i32_w]
        rfl
      refine one_ (i := 4) (N := some 10) #[true, true, true, true, true, true, true, true, true, false, false, true, true, false, false, false] rfl rfl (one_of HT_.out (by kernel_rfl)) (by decide) (fun K hK => ?_)
      refine goes_ Try.func27 (by kernel_rfl) rfl #[.int .u64 ((a0_2) % 4294967296), .int .i64 4] (by rfl) rfl rfl (by (try simp only [List.map_toArray, List.map_cons, List.map_nil]); first | done | rfl | (simp only [List.length_drop, List.length_take]; rfl) | (rw [← B.u64u32]; rfl)) ?_
      with_reducible refine (spec_big.calls ((a0_2) % 4294967296) 4 t111 _ A2.out).mono ?_
      rintro e w9 ⟨rfl, hb⟩
      refine ⟨_, rfl, ?_⟩
      have n0_ := Aside0.mk (blk_below (g := gb110) (o := .cells #[.string a0_0, .slice A0_1 l0_1.length c0_1, .int .i32 a0_2] 24 (0, 0)) (by (with_reducible repeat (first | refine blk_drewN ?_ _ | refine blk_drew ?_ | refine blk_alloc ?_ _)); exact BK110.out) hb)
      have n1_ := Aside0.mk (below_step (by repeat (first | (with_reducible first | exact HB.out | apply below_alloc | apply pw_below_drewN | apply below_drew1 | refine below_set ?_ GE110.out) | exact HB.out)) hb)
      clear BK110
      clear HB
      have BK110 := n0_
      have HB := n1_
      clear n0_ n1_
      (try clear hb)
      (try clear hb2)
      (try clear hk)
      (try clear hi)
      refine hK.out _ _ ⟨(blk_cell BK110.out 0).trans rfl, (blk_cell BK110.out 1).trans rfl, (blk_cell BK110.out 2).trans rfl⟩ (fun hHeld => ?_)
      clear hK K
      refine norm_ (a' := ?_) ?_ ?_
      rotate_left
      · show Act.put _ (some 10) _ = _
        simp only [Act.put, List.setIfInBounds_toArray, List.set_cons_zero, List.set_cons_succ, i64_w, i32_w]
        rfl
      refine one_ (i := 9) (N := some 15) #[true, true, true, true, true, true, true, true, true, true, false, true, true, false, false, false] rfl rfl (one_of HT_.out (by kernel_rfl)) (by decide) (fun K hK => ?_)
      refine goes_ Try.func27 (by kernel_rfl) rfl #[.int .u64 (IntKind.u64.wrap ((l0_1.length : Int))), .int .i64 4] (by rfl) rfl rfl (by (try simp only [List.map_toArray, List.map_cons, List.map_nil]); first | done | rfl | (simp only [List.length_drop, List.length_take]; rfl) | (rw [← B.u64u32]; rfl)) ?_
      with_reducible refine (spec_big.calls (IntKind.u64.wrap ((l0_1.length : Int))) 4 t112 _ A3.out).mono ?_
      rintro e w10 ⟨rfl, hb⟩
      refine ⟨_, rfl, ?_⟩
      have n0_ := Aside0.mk (blk_below (g := gb110) (o := .cells #[.string a0_0, .slice A0_1 l0_1.length c0_1, .int .i32 a0_2] 24 (0, 0)) (by (with_reducible repeat (first | refine blk_drewN ?_ _ | refine blk_drew ?_ | refine blk_alloc ?_ _)); exact BK110.out) hb)
      have n1_ := Aside0.mk (below_step (by repeat (first | (with_reducible first | exact HB.out | apply below_alloc | apply pw_below_drewN | apply below_drew1 | refine below_set ?_ GE110.out) | exact HB.out)) hb)
      clear BK110
      clear HB
      have BK110 := n0_
      have HB := n1_
      clear n0_ n1_
      (try clear hb)
      (try clear hb2)
      (try clear hk)
      (try clear hi)
      refine hK.out _ _ ⟨(blk_cell BK110.out 0).trans rfl, (blk_cell BK110.out 1).trans rfl, (blk_cell BK110.out 2).trans rfl⟩ (fun hHeld => ?_)
      clear hK K
      refine norm_ (a' := ?_) ?_ ?_
      rotate_left
      · show Act.put _ (some 15) _ = _
        simp only [Act.put, List.setIfInBounds_toArray, List.set_cons_zero, List.set_cons_succ, i64_w, i32_w]
        rfl
      refine pure_ (i := 10) (N := some 16) (v := ?_) (a' := ?_) #[true, true, true, true, true, true, true, true, true, true, true, true, true, false, false, false] rfl rfl (any_of HT_.out (by kernel_rfl)) (fun _ _ _ h => h) (Or.inl ⟨by rfl, ?_⟩) ?_ ?_
      rotate_left
      · intro w'
        go_simp
        with_reducible rfl
      rotate_left
      · simp only [Act.put, List.setIfInBounds_toArray, List.set_cons_zero, List.set_cons_succ, i64_w, i32_w]
        rfl
      refine one_ (i := 13) (N := some 19) #[true, true, true, true, true, true, true, true, true, true, true, true, true, true, false, false] rfl rfl (one_of HT_.out (by kernel_rfl)) (by decide) (fun K hK => ?_)
      refine goes_ Try.func28 (by kernel_rfl) rfl #[.string a0_0, .int .i64 4] (by rfl) rfl rfl (by (try simp only [List.map_toArray, List.map_cons, List.map_nil]); first | done | rfl | (simp only [List.length_drop, List.length_take]; rfl) | (rw [← B.u64u32]; rfl)) ?_
      with_reducible refine (spec_counted.calls a0_0 4 t113 _ A5.out).mono ?_
      rintro e w11 ⟨rfl, hb⟩
      refine ⟨_, rfl, ?_⟩
      have n0_ := Aside0.mk (blk_below (g := gb110) (o := .cells #[.string a0_0, .slice A0_1 l0_1.length c0_1, .int .i32 a0_2] 24 (0, 0)) (by (with_reducible repeat (first | refine blk_drewN ?_ _ | refine blk_drew ?_ | refine blk_alloc ?_ _)); exact BK110.out) hb)
      have n1_ := Aside0.mk (below_step (by repeat (first | (with_reducible first | exact HB.out | apply below_alloc | apply pw_below_drewN | apply below_drew1 | refine below_set ?_ GE110.out) | exact HB.out)) hb)
      clear BK110
      clear HB
      have BK110 := n0_
      have HB := n1_
      clear n0_ n1_
      (try clear hb)
      (try clear hb2)
      (try clear hk)
      (try clear hi)
      refine hK.out _ _ ⟨(blk_cell BK110.out 0).trans rfl, (blk_cell BK110.out 1).trans rfl, (blk_cell BK110.out 2).trans rfl⟩ (fun hHeld => ?_)
      clear hK K
      refine norm_ (a' := ?_) ?_ ?_
      rotate_left
      · show Act.put _ (some 19) _ = _
        simp only [Act.put, List.setIfInBounds_toArray, List.set_cons_zero, List.set_cons_succ, i64_w, i32_w]
        rfl
      refine pure_ (i := 14) (N := some 20) (v := ?_) (a' := ?_) #[true, true, true, true, true, true, true, true, true, true, true, true, true, true, true, false] rfl rfl (any_of HT_.out (by kernel_rfl)) (fun _ _ _ h => h) (Or.inl ⟨by rfl, ?_⟩) ?_ ?_
      rotate_left
      · intro w'
        go_simp
        with_reducible rfl
      rotate_left
      · simp only [Act.put, List.setIfInBounds_toArray, List.set_cons_zero, List.set_cons_succ, i64_w, i32_w]
        rfl
      refine pure_ (i := 15) (N := some 3) (v := ?_) (a' := ?_) #[true, true, true, true, true, true, true, true, true, true, true, true, true, true, true, true] rfl rfl (any_of HT_.out (by kernel_rfl)) (fun _ _ _ h => h) (Or.inl ⟨by rfl, ?_⟩) ?_ ?_
      rotate_left
      · intro w'
        go_simp
        with_reducible rfl
      rotate_left
      · simp only [Act.put, List.setIfInBounds_toArray, List.set_cons_zero, List.set_cons_succ, i64_w, i32_w]
        rfl
      refine done_ (done_of HT_.out (by kernel_rfl)) ?_
      have hcz12_0 : w11.cell? ⟨gb110, 0, none⟩ = some (.string a0_0) := (blk_cell BK110.out 0).trans rfl
      have hcz12_1 : w11.cell? ⟨gb110, 1, none⟩ = some (.slice A0_1 l0_1.length c0_1) := (blk_cell BK110.out 1).trans rfl
      have hcz12_2 : w11.cell? ⟨gb110, 2, none⟩ = some (.int .i32 a0_2) := (blk_cell BK110.out 2).trans rfl
      have hfz12_0 := blk_frozen BK110.out 0
      have hfz12_1 := blk_frozen BK110.out 1
      have hfz12_2 := blk_frozen BK110.out 2
      try go_wp2
      go_loopg [3, 24] k (fun kq v3 v24 w' => ∃ (x3_1 : ByteArray) (x24_1 : Int), v3 = .string x3_1 ∧ v24 = .int .i64 x24_1 ∧ Aside0 (spec_nameBytes.l0 kq x3_1 l0_1 (l0_1.length : Int) x24_1 = some r) ∧ Aside0 (kq ≤ k) ∧ Aside0 (w'.heap[gb110]? = some (.cells #[.string a0_0, (.slice A0_1 l0_1.length c0_1), .int .i32 a0_2] 24 (0, 0))) ∧ Aside0 (Below w.heap.size w w'))
      case atStart => exact ⟨((t111 ++ t112) ++ t113), (0), (by first | rfl | (simp; done) | (simp [*]; done)), (by first | rfl | (simp; done) | (simp [*]; done)), H', ⟨Nat.le_refl _⟩, ⟨by (with_reducible repeat (first | refine blk_drewN ?_ _ | refine blk_drew ?_ | refine blk_alloc ?_ _)); exact BK110.out⟩, ⟨by repeat (first | (with_reducible first | exact HB.out | apply below_alloc | apply pw_below_drewN | apply below_drew1 | refine below_set ?_ GE110.out) | exact HB.out)⟩⟩
      case round =>
        clear H'
        try clear c2
        try clear p2
        try clear c4
        try clear c4b0
        try clear c4b1
        try clear c4b2
        try clear c6
        try clear c6b0
        try clear c6b1
        try clear c6b2
        try clear hcz12_0
        try clear hcz12_1
        try clear hcz12_2
        try clear hfz12_0
        try clear hfz12_1
        try clear hfz12_2
        obtain ⟨x3_1, x24_1, rfl, rfl, HA, HK1, BK110, HB⟩ := hrel
        cases gk with
        | zero => exact absurd HA.out (by simp [spec_nameBytes.l0])
        | succ k1 =>
          have H := HA.out
          clear HA
          simp only [spec_nameBytes.l0] at H
          by_cases c13 : x24_1 < (l0_1.length : Int)
          · rw [if_pos c13] at H
            have c13b0 : decide (x24_1 < (l0_1.length : Int)) = true := decide_eq_true c13
            clear c13
            by_cases c14 : 0 ≤ x24_1
            · rw [if_pos c14] at H
              have c14b0 : decide (0 ≤ x24_1) = true := decide_eq_true c14
              clear c14
              by_cases c15 : x24_1 < (l0_1.length : Int)
              · rw [if_pos c15] at H
                have c15b0 : decide (x24_1 < (l0_1.length : Int)) = true := decide_eq_true c15
                clear c15
                replace H := Option.bind_eq_some_iff.mp H
                obtain ⟨t115, A160, H⟩ := H
                replace H : (if x3_1.size + t115.size ≤ 9223372036854775807 then (spec_nameBytes.l0 k1 (x3_1 ++ t115) l0_1 (l0_1.length : Int) (wrap64 (x24_1 + 1))) else (none)) = some r := H
                have A16 := Aside0.mk A160
                clear A160
                by_cases c17 : x3_1.size + t115.size ≤ 9223372036854775807
                · rw [if_pos c17] at H
                  have c17b0 := eq_true c17
                  have c17b1 : decide (x3_1.size + t115.size ≤ 9223372036854775807) = true := decide_eq_true c17
                  try have c17b2 : (9223372036854775807 < x3_1.size + t115.size) = False := eq_false (Nat.not_lt.2 c17)
                  have H' := Aside0.mk H
                  clear H
                  have p114 : 0 ≤ (x24_1 : Int) := of_decide_eq_true (by first | (with_reducible assumption) | assumption)
                  have q114 : x24_1 < (l0_1.length : Int) := of_decide_eq_true (by first | (with_reducible assumption) | assumption)
                  obtain ⟨ad114, e114, hx114_0⟩ := Kd.at_string HR0_1.out x24_1 p114 q114
                  cases e114
                  replace hx114_0 := (HB.out.cell (World.block_lt_of_cell? w _ hx114_0)).trans hx114_0
                  replace p114 := eq_true p114
                  replace q114 := eq_true q114
                  go_wp2_with (first | ((with_reducible refine gate_callee (f := 28) rfl ?_); refine goesL_ (some 30) rfl rfl Try.func28 (by kernel_rfl) rfl #[.string (rdOf ByteArray.empty l0_1 x24_1), .int .i64 4] rfl (by (try simp only [List.map_toArray, List.map_cons, List.map_nil]); first | done | rfl | (simp only [List.length_drop, List.length_take]; rfl) | (rw [← B.u64u32]; rfl)) ?_; (with_reducible refine (spec_counted.calls (rdOf ByteArray.empty l0_1 x24_1) 4 t115 _ A16.out).mono ?_); rintro e w18 ⟨rfl, hb⟩; refine ⟨_, rfl, ?_⟩; have n0_ := Aside0.mk (blk_below (g := gb110) (o := .cells #[.string a0_0, .slice (some ad114) l0_1.length c0_1, .int .i32 a0_2] 24 (0, 0)) (by (with_reducible repeat (first | refine blk_drewN ?_ _ | refine blk_drew ?_ | refine blk_alloc ?_ _)); exact BK110.out) hb); have n1_ := Aside0.mk (below_step (by repeat (first | (with_reducible first | exact HB.out | apply below_alloc | apply pw_below_drewN | apply below_drew1 | refine below_set ?_ GE110.out) | exact HB.out)) hb); clear BK110; clear HB; have BK110 := n0_; have HB := n1_; clear n0_ n1_; (try clear hb); (try clear hb2); (try clear hk); (try clear hi)))
                  go_roundg k1
                  case measure => have := HK1.out; omega
                  case rel => exact ⟨(x3_1 ++ t115), (wrap64 (x24_1 + 1)), (by first | rfl | (simp; done) | (simp [*]; done)), (by first | rfl | (simp; done) | (simp [*]; done)), H', ⟨by have := HK1.out; omega⟩, ⟨by (with_reducible repeat (first | refine blk_drewN ?_ _ | refine blk_drew ?_ | refine blk_alloc ?_ _)); exact BK110.out⟩, ⟨by repeat (first | (with_reducible first | exact HB.out | apply below_alloc | apply pw_below_drewN | apply below_drew1 | refine below_set ?_ GE110.out) | exact HB.out)⟩⟩
                · rw [if_neg c17] at H
                  exact absurd H (by simp)
              · rw [if_neg c15] at H
                exact absurd H (by simp)
            · rw [if_neg c14] at H
              exact absurd H (by simp)
          · rw [if_neg c13] at H
            have c13b0 : decide (x24_1 < (l0_1.length : Int)) = false := decide_eq_false c13
            clear c13
            obtain rfl := Option.some.inj H
            go_wp2
            go_ret
            exact ⟨by first | rfl | (simp [errW_none, errW_some] <;> rfl) | (simp [*, errW_none, errW_some] <;> rfl), by repeat (first | (with_reducible first | exact HB.out | apply below_alloc | apply pw_below_drewN | apply below_drew1 | refine below_set ?_ GE110.out) | exact HB.out)⟩
    · rw [if_neg c6] at H
      exact absurd H (by simp)
  · rw [if_neg c4] at H
    exact absurd H (by simp)

/-! ### spec_partsBytes: function 30 -/
def spec_partsBytes.l0 : Nat → ByteArray → List (S63) → Int → Int → Option (ByteArray)
  | 0, _, _, _, _ => none
  | k + 1, x3, x10, x11, x12 => if x12 < x11 then (if 0 ≤ x12 then (if x12 < (x10.length : Int) then ((spec_big.f (IntKind.u64.wrap (IntKind.u16.wrap ((rd_T63 x10 x12).f0))) 2).bind fun t119 => ((spec_counted.f ((rd_T63 x10 x12).f1) 4).bind fun t120 => (if t119.size + t120.size ≤ 9223372036854775807 then (if x3.size + (t119 ++ t120).size ≤ 9223372036854775807 then (spec_partsBytes.l0 k (x3 ++ (t119 ++ t120)) x10 x11 (wrap64 (x12 + 1))) else (none)) else (none)))) else (none)) else (none)) else (some x3)
def spec_partsBytes.f (k : Nat) (l0 : List (S63)) : Option (ByteArray) := (spec_big.f (IntKind.u64.wrap ((l0.length : Int))) 4).bind fun t116 => (spec_partsBytes.l0 k t116 l0 (l0.length : Int) 0)
set_option maxRecDepth 100000 in
theorem spec_partsBytes.mono_l : ∀ k, (∀ y0 y1 y2 y3, LeO (spec_partsBytes.l0 k y0 y1 y2 y3) (spec_partsBytes.l0 (k + 1) y0 y1 y2 y3))
  | 0 => fun _ _ _ _ r h => by simp [spec_partsBytes.l0] at h
  | k + 1 => by
    have ih0 := spec_partsBytes.mono_l k
    · intro y0 y1 y2 y3
      unfold spec_partsBytes.l0
      repeat' first
      | (with_reducible exact ih0 _ _ _ _)
      | (with_reducible exact LeO.refl _)
      | (with_reducible exact LeO.none _)
      | (with_reducible refine LeO.ite ?_ ?_)
      | (with_reducible refine LeO.bind ?_ (fun _ => ?_))
      | exact ih0 _ _ _ _
      | exact LeO.none _
      | refine LeO.ite ?_ ?_
      | refine LeO.bind ?_ (fun _ => ?_)
set_option maxRecDepth 100000 in
theorem spec_partsBytes.mono : ∀ a0 k, LeO (spec_partsBytes.f k a0) (spec_partsBytes.f (k + 1) a0) := by
  intro a0 k
  have ih0 := spec_partsBytes.mono_l k
  unfold spec_partsBytes.f
  repeat' first
      | (with_reducible exact ih0 _ _ _ _)
      | (with_reducible exact LeO.refl _)
      | (with_reducible exact LeO.none _)
      | (with_reducible refine LeO.ite ?_ ?_)
      | (with_reducible refine LeO.bind ?_ (fun _ => ?_))
      | exact ih0 _ _ _ _
      | exact LeO.none _
      | refine LeO.ite ?_ ?_
      | refine LeO.bind ?_ (fun _ => ?_)
def spec_partsBytes.T5 : Bool × List (List Nat × List Nat) := (true, [([], []), ([], []), ([1], [1]), ([2], [2]), ([3], [3]), ([4], [4]), ([], []), ([6], [6]), ([7, 5], [7]), ([5, 8], [5, 8]), ([0, 9], [0, 9]), ([10, 8, 0, 1, 2, 3, 4, 5, 6, 7, 8, 9, 10], [0, 10])])
def spec_partsBytes.B5 : List Nat := [0, 0, 2, 6, 14, 30, 0, 64, 254, 510, 1023, 2047]
theorem spec_partsBytes.tab5 : rtab .any (opsOf Try.f30 5) = spec_partsBytes.T5 := by kernel_rfl
theorem spec_partsBytes.bits5 : waitsOk spec_partsBytes.T5.2 spec_partsBytes.B5 = true := by kernel_rfl
set_option maxHeartbeats 8000000 in
set_option maxRecDepth 100000 in
theorem spec_partsBytes.calls (k : Nat) (A0 : Option Addr) (c0 : Nat) (l0 : List (S63)) (r : ByteArray) (w : World) (hr0 : Kd.C k63 w A0 l0.length l0) (hc0 : l0.length ≤ c0) (h : spec_partsBytes.f k l0 = some r) :
    Calls Try.prog 30 #[.slice A0 l0.length c0] w fun e w' => e = .returned (.string r) ∧ Below w.heap.size w w' := by
  have hu63 := Try.underlying63
  have HR0 := Aside0.mk hr0
  have HC0 := Aside0.mk hc0
  clear hr0 hc0
  have HB := Aside0.mk (Below.refl w.heap.size w)
  have H : ((spec_big.f (IntKind.u64.wrap ((l0.length : Int))) 4).bind fun t116 => (spec_partsBytes.l0 k t116 l0 (l0.length : Int) 0)) = some r := h
  clear h
  replace H := Option.bind_eq_some_iff.mp H
  obtain ⟨t116, A20, H⟩ := H
  replace H : (spec_partsBytes.l0 k t116 l0 (l0.length : Int) 0) = some r := H
  have A2 := Aside0.mk A20
  clear A20
  have H' := Aside0.mk H
  clear H
  go_enter Try.func30, Try.ntmps30
  go_wp2_with (first | ((with_reducible refine gate_callee (f := 27) rfl ?_); refine goesL_ (some 9) rfl rfl Try.func27 (by kernel_rfl) rfl #[.int .u64 (IntKind.u64.wrap ((l0.length : Int))), .int .i64 4] rfl (by (try simp only [List.map_toArray, List.map_cons, List.map_nil]); first | done | rfl | (simp only [List.length_drop, List.length_take]; rfl) | (rw [← B.u64u32]; rfl)) ?_; (with_reducible refine (spec_big.calls (IntKind.u64.wrap ((l0.length : Int))) 4 t116 _ A2.out).mono ?_); rintro e w3 ⟨rfl, hb⟩; refine ⟨_, rfl, ?_⟩; have n0_ := Aside0.mk (below_step (by repeat (first | (with_reducible first | exact HB.out | apply below_alloc | apply pw_below_drewN | apply below_drew1) | exact HB.out)) hb); clear HB; have HB := n0_; clear n0_; (try clear hb); (try clear hb2); (try clear hk); (try clear hi)))
  go_loopg [3, 12] k (fun kq v3 v12 w' => ∃ (x3_1 : ByteArray) (x12_1 : Int), v3 = .string x3_1 ∧ v12 = .int .i64 x12_1 ∧ Aside0 (spec_partsBytes.l0 kq x3_1 l0 (l0.length : Int) x12_1 = some r) ∧ Aside0 (kq ≤ k) ∧ Aside0 (Below w.heap.size w w'))
  case atStart => exact ⟨(t116), (0), (by first | rfl | (simp; done) | (simp [*]; done)), (by first | rfl | (simp; done) | (simp [*]; done)), H', ⟨Nat.le_refl _⟩, ⟨by repeat (first | (with_reducible first | exact HB.out | apply below_alloc | apply pw_below_drewN | apply below_drew1) | exact HB.out)⟩⟩
  case round =>
    clear H'
    try clear c2
    try clear p2
    try clear c3
    obtain ⟨x3_1, x12_1, rfl, rfl, HA, HK1, HB⟩ := hrel
    cases gk with
    | zero => exact absurd HA.out (by simp [spec_partsBytes.l0])
    | succ k1 =>
      have H := HA.out
      clear HA
      simp only [spec_partsBytes.l0] at H
      by_cases c4 : x12_1 < (l0.length : Int)
      · rw [if_pos c4] at H
        have c4b0 : decide (x12_1 < (l0.length : Int)) = true := decide_eq_true c4
        clear c4
        by_cases c5 : 0 ≤ x12_1
        · rw [if_pos c5] at H
          have c5b0 : decide (0 ≤ x12_1) = true := decide_eq_true c5
          clear c5
          by_cases c6 : x12_1 < (l0.length : Int)
          · rw [if_pos c6] at H
            have c6b0 : decide (x12_1 < (l0.length : Int)) = true := decide_eq_true c6
            clear c6
            replace H := Option.bind_eq_some_iff.mp H
            obtain ⟨t119, A70, H⟩ := H
            replace H : ((spec_counted.f ((rd_T63 l0 x12_1).f1) 4).bind fun t120 => (if t119.size + t120.size ≤ 9223372036854775807 then (if x3_1.size + (t119 ++ t120).size ≤ 9223372036854775807 then (spec_partsBytes.l0 k1 (x3_1 ++ (t119 ++ t120)) l0 (l0.length : Int) (wrap64 (x12_1 + 1))) else (none)) else (none))) = some r := H
            have A7 := Aside0.mk A70
            clear A70
            replace H := Option.bind_eq_some_iff.mp H
            obtain ⟨t120, A80, H⟩ := H
            replace H : (if t119.size + t120.size ≤ 9223372036854775807 then (if x3_1.size + (t119 ++ t120).size ≤ 9223372036854775807 then (spec_partsBytes.l0 k1 (x3_1 ++ (t119 ++ t120)) l0 (l0.length : Int) (wrap64 (x12_1 + 1))) else (none)) else (none)) = some r := H
            have A8 := Aside0.mk A80
            clear A80
            by_cases c9 : t119.size + t120.size ≤ 9223372036854775807
            · rw [if_pos c9] at H
              have c9b0 := eq_true c9
              have c9b1 : decide (t119.size + t120.size ≤ 9223372036854775807) = true := decide_eq_true c9
              try have c9b2 : (9223372036854775807 < t119.size + t120.size) = False := eq_false (Nat.not_lt.2 c9)
              by_cases c10 : x3_1.size + (t119 ++ t120).size ≤ 9223372036854775807
              · rw [if_pos c10] at H
                have c10b0 := eq_true c10
                have c10b1 : decide (x3_1.size + (t119 ++ t120).size ≤ 9223372036854775807) = true := decide_eq_true c10
                try have c10b2 : (9223372036854775807 < x3_1.size + (t119 ++ t120).size) = False := eq_false (Nat.not_lt.2 c10)
                try (have c10b3 := c10b2; simp only [ByteArray.size_append] at c10b3)
                have H' := Aside0.mk H
                clear H
                have p117 : 0 ≤ (x12_1 : Int) := of_decide_eq_true (by first | (with_reducible assumption) | assumption)
                have q117 : x12_1 < (l0.length : Int) := of_decide_eq_true (by first | (with_reducible assumption) | assumption)
                obtain ⟨ad117, e117, hx117_0, hx117_1⟩ := at_T63 HR0.out x12_1 p117 q117
                cases e117
                replace hx117_0 := (HB.out.cell (World.block_lt_of_cell? w _ hx117_0)).trans hx117_0
                replace hx117_1 := (HB.out.cell (World.block_lt_of_cell? w _ hx117_1)).trans hx117_1
                replace p117 := eq_true p117
                replace q117 := eq_true q117
                try go_wp2_with (first | ((with_reducible refine gate_dst (N := 5) rfl ?_); refine box_event ?hg (N := 5) ?hd (cs := #[.int .i32 0, .string (⟨#[]⟩ : ByteArray)]) (t := 63) ?hr ?_; (case hd => rfl); (case hg => rfl); (case hr => first | (go_simp; done) | (go_simp; rfl)); intro gb118 hg w11 hbox hb; have n0_ := Aside0.mk (below_step (by repeat (first | (with_reducible first | exact HB.out | apply below_alloc | apply pw_below_drewN | apply below_drew1) | exact HB.out)) hb); have n1_ := Aside0.mk (hbox); have n2_ := Aside0.mk ((by rw [hg]; exact (below_size (by repeat (first | (with_reducible first | exact HB.out | apply below_alloc | apply pw_below_drewN | apply below_drew1) | exact HB.out))) : w.heap.size ≤ gb118)); have n3_ := Aside0.mk ((by rw [hg]; exact (below_size (by repeat (first | (with_reducible first | exact HB.out | apply below_alloc | apply pw_below_drewN | apply below_drew1) | exact HB.out))) : w.heap.size ≤ gb118)); clear HB; have HB := n0_; have BK118 := n1_; have GW118 := n2_; have GE118 := n3_; clear n0_ n1_ n2_ n3_; clear hb hbox hg; have hcz12_0 : w11.cell? ⟨gb118, 0, none⟩ = some (.int .i32 0) := (blk_cell BK118.out 0).trans rfl; have hcz12_1 : w11.cell? ⟨gb118, 1, none⟩ = some (.string (⟨#[]⟩ : ByteArray)) := (blk_cell BK118.out 1).trans rfl; have hfz12_0 := blk_frozen BK118.out 0; have hfz12_1 := blk_frozen BK118.out 1))
                have n0_ : Aside0 (((w11.setCell ⟨gb118, 0, none⟩ (.int .i32 ((rd_T63 l0 x12_1).f0))).setCell ⟨gb118, 1, none⟩ (.string ((rd_T63 l0 x12_1).f1))).heap[gb118]? = some (.cells #[.int .i32 ((rd_T63 l0 x12_1).f0), .string ((rd_T63 l0 x12_1).f1)] 63 (0, 0))) := ⟨by (with_reducible repeat (first | refine blk_drewN ?_ _ | refine blk_drew ?_ | refine blk_alloc ?_ _)); refine blk_put (cs := #[.int .i32 ((rd_T63 l0 x12_1).f0), .string (⟨#[]⟩ : ByteArray)]) ?_ 1 _ rfl; (with_reducible repeat (first | refine blk_drewN ?_ _ | refine blk_drew ?_ | refine blk_alloc ?_ _)); refine blk_put (cs := #[.int .i32 0, .string (⟨#[]⟩ : ByteArray)]) ?_ 0 _ rfl; (with_reducible repeat (first | refine blk_drewN ?_ _ | refine blk_drew ?_ | refine blk_alloc ?_ _)); exact BK118.out⟩
                have n1_ : Aside0 (Below w.heap.size w ((w11.setCell ⟨gb118, 0, none⟩ (.int .i32 ((rd_T63 l0 x12_1).f0))).setCell ⟨gb118, 1, none⟩ (.string ((rd_T63 l0 x12_1).f1)))) := ⟨by repeat (first | (with_reducible first | exact HB.out | apply below_alloc | apply pw_below_drewN | apply below_drew1 | refine below_set ?_ GE118.out) | exact HB.out)⟩
                (try clear BK118)
                (try clear HB)
                generalize ((w11.setCell ⟨gb118, 0, none⟩ (.int .i32 ((rd_T63 l0 x12_1).f0))).setCell ⟨gb118, 1, none⟩ (.string ((rd_T63 l0 x12_1).f1))) = w13 at n0_ n1_ ⊢
                have BK118 := n0_
                have HB := n1_
                clear n0_ n1_
                have n0_ := Aside0.mk (blk_drew BK118.out)
                have n1_ := Aside0.mk (below_drew1 HB.out)
                clear BK118
                clear HB
                have BK118 := n0_
                have HB := n1_
                clear n0_ n1_
                refine start_ (n := 12) (S := fun w' => w'.cell? ⟨gb118, 0, none⟩ = some (.int .i32 ((rd_T63 l0 x12_1).f0)) ∧ w'.cell? ⟨gb118, 1, none⟩ = some (.string ((rd_T63 l0 x12_1).f1))) (ds := []) #[false, false, false, false, false, false, false, false, false, false, false, false] (by kernel_rfl) rfl rfl ⟨(blk_cell BK118.out 0).trans rfl, (blk_cell BK118.out 1).trans rfl⟩ (fun hHeld => ?_); refine with_tabW spec_partsBytes.tab5 spec_partsBytes.bits5 (fun HT_ HW_ => ?_)
                generalize w13.drew = w14 at BK118 HB hHeld ⊢
                refine pure_ (i := 0) (N := some 16) (v := ?_) (a' := ?_) #[true, false, false, false, false, false, false, false, false, false, false, false] rfl rfl (any_of HT_.out (by kernel_rfl)) (fun _ _ _ h => h) (Or.inl ⟨by rfl, ?_⟩) ?_ ?_
                rotate_left
                · intro w'
                  go_simp
                  with_reducible rfl
                rotate_left
                · simp only [Act.put, List.setIfInBounds_toArray, List.set_cons_zero, List.set_cons_succ, i64_w, i32_w]
                  rfl
                refine pure_ (i := 1) (N := some 17) (v := ?_) (a' := ?_) #[true, true, false, false, false, false, false, false, false, false, false, false] rfl rfl (any_of HT_.out (by kernel_rfl)) (fun _ _ _ h => h) (Or.inl ⟨by rfl, ?_⟩) ?_ ?_
                rotate_left
                · intro w'
                  go_simp
                  with_reducible rfl
                rotate_left
                · simp only [Act.put, List.setIfInBounds_toArray, List.set_cons_zero, List.set_cons_succ, i64_w, i32_w]
                  rfl
                refine pure_ (i := 6) (N := some 22) (v := ?_) (a' := ?_) #[true, true, false, false, false, false, true, false, false, false, false, false] rfl rfl (any_of HT_.out (by kernel_rfl)) (fun _ _ _ h => h) (Or.inl ⟨by rfl, ?_⟩) ?_ ?_
                rotate_left
                · intro w'
                  go_simp
                  with_reducible rfl
                rotate_left
                · simp only [Act.put, List.setIfInBounds_toArray, List.set_cons_zero, List.set_cons_succ, i64_w, i32_w]
                  rfl
                refine take_ (i := 2) (N := some 18) (v := ?_) (a' := ?_) #[true, true, true, false, false, false, true, false, false, false, false, false] rfl rfl (take_ofW HT_.out HW_.out (by kernel_rfl)) (fun _ _ _ h => h) (Or.inl ⟨by rfl, ?_⟩) hHeld ?_ ?_
                rotate_left
                · rintro w' ⟨s0, s1⟩
                  go_simp
                  with_reducible rfl
                rotate_left
                · simp only [Act.put, List.setIfInBounds_toArray, List.set_cons_zero, List.set_cons_succ, i64_w, i32_w]
                  rfl
                refine pure_ (i := 3) (N := some 19) (v := ?_) (a' := ?_) #[true, true, true, true, false, false, true, false, false, false, false, false] rfl rfl (any_of HT_.out (by kernel_rfl)) (fun _ _ _ h => h) (Or.inl ⟨by rfl, ?_⟩) ?_ ?_
                rotate_left
                · intro w'
                  go_simp
                  with_reducible rfl
                rotate_left
                · simp only [Act.put, List.setIfInBounds_toArray, List.set_cons_zero, List.set_cons_succ, i64_w, i32_w]
                  rfl
                refine pure_ (i := 4) (N := some 20) (v := ?_) (a' := ?_) #[true, true, true, true, true, false, true, false, false, false, false, false] rfl rfl (any_of HT_.out (by kernel_rfl)) (fun _ _ _ h => h) (Or.inl ⟨by rfl, ?_⟩) ?_ ?_
                rotate_left
                · intro w'
                  go_simp
                  with_reducible rfl
                rotate_left
                · simp only [Act.put, List.setIfInBounds_toArray, List.set_cons_zero, List.set_cons_succ, i64_w, i32_w]
                  rfl
                refine take_ (i := 7) (N := some 23) (v := ?_) (a' := ?_) #[true, true, true, true, true, false, true, true, false, false, false, false] rfl rfl (take_ofW HT_.out HW_.out (by kernel_rfl)) (fun _ _ _ h => h) (Or.inl ⟨by rfl, ?_⟩) hHeld ?_ ?_
                rotate_left
                · rintro w' ⟨s0, s1⟩
                  go_simp
                  with_reducible rfl
                rotate_left
                · simp only [Act.put, List.setIfInBounds_toArray, List.set_cons_zero, List.set_cons_succ, i64_w, i32_w]
                  rfl
                refine one_ (i := 5) (N := some 21) #[true, true, true, true, true, true, true, true, false, false, false, false] rfl rfl (one_of HT_.out (by kernel_rfl)) (by decide) (fun K hK => ?_)
                refine goes_ Try.func27 (by kernel_rfl) rfl #[.int .u64 (IntKind.u64.wrap (IntKind.u16.wrap ((rd_T63 l0 x12_1).f0))), .int .i64 2] (by rfl) rfl rfl (by (try simp only [List.map_toArray, List.map_cons, List.map_nil]); first | done | rfl | (simp only [List.length_drop, List.length_take]; rfl) | (rw [← B.u64u32]; rfl)) ?_
                with_reducible refine (spec_big.calls (IntKind.u64.wrap (IntKind.u16.wrap ((rd_T63 l0 x12_1).f0))) 2 t119 _ A7.out).mono ?_
                rintro e w15 ⟨rfl, hb⟩
                refine ⟨_, rfl, ?_⟩
                have n0_ := Aside0.mk (blk_below (g := gb118) (o := .cells #[.int .i32 ((rd_T63 l0 x12_1).f0), .string ((rd_T63 l0 x12_1).f1)] 63 (0, 0)) (by (with_reducible repeat (first | refine blk_drewN ?_ _ | refine blk_drew ?_ | refine blk_alloc ?_ _)); exact BK118.out) hb)
                have n1_ := Aside0.mk (below_step (by repeat (first | (with_reducible first | exact HB.out | apply below_alloc | apply pw_below_drewN | apply below_drew1 | refine below_set ?_ GE118.out) | exact HB.out)) hb)
                clear BK118
                clear HB
                have BK118 := n0_
                have HB := n1_
                clear n0_ n1_
                (try clear hb)
                (try clear hb2)
                (try clear hk)
                (try clear hi)
                refine hK.out _ _ ⟨(blk_cell BK118.out 0).trans rfl, (blk_cell BK118.out 1).trans rfl⟩ (fun hHeld => ?_)
                clear hK K
                refine norm_ (a' := ?_) ?_ ?_
                rotate_left
                · show Act.put _ (some 21) _ = _
                  simp only [Act.put, List.setIfInBounds_toArray, List.set_cons_zero, List.set_cons_succ, i64_w, i32_w]
                  rfl
                refine one_ (i := 8) (N := some 24) #[true, true, true, true, true, true, true, true, true, false, false, false] rfl rfl (one_of HT_.out (by kernel_rfl)) (by decide) (fun K hK => ?_)
                refine goes_ Try.func28 (by kernel_rfl) rfl #[.string ((rd_T63 l0 x12_1).f1), .int .i64 4] (by rfl) rfl rfl (by (try simp only [List.map_toArray, List.map_cons, List.map_nil]); first | done | rfl | (simp only [List.length_drop, List.length_take]; rfl) | (rw [← B.u64u32]; rfl)) ?_
                with_reducible refine (spec_counted.calls ((rd_T63 l0 x12_1).f1) 4 t120 _ A8.out).mono ?_
                rintro e w16 ⟨rfl, hb⟩
                refine ⟨_, rfl, ?_⟩
                have n0_ := Aside0.mk (blk_below (g := gb118) (o := .cells #[.int .i32 ((rd_T63 l0 x12_1).f0), .string ((rd_T63 l0 x12_1).f1)] 63 (0, 0)) (by (with_reducible repeat (first | refine blk_drewN ?_ _ | refine blk_drew ?_ | refine blk_alloc ?_ _)); exact BK118.out) hb)
                have n1_ := Aside0.mk (below_step (by repeat (first | (with_reducible first | exact HB.out | apply below_alloc | apply pw_below_drewN | apply below_drew1 | refine below_set ?_ GE118.out) | exact HB.out)) hb)
                clear BK118
                clear HB
                have BK118 := n0_
                have HB := n1_
                clear n0_ n1_
                (try clear hb)
                (try clear hb2)
                (try clear hk)
                (try clear hi)
                refine hK.out _ _ ⟨(blk_cell BK118.out 0).trans rfl, (blk_cell BK118.out 1).trans rfl⟩ (fun hHeld => ?_)
                clear hK K
                refine norm_ (a' := ?_) ?_ ?_
                rotate_left
                · show Act.put _ (some 24) _ = _
                  simp only [Act.put, List.setIfInBounds_toArray, List.set_cons_zero, List.set_cons_succ, i64_w, i32_w]
                  rfl
                refine pure_ (i := 9) (N := some 25) (v := ?_) (a' := ?_) #[true, true, true, true, true, true, true, true, true, true, false, false] rfl rfl (any_of HT_.out (by kernel_rfl)) (fun _ _ _ h => h) (Or.inl ⟨by rfl, ?_⟩) ?_ ?_
                rotate_left
                · intro w'
                  go_simp
                  with_reducible rfl
                rotate_left
                · simp only [Act.put, List.setIfInBounds_toArray, List.set_cons_zero, List.set_cons_succ, i64_w, i32_w]
                  rfl
                refine pure_ (i := 10) (N := some 26) (v := ?_) (a' := ?_) #[true, true, true, true, true, true, true, true, true, true, true, false] rfl rfl (any_of HT_.out (by kernel_rfl)) (fun _ _ _ h => h) (Or.inl ⟨by rfl, ?_⟩) ?_ ?_
                rotate_left
                · intro w'
                  go_simp
                  with_reducible rfl
                rotate_left
                · simp only [Act.put, List.setIfInBounds_toArray, List.set_cons_zero, List.set_cons_succ, i64_w, i32_w]
                  rfl
                refine pure_ (i := 11) (N := some 3) (v := ?_) (a' := ?_) #[true, true, true, true, true, true, true, true, true, true, true, true] rfl rfl (any_of HT_.out (by kernel_rfl)) (fun _ _ _ h => h) (Or.inl ⟨by rfl, ?_⟩) ?_ ?_
                rotate_left
                · intro w'
                  go_simp
                  with_reducible rfl
                rotate_left
                · simp only [Act.put, List.setIfInBounds_toArray, List.set_cons_zero, List.set_cons_succ, i64_w, i32_w]
                  rfl
                refine done_ (done_of HT_.out (by kernel_rfl)) ?_
                try go_wp2
                go_roundg k1
                case measure => have := HK1.out; omega
                case rel => exact ⟨(x3_1 ++ (t119 ++ t120)), (wrap64 (x12_1 + 1)), (by first | rfl | (simp; done) | (simp [*]; done)), (by first | rfl | (simp; done) | (simp [*]; done)), H', ⟨by have := HK1.out; omega⟩, ⟨by repeat (first | (with_reducible first | exact HB.out | apply below_alloc | apply pw_below_drewN | apply below_drew1 | refine below_set ?_ GE118.out) | exact HB.out)⟩⟩
              · rw [if_neg c10] at H
                exact absurd H (by simp)
            · rw [if_neg c9] at H
              exact absurd H (by simp)
          · rw [if_neg c6] at H
            exact absurd H (by simp)
        · rw [if_neg c5] at H
          exact absurd H (by simp)
      · rw [if_neg c4] at H
        have c4b0 : decide (x12_1 < (l0.length : Int)) = false := decide_eq_false c4
        clear c4
        obtain rfl := Option.some.inj H
        go_wp2
        go_ret
        exact ⟨by first | rfl | (simp [errW_none, errW_some] <;> rfl) | (simp [*, errW_none, errW_some] <;> rfl), by repeat (first | (with_reducible first | exact HB.out | apply below_alloc | apply pw_below_drewN | apply below_drew1) | exact HB.out)⟩

end Go.Proofs.Ytnipcocllhfaoaa.A

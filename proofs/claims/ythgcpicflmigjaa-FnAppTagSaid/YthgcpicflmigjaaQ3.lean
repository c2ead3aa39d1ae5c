/- Go functions of this seat come to the answers of the Lean functions that stand here ('.calls'), under what each theorem states and nothing else. Written by pw.py, a program of this session, with texts of its own. -/
import Derived.Test.YthgcpicflmigjaaQ0
import Derived.Test.YthgcpicflmigjaaQ2
namespace Go.Proofs.Ythgcpicflmigjaa.Q
open Go.RowKit Go.Proofs.YthgcpicflmigjaaW.PrintWords Go.Proofs.YthgcpicflmigjaaW.PrintLast Go.Proofs.YthgcpicflmigjaaW.PrintMore
attribute [local go_sem] max2_int min2_int max_two min_two max_three min_three max_four min_four   -- for this text's walks alone
set_option linter.unusedVariables false
set_option linter.unusedSimpArgs false
set_option maxRecDepth 100000

/-! ### asn1tools_MarshalLengthBytes: function 43 -/
def asn1tools_MarshalLengthBytes.l0 : Nat → Int → List Int → Int → Int → Option (List Int)
  | 0, _, _, _, _ => none
  | k + 1, x0, x3, x4, x5 => if x5 < 127 then (if (wrap64 (x4 * 256)) = 0 then (none) else (if x4 = 0 then (none) else ((some (([(wrap64 (Int.tdiv (Int.tmod x0 (wrap64 (x4 * 256))) x4)) % 256] : List Int) : List Int)).bind fun y104 => (if y104.length + x3.length < 140737488355328 then ((some (y104 ++ x3 : List Int)).bind fun y107 => (if (wrap64 (x0 - (Int.tmod x0 (wrap64 (x4 * 256))))) ≤ 0 then ((some (([(wrap64 (128 + (y107.length : Int))) % 256] : List Int) : List Int)).bind fun y110 => (if y110.length + y107.length < 140737488355328 then (some (y110 ++ y107)) else (none))) else (asn1tools_MarshalLengthBytes.l0 k (wrap64 (x0 - (Int.tmod x0 (wrap64 (x4 * 256))))) y107 (wrap64 (x4 * 256)) x5))) else (none))))) else ((some (([(wrap64 (128 + (x3.length : Int))) % 256] : List Int) : List Int)).bind fun y116 => (if y116.length + x3.length < 140737488355328 then (some (y116 ++ x3)) else (none)))
def asn1tools_MarshalLengthBytes.f (k : Nat) (a0 : Int) : Option (List Int) := if a0 ≤ 127 then (some (([(a0) % 256] : List Int))) else (asn1tools_MarshalLengthBytes.l0 k a0 ([] : List Int) 1 1)
set_option maxRecDepth 100000 in
theorem asn1tools_MarshalLengthBytes.mono_l : ∀ k, (∀ y0 y1 y2 y3, LeO (asn1tools_MarshalLengthBytes.l0 k y0 y1 y2 y3) (asn1tools_MarshalLengthBytes.l0 (k + 1) y0 y1 y2 y3))
  | 0 => fun _ _ _ _ r h => by simp [asn1tools_MarshalLengthBytes.l0] at h
  | k + 1 => by
    have ih0 := asn1tools_MarshalLengthBytes.mono_l k
    · intro y0 y1 y2 y3
      unfold asn1tools_MarshalLengthBytes.l0
      repeat' first
      | (with_reducible exact ih0 _ _ _ _)
      | (with_reducible exact LeO.refl _)
      | (with_reducible exact LeO.none _)
      | (with_reducible refine LeO.ite ?_ ?_)
      | (with_reducible refine LeO.bind ?_ (fun _ => ?_))
      | exact ih0 _ _ _ _
      | exact LeO.none _
      | refine LeO.ite ?_ ?_
      | refine LeO.bind ?_ (fun _ => ?_)
set_option maxRecDepth 100000 in
theorem asn1tools_MarshalLengthBytes.mono : ∀ a0 k, LeO (asn1tools_MarshalLengthBytes.f k a0) (asn1tools_MarshalLengthBytes.f (k + 1) a0) := by
  intro a0 k
  have ih0 := asn1tools_MarshalLengthBytes.mono_l k
  unfold asn1tools_MarshalLengthBytes.f
  repeat' first
      | (with_reducible exact ih0 _ _ _ _)
      | (with_reducible exact LeO.refl _)
      | (with_reducible exact LeO.none _)
      | (with_reducible refine LeO.ite ?_ ?_)
      | (with_reducible refine LeO.bind ?_ (fun _ => ?_))
      | exact ih0 _ _ _ _
      | exact LeO.none _
      | refine LeO.ite ?_ ?_
      | refine LeO.bind ?_ (fun _ => ?_)
set_option maxHeartbeats 8000000 in
set_option maxRecDepth 100000 in
theorem asn1tools_MarshalLengthBytes.calls (k : Nat) (a0 : Int) (r : List Int) (w : World) (h : asn1tools_MarshalLengthBytes.f k a0 = some r) :
    Calls Try.prog 43 #[.int .i64 a0] w fun e w' => ∃ v0_ : Value, e = .returned (v0_) ∧ Kd.R (Kd.int .u8) 5 w' w.heap.size (fun _ => True) v0_ r ∧ Below w.heap.size w w' := by
  have HB := Aside0.mk (Below.refl w.heap.size w)
  have H : (if a0 ≤ 127 then (some (([(a0) % 256] : List Int))) else (asn1tools_MarshalLengthBytes.l0 k a0 ([] : List Int) 1 1)) = some r := h
  clear h
  by_cases c2 : a0 ≤ 127
  · rw [if_pos c2] at H
    have c2b0 : decide (a0 ≤ 127) = true := decide_eq_true c2
    clear c2
    obtain ⟨y101, hy101⟩ : ∃ y_ : List Int, y_ = (([(a0) % 256] : List Int)) := ⟨_, rfl⟩
    replace H : (some y101) = some r := by first | (rw [hy101]; with_reducible exact H) | (have H2_ := (Option.bind_some _ _).symm.trans H; rw [hy101]; with_reducible exact H2_) | (have H2_ := (Option.bind_some _ _).symm.trans H; with_reducible exact H2_) | with_reducible exact H | (rw [hy101]; exact H) | exact H
    have Ny101 := Aside0.mk hy101
    clear hy101
    obtain rfl := Option.some.inj H
    go_enter Try.func43, Try.ntmps43
    go_wp2_with (first | ((with_reducible refine gate_dst (N := 10) rfl ?_); refine Kd.R_lit (Kd.int .u8) _ 5 ?hg (N := 10) ?hd (xs := ([(a0) % 256] : List Int)) (inner := [.int .u8 ((a0) % 256)]) (ok := fun _ => True) (okp := fun _ => True) ?hr ?hp (fun _ hk => hk) trivial (Below.refl _ _) (Nat.le_refl _) (by simp) ?_; (case hd => rfl); (case hg => rfl); (case hr => first | (go_simp; done) | (go_simp; rfl)); (case hp => exact (Reps.one (show Kd.M (Kd.int .u8) _ _ _ ((a0) % 256) [.int .u8 ((a0) % 256)] from rfl) (Reps.none _ _))); intro v102 w3 ho4 hb hg_ hnew_; clear hg_ hnew_; (first | rw [← Ny101.out] at ho4 | (simp only [Int.reduceToNat] at ho4; rw [← Ny101.out] at ho4)); have n0_ := Aside0.mk (Kd.R_lower ho4 (below_size (by repeat (first | (with_reducible first | exact HB.out | apply below_alloc | apply pw_below_drewN | apply below_drew1) | exact HB.out)))); have n1_ := Aside0.mk (below_step (by repeat (first | (with_reducible first | exact HB.out | apply below_alloc | apply pw_below_drewN | apply below_drew1) | exact HB.out)) hb); clear HB; have HO103 := n0_; have HB := n1_; clear n0_ n1_; clear hb ho4))
    go_ret
    exact ⟨_, by first | rfl | (simp [errW_none, errW_some] <;> rfl) | (simp [*, errW_none, errW_some] <;> rfl), by (with_reducible repeat (first | apply Kd.R_alloc | apply Kd.R_drewN | apply Kd.R_drew)); exact HO103.out, by repeat (first | (with_reducible first | exact HB.out | apply below_alloc | apply pw_below_drewN | apply below_drew1) | exact HB.out)⟩
  · rw [if_neg c2] at H
    have c2b0 : decide (a0 ≤ 127) = false := decide_eq_false c2
    clear c2
    have H' := Aside0.mk H
    clear H
    go_enter Try.func43, Try.ntmps43
    go_wp2
    go_loopg [0, 3, 4] k (fun kq v0 v3 v4 w' => ∃ (x0_1 : Int) (x3_1 : List Int) (x4_1 : Int), v0 = .int .i64 x0_1 ∧ v4 = .int .i64 x4_1 ∧ Aside0 (asn1tools_MarshalLengthBytes.l0 kq x0_1 x3_1 x4_1 1 = some r) ∧ Aside0 (kq ≤ k) ∧ Aside0 (Kd.R (Kd.int .u8) 5 w' w.heap.size (fun _ => True) v3 x3_1) ∧ Aside0 (Below w.heap.size w w'))
    case atStart => exact ⟨(a0), (([] : List Int)), (1), (by first | rfl | (simp; done) | (simp [*]; done)), (by first | rfl | (simp; done) | (simp [*]; done)), H', ⟨Nat.le_refl _⟩, ⟨by first | exact Kd.R_nil _ _ _ _ _ | exact Kd.N_nil _ _ _ _ _ | exact Kd.V_nil _ _ _ _ _ | exact Kd.Q_nil _ _ _ _ _ | exact Kd.S_nil _ _ _ _ _⟩, ⟨by repeat (first | (with_reducible first | exact HB.out | apply below_alloc | apply pw_below_drewN | apply below_drew1) | exact HB.out)⟩⟩
    case round =>
      clear H'
      try clear c2
      try clear c2b0
      try clear p2
      try clear c4
      obtain ⟨x0_1, x3_1, x4_1, rfl, rfl, HA, HK1, HO_3, HB⟩ := hrel
      cases gk with
      | zero => exact absurd HA.out (by simp [asn1tools_MarshalLengthBytes.l0])
      | succ k1 =>
        have H := HA.out
        clear HA
        simp only [asn1tools_MarshalLengthBytes.l0] at H
        by_cases c5 : (1 : Int) < 127
        · rw [if_pos c5] at H
          have c5b0 : decide ((1 : Int) < 127) = true := decide_eq_true c5
          clear c5
          by_cases c6 : (wrap64 (x4_1 * 256)) = 0
          · rw [if_pos c6] at H
            exact absurd H (by simp)
          · rw [if_neg c6] at H
            have c6b0 : ((wrap64 (x4_1 * 256)) == 0) = false := beq_eq_false_iff_ne.mpr c6
            have c6b1 : ((wrap64 (x4_1 * 256)) != 0) = true := bne_iff_ne.mpr c6
            by_cases c7 : x4_1 = 0
            · rw [if_pos c7] at H
              exact absurd H (by simp)
            · rw [if_neg c7] at H
              have c7b0 : (x4_1 == 0) = false := beq_eq_false_iff_ne.mpr c7
              have c7b1 : (x4_1 != 0) = true := bne_iff_ne.mpr c7
              obtain ⟨y104, hy104⟩ : ∃ y_ : List Int, y_ = (([(wrap64 (Int.tdiv (Int.tmod x0_1 (wrap64 (x4_1 * 256))) x4_1)) % 256] : List Int)) := ⟨_, rfl⟩
              replace H : (if y104.length + x3_1.length < 140737488355328 then ((some (y104 ++ x3_1 : List Int)).bind fun y107 => (if (wrap64 (x0_1 - (Int.tmod x0_1 (wrap64 (x4_1 * 256))))) ≤ 0 then ((some (([(wrap64 (128 + (y107.length : Int))) % 256] : List Int) : List Int)).bind fun y110 => (if y110.length + y107.length < 140737488355328 then (some (y110 ++ y107)) else (none))) else (asn1tools_MarshalLengthBytes.l0 k1 (wrap64 (x0_1 - (Int.tmod x0_1 (wrap64 (x4_1 * 256))))) y107 (wrap64 (x4_1 * 256)) 1))) else (none)) = some r := by first | (rw [hy104]; with_reducible exact H) | (have H2_ := (Option.bind_some _ _).symm.trans H; rw [hy104]; with_reducible exact H2_) | (have H2_ := (Option.bind_some _ _).symm.trans H; with_reducible exact H2_) | with_reducible exact H | (rw [hy104]; exact H) | exact H
              have Ny104 := Aside0.mk hy104
              clear hy104
              by_cases c8 : y104.length + x3_1.length < 140737488355328
              · rw [if_pos c8] at H
                have LMc8 := Aside0.mk c8
                clear c8
                obtain ⟨y107, hy107⟩ : ∃ y_ : List Int, y_ = (y104 ++ x3_1) := ⟨_, rfl⟩
                replace H : (if (wrap64 (x0_1 - (Int.tmod x0_1 (wrap64 (x4_1 * 256))))) ≤ 0 then ((some (([(wrap64 (128 + (y107.length : Int))) % 256] : List Int) : List Int)).bind fun y110 => (if y110.length + y107.length < 140737488355328 then (some (y110 ++ y107)) else (none))) else (asn1tools_MarshalLengthBytes.l0 k1 (wrap64 (x0_1 - (Int.tmod x0_1 (wrap64 (x4_1 * 256))))) y107 (wrap64 (x4_1 * 256)) 1)) = some r := by first | (rw [hy107]; with_reducible exact H) | (have H2_ := (Option.bind_some _ _).symm.trans H; rw [hy107]; with_reducible exact H2_) | (have H2_ := (Option.bind_some _ _).symm.trans H; with_reducible exact H2_) | with_reducible exact H | (rw [hy107]; exact H) | exact H
                have Ny107 := Aside0.mk hy107
                clear hy107
                by_cases c9 : (wrap64 (x0_1 - (Int.tmod x0_1 (wrap64 (x4_1 * 256))))) ≤ 0
                · rw [if_pos c9] at H
                  have c9b0 : decide ((wrap64 (x0_1 - (Int.tmod x0_1 (wrap64 (x4_1 * 256))))) ≤ 0) = true := decide_eq_true c9
                  clear c9
                  obtain ⟨y110, hy110⟩ : ∃ y_ : List Int, y_ = (([(wrap64 (128 + (y107.length : Int))) % 256] : List Int)) := ⟨_, rfl⟩
                  replace H : (if y110.length + y107.length < 140737488355328 then (some (y110 ++ y107)) else (none)) = some r := by first | (rw [hy110]; with_reducible exact H) | (have H2_ := (Option.bind_some _ _).symm.trans H; rw [hy110]; with_reducible exact H2_) | (have H2_ := (Option.bind_some _ _).symm.trans H; with_reducible exact H2_) | with_reducible exact H | (rw [hy110]; exact H) | exact H
                  have Ny110 := Aside0.mk hy110
                  clear hy110
                  by_cases c10 : y110.length + y107.length < 140737488355328
                  · rw [if_pos c10] at H
                    have LMc10 := Aside0.mk c10
                    clear c10
                    obtain ⟨y113, hy113⟩ : ∃ y_ : List Int, y_ = (y110 ++ y107) := ⟨_, rfl⟩
                    replace H : (some y113) = some r := by first | (rw [hy113]; with_reducible exact H) | (have H2_ := (Option.bind_some _ _).symm.trans H; rw [hy113]; with_reducible exact H2_) | (have H2_ := (Option.bind_some _ _).symm.trans H; with_reducible exact H2_) | with_reducible exact H | (rw [hy113]; exact H) | exact H
                    have Ny113 := Aside0.mk hy113
                    clear hy113
                    obtain rfl := Option.some.inj H
                    go_wp2_with (first | ((with_reducible refine gate_dst (N := 20) rfl ?_); refine Kd.R_lit (Kd.int .u8) _ 5 ?hg (N := 20) ?hd (xs := ([(wrap64 (Int.tdiv (Int.tmod x0_1 (wrap64 (x4_1 * 256))) x4_1)) % 256] : List Int)) (inner := [.int .u8 ((wrap64 (Int.tdiv (Int.tmod x0_1 (wrap64 (x4_1 * 256))) x4_1)) % 256)]) (ok := fun _ => True) (okp := fun _ => True) ?hr ?hp (fun _ hk => hk) trivial (Below.refl _ _) (Nat.le_refl _) (by simp) ?_; (case hd => rfl); (case hg => rfl); (case hr => first | (go_simp; done) | (go_simp; rfl)); (case hp => exact (Reps.one (show Kd.M (Kd.int .u8) _ _ _ ((wrap64 (Int.tdiv (Int.tmod x0_1 (wrap64 (x4_1 * 256))) x4_1)) % 256) [.int .u8 ((wrap64 (Int.tdiv (Int.tmod x0_1 (wrap64 (x4_1 * 256))) x4_1)) % 256)] from rfl) (Reps.none _ _))); intro v105 w11 ho12 hb hg_ hnew_; clear hg_ hnew_; (first | rw [← Ny104.out] at ho12 | (simp only [Int.reduceToNat] at ho12; rw [← Ny104.out] at ho12)); have n0_ := Aside0.mk (Kd.R_elder' (by (with_reducible repeat (first | apply Kd.R_alloc | apply Kd.R_drewN | apply Kd.R_drew)); exact HO_3.out) (Kd.R_base ho12) hb); have n1_ := Aside0.mk (Kd.R_lower (Kd.R_new' ho12 (Kd.R_lt (by (with_reducible repeat (first | apply Kd.R_alloc | apply Kd.R_drewN | apply Kd.R_drew)); exact HO_3.out))) (below_size (by repeat (first | (with_reducible first | exact HB.out | apply below_alloc | apply pw_below_drewN | apply below_drew1) | exact HB.out)))); have n2_ := Aside0.mk (below_step (by repeat (first | (with_reducible first | exact HB.out | apply below_alloc | apply pw_below_drewN | apply below_drew1) | exact HB.out)) hb); clear HO_3; clear HB; have HO_3 := n0_; have HO106 := n1_; have HB := n2_; clear n0_ n1_ n2_; clear hb ho12; obtain ⟨Ao14, co14, eo14⟩ := Kd.R_slice HO_3.out; subst eo14) | ((with_reducible refine gate_builtin (b := .append) (xs := #[.tmp 20, .tmp 21]) rfl ?_); at_builtin; refine Kd.R_append_rows (Kd.int .u8) (w0 := w) w.heap.size rfl (.tmp 20) (.tmp 21) 25 5 (.int .u8 0) 1 rfl Try.underlying25 info5 rfl (by decide) (by omega) v105 y104 x3_1 _ _ _ (fun k_ => some k_ ≠ (.slice Ao14 x3_1.length co14 : Value).ownBlock) (fun _ => False) rfl rfl ?aO ?aR (fun _ _ h => h) (fun _ h => h.elim) ?aF ?aB ?aS ?aL ?_; (case aR => repeat (first | exact (Kd.R_reads' HO_3.out).2.2 | (with_reducible refine Kd.C_alloc ?_ _) | (with_reducible refine Kd.C_drewN ?_ _) | (with_reducible refine Kd.C_drew ?_))); (case aB => exact (by repeat (first | (with_reducible first | exact HB.out | apply below_alloc | apply pw_below_drewN | apply below_drew1) | exact HB.out))); (case aF => exact (fun k_ hk => Kd.fresh' (Kd.R_lt (by (with_reducible repeat (first | apply Kd.R_alloc | apply Kd.R_drewN | apply Kd.R_drew)); exact HO_3.out)) k_ hk)); (case aO => exact (by (with_reducible repeat (first | apply Kd.R_alloc | apply Kd.R_drewN | apply Kd.R_drew)); exact Kd.R_mono HO106.out (fun _ hk => hk.2))); (case aS => exact (below_size (by repeat (first | (with_reducible first | exact HB.out | apply below_alloc | apply pw_below_drewN | apply below_drew1) | exact HB.out)))); (case aL => have := LMc8.out; omega); intro v108 w13 ho hb hg hat; rw [← Ny107.out] at ho; have n0_ := Aside0.mk (Kd.R_after (ok := (fun _ => True)) (by (with_reducible repeat (first | apply Kd.R_alloc | apply Kd.R_drewN | apply Kd.R_drew)); exact HO_3.out) hg hat); have n1_ := Aside0.mk (hb); have n2_ := Aside0.mk (ho); clear HO_3; clear HB; clear HO106; have HO_3 := n0_; have HB := n1_; have HO109 := n2_; clear n0_ n1_ n2_; clear ho hb hg hat; obtain ⟨Ao15, co15, eo15⟩ := Kd.R_slice HO109.out; subst eo15) | ((with_reducible refine gate_dst (N := 36) rfl ?_); refine Kd.R_lit (Kd.int .u8) _ 5 ?hg (N := 36) ?hd (xs := ([(wrap64 (128 + (y107.length : Int))) % 256] : List Int)) (inner := [.int .u8 ((wrap64 (128 + (y107.length : Int))) % 256)]) (ok := fun _ => True) (okp := fun _ => True) ?hr ?hp (fun _ hk => hk) trivial (Below.refl _ _) (Nat.le_refl _) (by simp) ?_; (case hd => rfl); (case hg => rfl); (case hr => first | (go_simp; done) | (go_simp; rfl)); (case hp => exact (Reps.one (show Kd.M (Kd.int .u8) _ _ _ ((wrap64 (128 + (y107.length : Int))) % 256) [.int .u8 ((wrap64 (128 + (y107.length : Int))) % 256)] from rfl) (Reps.none _ _))); intro v111 w16 ho17 hb hg_ hnew_; clear hg_ hnew_; (first | rw [← Ny110.out] at ho17 | (simp only [Int.reduceToNat] at ho17; rw [← Ny110.out] at ho17)); have n0_ := Aside0.mk (Kd.R_elder' (by (with_reducible repeat (first | apply Kd.R_alloc | apply Kd.R_drewN | apply Kd.R_drew)); exact HO_3.out) (Kd.R_base ho17) hb); have n1_ := Aside0.mk (Kd.R_elder' (by (with_reducible repeat (first | apply Kd.R_alloc | apply Kd.R_drewN | apply Kd.R_drew)); exact HO109.out) (Kd.R_base ho17) hb); have n2_ := Aside0.mk (Kd.R_lower (Kd.R_new' (Kd.R_new' ho17 (Kd.R_lt (by (with_reducible repeat (first | apply Kd.R_alloc | apply Kd.R_drewN | apply Kd.R_drew)); exact HO_3.out))) (Kd.R_lt (by (with_reducible repeat (first | apply Kd.R_alloc | apply Kd.R_drewN | apply Kd.R_drew)); exact HO109.out))) (below_size (by repeat (first | (with_reducible first | exact HB.out | apply below_alloc | apply pw_below_drewN | apply below_drew1) | exact HB.out)))); have n3_ := Aside0.mk (below_step (by repeat (first | (with_reducible first | exact HB.out | apply below_alloc | apply pw_below_drewN | apply below_drew1) | exact HB.out)) hb); clear HO_3; clear HO109; clear HB; have HO_3 := n0_; have HO109 := n1_; have HO112 := n2_; have HB := n3_; clear n0_ n1_ n2_ n3_; clear hb ho17) | ((with_reducible refine gate_builtin (b := .append) (xs := #[.tmp 36, .tmp 37]) rfl ?_); at_builtin; refine Kd.R_append_rows (Kd.int .u8) (w0 := w) w.heap.size rfl (.tmp 36) (.tmp 37) 25 5 (.int .u8 0) 1 rfl Try.underlying25 info5 rfl (by decide) (by omega) v111 y110 y107 _ _ _ (fun k_ => some k_ ≠ (.slice Ao14 x3_1.length co14 : Value).ownBlock ∧ some k_ ≠ (.slice Ao15 y107.length co15 : Value).ownBlock) (fun _ => False) rfl rfl ?aO ?aR (fun _ _ h => h) (fun _ h => h.elim) ?aF ?aB ?aS ?aL ?_; (case aR => repeat (first | exact (Kd.R_reads' HO109.out).2.2 | (with_reducible refine Kd.C_alloc ?_ _) | (with_reducible refine Kd.C_drewN ?_ _) | (with_reducible refine Kd.C_drew ?_))); (case aB => exact (by repeat (first | (with_reducible first | exact HB.out | apply below_alloc | apply pw_below_drewN | apply below_drew1) | exact HB.out))); (case aF => exact (fun k_ hk => ⟨Kd.fresh' (Kd.R_lt (by (with_reducible repeat (first | apply Kd.R_alloc | apply Kd.R_drewN | apply Kd.R_drew)); exact HO_3.out)) k_ hk, Kd.fresh' (Kd.R_lt (by (with_reducible repeat (first | apply Kd.R_alloc | apply Kd.R_drewN | apply Kd.R_drew)); exact HO109.out)) k_ hk⟩)); (case aO => exact (by (with_reducible repeat (first | apply Kd.R_alloc | apply Kd.R_drewN | apply Kd.R_drew)); exact Kd.R_mono HO112.out (fun _ hk => ⟨hk.1.2, hk.2⟩))); (case aS => exact (below_size (by repeat (first | (with_reducible first | exact HB.out | apply below_alloc | apply pw_below_drewN | apply below_drew1) | exact HB.out)))); (case aL => have := LMc10.out; omega); intro v114 w18 ho hb hg hat; rw [← Ny113.out] at ho; have n0_ := Aside0.mk (Kd.R_after (ok := (fun k_ => some k_ ≠ (.slice Ao15 y107.length co15 : Value).ownBlock)) (by (with_reducible repeat (first | apply Kd.R_alloc | apply Kd.R_drewN | apply Kd.R_drew)); exact Kd.R_mono HO_3.out (fun _ hk => ⟨hk.1.2, hk.2⟩)) hg hat); have n1_ := Aside0.mk (Kd.R_after (ok := (fun k_ => some k_ ≠ (.slice Ao14 x3_1.length co14 : Value).ownBlock)) (by (with_reducible repeat (first | apply Kd.R_alloc | apply Kd.R_drewN | apply Kd.R_drew)); exact HO109.out) hg hat); have n2_ := Aside0.mk (hb); have n3_ := Aside0.mk (ho); clear HO_3; clear HO109; clear HB; clear HO112; have HO_3 := n0_; have HO109 := n1_; have HB := n2_; have HO115 := n3_; clear n0_ n1_ n2_ n3_; clear ho hb hg hat))
                    go_ret
                    exact ⟨_, by first | rfl | (simp [errW_none, errW_some] <;> rfl) | (simp [*, errW_none, errW_some] <;> rfl), by (with_reducible repeat (first | apply Kd.R_alloc | apply Kd.R_drewN | apply Kd.R_drew)); exact Kd.R_mono HO115.out (fun _ hk => trivial), by repeat (first | (with_reducible first | exact HB.out | apply below_alloc | apply pw_below_drewN | apply below_drew1) | exact HB.out)⟩
                  · rw [if_neg c10] at H
                    exact absurd H (by simp)
                · rw [if_neg c9] at H
                  have c9b0 : decide ((wrap64 (x0_1 - (Int.tmod x0_1 (wrap64 (x4_1 * 256))))) ≤ 0) = false := decide_eq_false c9
                  clear c9
                  have H' := Aside0.mk H
                  clear H
                  go_wp2_with (first | ((with_reducible refine gate_dst (N := 20) rfl ?_); refine Kd.R_lit (Kd.int .u8) _ 5 ?hg (N := 20) ?hd (xs := ([(wrap64 (Int.tdiv (Int.tmod x0_1 (wrap64 (x4_1 * 256))) x4_1)) % 256] : List Int)) (inner := [.int .u8 ((wrap64 (Int.tdiv (Int.tmod x0_1 (wrap64 (x4_1 * 256))) x4_1)) % 256)]) (ok := fun _ => True) (okp := fun _ => True) ?hr ?hp (fun _ hk => hk) trivial (Below.refl _ _) (Nat.le_refl _) (by simp) ?_; (case hd => rfl); (case hg => rfl); (case hr => first | (go_simp; done) | (go_simp; rfl)); (case hp => exact (Reps.one (show Kd.M (Kd.int .u8) _ _ _ ((wrap64 (Int.tdiv (Int.tmod x0_1 (wrap64 (x4_1 * 256))) x4_1)) % 256) [.int .u8 ((wrap64 (Int.tdiv (Int.tmod x0_1 (wrap64 (x4_1 * 256))) x4_1)) % 256)] from rfl) (Reps.none _ _))); intro v105 w19 ho20 hb hg_ hnew_; clear hg_ hnew_; (first | rw [← Ny104.out] at ho20 | (simp only [Int.reduceToNat] at ho20; rw [← Ny104.out] at ho20)); have n0_ := Aside0.mk (Kd.R_elder' (by (with_reducible repeat (first | apply Kd.R_alloc | apply Kd.R_drewN | apply Kd.R_drew)); exact HO_3.out) (Kd.R_base ho20) hb); have n1_ := Aside0.mk (Kd.R_lower (Kd.R_new' ho20 (Kd.R_lt (by (with_reducible repeat (first | apply Kd.R_alloc | apply Kd.R_drewN | apply Kd.R_drew)); exact HO_3.out))) (below_size (by repeat (first | (with_reducible first | exact HB.out | apply below_alloc | apply pw_below_drewN | apply below_drew1) | exact HB.out)))); have n2_ := Aside0.mk (below_step (by repeat (first | (with_reducible first | exact HB.out | apply below_alloc | apply pw_below_drewN | apply below_drew1) | exact HB.out)) hb); clear HO_3; clear HB; have HO_3 := n0_; have HO106 := n1_; have HB := n2_; clear n0_ n1_ n2_; clear hb ho20; obtain ⟨Ao22, co22, eo22⟩ := Kd.R_slice HO_3.out; subst eo22) | ((with_reducible refine gate_builtin (b := .append) (xs := #[.tmp 20, .tmp 21]) rfl ?_); at_builtin; refine Kd.R_append_rows (Kd.int .u8) (w0 := w) w.heap.size rfl (.tmp 20) (.tmp 21) 25 5 (.int .u8 0) 1 rfl Try.underlying25 info5 rfl (by decide) (by omega) v105 y104 x3_1 _ _ _ (fun k_ => some k_ ≠ (.slice Ao22 x3_1.length co22 : Value).ownBlock) (fun _ => False) rfl rfl ?aO ?aR (fun _ _ h => h) (fun _ h => h.elim) ?aF ?aB ?aS ?aL ?_; (case aR => repeat (first | exact (Kd.R_reads' HO_3.out).2.2 | (with_reducible refine Kd.C_alloc ?_ _) | (with_reducible refine Kd.C_drewN ?_ _) | (with_reducible refine Kd.C_drew ?_))); (case aB => exact (by repeat (first | (with_reducible first | exact HB.out | apply below_alloc | apply pw_below_drewN | apply below_drew1) | exact HB.out))); (case aF => exact (fun k_ hk => Kd.fresh' (Kd.R_lt (by (with_reducible repeat (first | apply Kd.R_alloc | apply Kd.R_drewN | apply Kd.R_drew)); exact HO_3.out)) k_ hk)); (case aO => exact (by (with_reducible repeat (first | apply Kd.R_alloc | apply Kd.R_drewN | apply Kd.R_drew)); exact Kd.R_mono HO106.out (fun _ hk => hk.2))); (case aS => exact (below_size (by repeat (first | (with_reducible first | exact HB.out | apply below_alloc | apply pw_below_drewN | apply below_drew1) | exact HB.out)))); (case aL => have := LMc8.out; omega); intro v108 w21 ho hb hg hat; rw [← Ny107.out] at ho; have n0_ := Aside0.mk (Kd.R_after (ok := (fun _ => True)) (by (with_reducible repeat (first | apply Kd.R_alloc | apply Kd.R_drewN | apply Kd.R_drew)); exact HO_3.out) hg hat); have n1_ := Aside0.mk (hb); have n2_ := Aside0.mk (ho); clear HO_3; clear HB; clear HO106; have HO_3 := n0_; have HB := n1_; have HO109 := n2_; clear n0_ n1_ n2_; clear ho hb hg hat))
                  go_roundg k1
                  case measure => have := HK1.out; omega
                  case rel => exact ⟨(wrap64 (x0_1 - (Int.tmod x0_1 (wrap64 (x4_1 * 256))))), (y107), (wrap64 (x4_1 * 256)), (by first | rfl | (simp; done) | (simp [*]; done)), (by first | rfl | (simp; done) | (simp [*]; done)), H', ⟨by have := HK1.out; omega⟩, ⟨by (with_reducible repeat (first | apply Kd.R_alloc | apply Kd.R_drewN | apply Kd.R_drew)); exact Kd.R_mono HO109.out (fun _ hk => trivial)⟩, ⟨by repeat (first | (with_reducible first | exact HB.out | apply below_alloc | apply pw_below_drewN | apply below_drew1) | exact HB.out)⟩⟩
              · rw [if_neg c8] at H
                exact absurd H (by simp)
        · exact absurd (by decide) c5

/-! ### impl_LengthBytes: function 13 -/
def impl_LengthBytes.f (k : Nat) (a0 : Int) : Option (ByteArray) := (asn1tools_MarshalLengthBytes.f k a0).bind fun t122 => (some (strOfNums t122))
set_option maxRecDepth 100000 in
theorem impl_LengthBytes.mono : ∀ a0 k, LeO (impl_LengthBytes.f k a0) (impl_LengthBytes.f (k + 1) a0) := by
  intro a0 k
  unfold impl_LengthBytes.f
  repeat' first
      | (with_reducible exact asn1tools_MarshalLengthBytes.mono _ _)
      | (with_reducible exact LeO.refl _)
      | (with_reducible exact LeO.none _)
      | (with_reducible refine LeO.ite ?_ ?_)
      | (with_reducible refine LeO.bind ?_ (fun _ => ?_))
      | exact asn1tools_MarshalLengthBytes.mono _ _
      | exact LeO.none _
      | refine LeO.ite ?_ ?_
      | refine LeO.bind ?_ (fun _ => ?_)
set_option maxHeartbeats 8000000 in
set_option maxRecDepth 100000 in
theorem impl_LengthBytes.calls (k : Nat) (a0 : Int) (r : ByteArray) (w : World) (h : impl_LengthBytes.f k a0 = some r) :
    Calls Try.prog 13 #[.int .i64 a0] w fun e w' => e = .returned (.string r) ∧ Below w.heap.size w w' := by
  have HB := Aside0.mk (Below.refl w.heap.size w)
  have H : ((asn1tools_MarshalLengthBytes.f k a0).bind fun t122 => (some (strOfNums t122))) = some r := h
  clear h
  replace H := Option.bind_eq_some_iff.mp H
  obtain ⟨t122, A20, H⟩ := H
  replace H : (some (strOfNums t122)) = some r := H
  have A2 := Aside0.mk A20
  clear A20
  obtain rfl := Option.some.inj H
  go_enter Try.func13, Try.ntmps13
  go_wp2_with (first | ((with_reducible refine gate_callee (f := 43) rfl ?_); refine goesL_ (some 4) rfl rfl Try.func43 (by kernel_rfl) rfl #[.int .i64 a0] rfl (by (try simp only [List.map_toArray, List.map_cons, List.map_nil]); first | done | rfl | (simp only [List.length_drop, List.length_take]; rfl)) ?_; (with_reducible refine (asn1tools_MarshalLengthBytes.calls k a0 t122 _ A2.out).mono ?_); rintro e w3 ⟨v123, rfl, ho0, hb⟩; refine ⟨_, rfl, ?_⟩; have n0_ := Aside0.mk (Kd.R_lower ho0 (below_size (by repeat (first | (with_reducible first | exact HB.out | apply below_alloc | apply pw_below_drewN | apply below_drew1) | exact HB.out)))); have n1_ := Aside0.mk (below_step (by repeat (first | (with_reducible first | exact HB.out | apply below_alloc | apply pw_below_drewN | apply below_drew1) | exact HB.out)) hb); clear HB; have HO124 := n0_; have HB := n1_; clear n0_ n1_; (try clear hb); (try clear hb2); (try clear hk); (try clear hi); (try clear ho0); have hcv4 := own_string (P := Try.prog) Try.underlying25 Try.underlying5 Try.underlying9 (Kd.own_of_R HO124.out)))
  go_ret
  exact ⟨by first | rfl | (simp [errW_none, errW_some] <;> rfl) | (simp [*, errW_none, errW_some] <;> rfl), by repeat (first | (with_reducible first | exact HB.out | apply below_alloc | apply pw_below_drewN | apply below_drew1) | exact HB.out)⟩

/-! ### laws_lengthAwake: function 9 -/
def laws_lengthAwake.f (k : Nat)  : Option (Bool) := (impl_LengthOf.f (⟨#[48, 130, 1, 44]⟩ : ByteArray)).bind fun bt125 => ((impl_LengthBytes.f k 300).bind fun t127 => (if t127.toList = ([130, 1, 44] : List UInt8) then (if bt125.1 = 300 then (some (!bt125.2)) else (some false)) else (some false)))
set_option maxRecDepth 100000 in
theorem laws_lengthAwake.mono : ∀ k, LeO (laws_lengthAwake.f k ) (laws_lengthAwake.f (k + 1) ) := by
  intro  k
  unfold laws_lengthAwake.f
  repeat' first
      | (with_reducible exact impl_LengthBytes.mono _ _)
      | (with_reducible exact LeO.refl _)
      | (with_reducible exact LeO.none _)
      | (with_reducible refine LeO.ite ?_ ?_)
      | (with_reducible refine LeO.bind ?_ (fun _ => ?_))
      | exact impl_LengthBytes.mono _ _
      | exact LeO.none _
      | refine LeO.ite ?_ ?_
      | refine LeO.bind ?_ (fun _ => ?_)
set_option maxHeartbeats 8000000 in
set_option maxRecDepth 100000 in
theorem laws_lengthAwake.calls (k : Nat)  (r : Bool) (w : World) (h : laws_lengthAwake.f k  = some r) :
    Calls Try.prog 9 #[] w fun e w' => e = .returned (.bool r) ∧ Below w.heap.size w w' := by
  have HB := Aside0.mk (Below.refl w.heap.size w)
  have H : ((impl_LengthOf.f (⟨#[48, 130, 1, 44]⟩ : ByteArray)).bind fun bt125 => ((impl_LengthBytes.f k 300).bind fun t127 => (if t127.toList = ([130, 1, 44] : List UInt8) then (if bt125.1 = 300 then (some (!bt125.2)) else (some false)) else (some false)))) = some r := h
  clear h
  replace H := Option.bind_eq_some_iff.mp H
  obtain ⟨⟨t125, t126⟩, A10, H⟩ := H
  replace H : ((impl_LengthBytes.f k 300).bind fun t127 => (if t127.toList = ([130, 1, 44] : List UInt8) then (if t125 = 300 then (some (!t126)) else (some false)) else (some false))) = some r := H
  have A1 := Aside0.mk A10
  clear A10
  replace H := Option.bind_eq_some_iff.mp H
  obtain ⟨t127, A20, H⟩ := H
  replace H : (if t127.toList = ([130, 1, 44] : List UInt8) then (if t125 = 300 then (some (!t126)) else (some false)) else (some false)) = some r := H
  have A2 := Aside0.mk A20
  clear A20
  by_cases c3 : t127.toList = ([130, 1, 44] : List UInt8)
  · rw [if_pos c3] at H
    have c3b0 : (t127.toList == ([130, 1, 44] : List UInt8)) = true := beq_iff_eq.mpr c3
    have c3b1 : (t127.toList != ([130, 1, 44] : List UInt8)) = false := bne_eq_false_iff_eq.mpr c3
    clear c3
    by_cases c4 : t125 = 300
    · rw [if_pos c4] at H
      have c4b0 : (t125 == 300) = true := beq_iff_eq.mpr c4
      have c4b1 : (t125 != 300) = false := bne_eq_false_iff_eq.mpr c4
      clear c4
      obtain rfl := Option.some.inj H
      go_enter Try.func9, Try.ntmps9
      go_wp2_with (first | ((with_reducible refine gate_callee (f := 11) rfl ?_); refine goesL_ (some 4) rfl rfl Try.func11 (by kernel_rfl) rfl #[.string (⟨#[48, 130, 1, 44]⟩ : ByteArray)] rfl (by (try simp only [List.map_toArray, List.map_cons, List.map_nil]); first | done | rfl | (simp only [List.length_drop, List.length_take]; rfl)) ?_; (with_reducible refine (impl_LengthOf.calls (⟨#[48, 130, 1, 44]⟩ : ByteArray) t125 t126 _ A1.out).mono ?_); rintro e w5 ⟨rfl, hb⟩; refine ⟨_, rfl, ?_⟩; have n0_ := Aside0.mk (below_step (by repeat (first | (with_reducible first | exact HB.out | apply below_alloc | apply pw_below_drewN | apply below_drew1) | exact HB.out)) hb); clear HB; have HB := n0_; clear n0_; (try clear hb); (try clear hb2); (try clear hk); (try clear hi)) | ((with_reducible refine gate_callee (f := 13) rfl ?_); refine goesL_ (some 7) rfl rfl Try.func13 (by kernel_rfl) rfl #[.int .i64 300] rfl (by (try simp only [List.map_toArray, List.map_cons, List.map_nil]); first | done | rfl | (simp only [List.length_drop, List.length_take]; rfl)) ?_; (with_reducible refine (impl_LengthBytes.calls k 300 t127 _ A2.out).mono ?_); rintro e w6 ⟨rfl, hb⟩; refine ⟨_, rfl, ?_⟩; have n0_ := Aside0.mk (below_step (by repeat (first | (with_reducible first | exact HB.out | apply below_alloc | apply pw_below_drewN | apply below_drew1) | exact HB.out)) hb); clear HB; have HB := n0_; clear n0_; (try clear hb); (try clear hb2); (try clear hk); (try clear hi)))
      go_ret
      exact ⟨by first | rfl | (simp [errW_none, errW_some] <;> rfl) | (simp [*, errW_none, errW_some] <;> rfl), by repeat (first | (with_reducible first | exact HB.out | apply below_alloc | apply pw_below_drewN | apply below_drew1) | exact HB.out)⟩
    · rw [if_neg c4] at H
      have c4b0 : (t125 == 300) = false := beq_eq_false_iff_ne.mpr c4
      have c4b1 : (t125 != 300) = true := bne_iff_ne.mpr c4
      obtain rfl := Option.some.inj H
      go_enter Try.func9, Try.ntmps9
      go_wp2_with (first | ((with_reducible refine gate_callee (f := 11) rfl ?_); refine goesL_ (some 4) rfl rfl Try.func11 (by kernel_rfl) rfl #[.string (⟨#[48, 130, 1, 44]⟩ : ByteArray)] rfl (by (try simp only [List.map_toArray, List.map_cons, List.map_nil]); first | done | rfl | (simp only [List.length_drop, List.length_take]; rfl)) ?_; (with_reducible refine (impl_LengthOf.calls (⟨#[48, 130, 1, 44]⟩ : ByteArray) t125 t126 _ A1.out).mono ?_); rintro e w7 ⟨rfl, hb⟩; refine ⟨_, rfl, ?_⟩; have n0_ := Aside0.mk (below_step (by repeat (first | (with_reducible first | exact HB.out | apply below_alloc | apply pw_below_drewN | apply below_drew1) | exact HB.out)) hb); clear HB; have HB := n0_; clear n0_; (try clear hb); (try clear hb2); (try clear hk); (try clear hi)) | ((with_reducible refine gate_callee (f := 13) rfl ?_); refine goesL_ (some 7) rfl rfl Try.func13 (by kernel_rfl) rfl #[.int .i64 300] rfl (by (try simp only [List.map_toArray, List.map_cons, List.map_nil]); first | done | rfl | (simp only [List.length_drop, List.length_take]; rfl)) ?_; (with_reducible refine (impl_LengthBytes.calls k 300 t127 _ A2.out).mono ?_); rintro e w8 ⟨rfl, hb⟩; refine ⟨_, rfl, ?_⟩; have n0_ := Aside0.mk (below_step (by repeat (first | (with_reducible first | exact HB.out | apply below_alloc | apply pw_below_drewN | apply below_drew1) | exact HB.out)) hb); clear HB; have HB := n0_; clear n0_; (try clear hb); (try clear hb2); (try clear hk); (try clear hi)))
      go_ret
      exact ⟨by first | rfl | (simp [errW_none, errW_some] <;> rfl) | (simp [*, errW_none, errW_some] <;> rfl), by repeat (first | (with_reducible first | exact HB.out | apply below_alloc | apply pw_below_drewN | apply below_drew1) | exact HB.out)⟩
  · rw [if_neg c3] at H
    have c3b0 : (t127.toList == ([130, 1, 44] : List UInt8)) = false := beq_eq_false_iff_ne.mpr c3
    have c3b1 : (t127.toList != ([130, 1, 44] : List UInt8)) = true := bne_iff_ne.mpr c3
    obtain rfl := Option.some.inj H
    go_enter Try.func9, Try.ntmps9
    go_wp2_with (first | ((with_reducible refine gate_callee (f := 11) rfl ?_); refine goesL_ (some 4) rfl rfl Try.func11 (by kernel_rfl) rfl #[.string (⟨#[48, 130, 1, 44]⟩ : ByteArray)] rfl (by (try simp only [List.map_toArray, List.map_cons, List.map_nil]); first | done | rfl | (simp only [List.length_drop, List.length_take]; rfl)) ?_; (with_reducible refine (impl_LengthOf.calls (⟨#[48, 130, 1, 44]⟩ : ByteArray) t125 t126 _ A1.out).mono ?_); rintro e w9 ⟨rfl, hb⟩; refine ⟨_, rfl, ?_⟩; have n0_ := Aside0.mk (below_step (by repeat (first | (with_reducible first | exact HB.out | apply below_alloc | apply pw_below_drewN | apply below_drew1) | exact HB.out)) hb); clear HB; have HB := n0_; clear n0_; (try clear hb); (try clear hb2); (try clear hk); (try clear hi)) | ((with_reducible refine gate_callee (f := 13) rfl ?_); refine goesL_ (some 7) rfl rfl Try.func13 (by kernel_rfl) rfl #[.int .i64 300] rfl (by (try simp only [List.map_toArray, List.map_cons, List.map_nil]); first | done | rfl | (simp only [List.length_drop, List.length_take]; rfl)) ?_; (with_reducible refine (impl_LengthBytes.calls k 300 t127 _ A2.out).mono ?_); rintro e w10 ⟨rfl, hb⟩; refine ⟨_, rfl, ?_⟩; have n0_ := Aside0.mk (below_step (by repeat (first | (with_reducible first | exact HB.out | apply below_alloc | apply pw_below_drewN | apply below_drew1) | exact HB.out)) hb); clear HB; have HB := n0_; clear n0_; (try clear hb); (try clear hb2); (try clear hk); (try clear hi)))
    go_ret
    exact ⟨by first | rfl | (simp [errW_none, errW_some] <;> rfl) | (simp [*, errW_none, errW_some] <;> rfl), by repeat (first | (with_reducible first | exact HB.out | apply below_alloc | apply pw_below_drewN | apply below_drew1) | exact HB.out)⟩

end Go.Proofs.Ythgcpicflmigjaa.Q

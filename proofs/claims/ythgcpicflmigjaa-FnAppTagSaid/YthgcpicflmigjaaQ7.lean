/- Go functions of this seat come to the answers of the Lean functions that stand here ('.calls'), under what each theorem states and nothing else. Written by pw.py, a program of this session, with texts of its own. -/
import Derived.Test.YthgcpicflmigjaaQ0
namespace Go.Proofs.Ythgcpicflmigjaa.Q
open Go.RowKit Go.Proofs.YthgcpicflmigjaaW.PrintWords Go.Proofs.YthgcpicflmigjaaW.PrintLast Go.Proofs.YthgcpicflmigjaaW.PrintMore
attribute [local go_sem] max2_int min2_int max_two min_two max_three min_three max_four min_four   -- for this text's walks alone
set_option linter.unusedVariables false
set_option linter.unusedSimpArgs false
set_option maxRecDepth 100000

/-! ### spec_DERLength: function 10 -/
def spec_DERLength.l0 : Nat → Int → List Int → Option (ByteArray)
  | 0, _, _ => none
  | k + 1, x0, x3 => if x0 > 0 then ((some (([(x0) % 256] : List Int) : List Int)).bind fun y175 => (if y175.length + x3.length < 140737488355328 then (spec_DERLength.l0 k (x0 / 256) (y175 ++ x3)) else (none))) else ((some (([(Go.bits .or .i64 128 (x3.length : Int)) % 256] : List Int) : List Int)).bind fun y181 => (if (strOfNums y181).size + (strOfNums x3).size ≤ 9223372036854775807 then (some ((strOfNums y181) ++ (strOfNums x3))) else (none)))
def spec_DERLength.f (k : Nat) (a0 : Int) : Option (ByteArray) := if a0 < 128 then (some (strOfNums (([(a0) % 256] : List Int)))) else (spec_DERLength.l0 k a0 ([] : List Int))
set_option maxRecDepth 100000 in
theorem spec_DERLength.mono_l : ∀ k, (∀ y0 y1, LeO (spec_DERLength.l0 k y0 y1) (spec_DERLength.l0 (k + 1) y0 y1))
  | 0 => fun _ _ r h => by simp [spec_DERLength.l0] at h
  | k + 1 => by
    have ih0 := spec_DERLength.mono_l k
    · intro y0 y1
      unfold spec_DERLength.l0
      repeat' first
      | (with_reducible exact ih0 _ _)
      | (with_reducible exact LeO.refl _)
      | (with_reducible exact LeO.none _)
      | (with_reducible refine LeO.ite ?_ ?_)
      | (with_reducible refine LeO.bind ?_ (fun _ => ?_))
      | exact ih0 _ _
      | exact LeO.none _
      | refine LeO.ite ?_ ?_
      | refine LeO.bind ?_ (fun _ => ?_)
set_option maxRecDepth 100000 in
theorem spec_DERLength.mono : ∀ a0 k, LeO (spec_DERLength.f k a0) (spec_DERLength.f (k + 1) a0) := by
  intro a0 k
  have ih0 := spec_DERLength.mono_l k
  unfold spec_DERLength.f
  repeat' first
      | (with_reducible exact ih0 _ _)
      | (with_reducible exact LeO.refl _)
      | (with_reducible exact LeO.none _)
      | (with_reducible refine LeO.ite ?_ ?_)
      | (with_reducible refine LeO.bind ?_ (fun _ => ?_))
      | exact ih0 _ _
      | exact LeO.none _
      | refine LeO.ite ?_ ?_
      | refine LeO.bind ?_ (fun _ => ?_)
set_option maxHeartbeats 8000000 in
set_option maxRecDepth 100000 in
theorem spec_DERLength.calls (k : Nat) (a0 : Int) (r : ByteArray) (w : World) (h : spec_DERLength.f k a0 = some r) :
    Calls Try.prog 10 #[.int .i64 a0] w fun e w' => e = .returned (.string r) ∧ Below w.heap.size w w' := by
  have HB := Aside0.mk (Below.refl w.heap.size w)
  have H : (if a0 < 128 then (some (strOfNums (([(a0) % 256] : List Int)))) else (spec_DERLength.l0 k a0 ([] : List Int))) = some r := h
  clear h
  by_cases c2 : a0 < 128
  · rw [if_pos c2] at H
    have c2b0 : decide (a0 < 128) = true := decide_eq_true c2
    clear c2
    obtain ⟨y172, hy172⟩ : ∃ y_ : List Int, y_ = (([(a0) % 256] : List Int)) := ⟨_, rfl⟩
    replace H : (some (strOfNums y172)) = some r := by first | (rw [hy172]; with_reducible exact H) | (have H2_ := (Option.bind_some _ _).symm.trans H; rw [hy172]; with_reducible exact H2_) | (have H2_ := (Option.bind_some _ _).symm.trans H; with_reducible exact H2_) | with_reducible exact H | (rw [hy172]; exact H) | exact H
    have Ny172 := Aside0.mk hy172
    clear hy172
    obtain rfl := Option.some.inj H
    go_enter Try.func10, Try.ntmps10
    go_wp2_with (first | ((with_reducible refine gate_dst (N := 8) rfl ?_); refine Kd.R_lit (Kd.int .u8) _ 5 ?hg (N := 8) ?hd (xs := ([(a0) % 256] : List Int)) (inner := [.int .u8 ((a0) % 256)]) (ok := fun _ => True) (okp := fun _ => True) ?hr ?hp (fun _ hk => hk) trivial (Below.refl _ _) (Nat.le_refl _) (by simp) ?_; (case hd => rfl); (case hg => rfl); (case hr => first | (go_simp; done) | (go_simp; rfl)); (case hp => exact (Reps.one (show Kd.M (Kd.int .u8) _ _ _ ((a0) % 256) [.int .u8 ((a0) % 256)] from rfl) (Reps.none _ _))); intro v173 w3 ho4 hb hg_ hnew_; clear hg_ hnew_; (first | rw [← Ny172.out] at ho4 | (simp only [Int.reduceToNat] at ho4; rw [← Ny172.out] at ho4)); have n0_ := Aside0.mk (Kd.R_lower ho4 (below_size (by repeat (first | (with_reducible first | exact HB.out | apply below_alloc | apply pw_below_drewN | apply below_drew1) | exact HB.out)))); have n1_ := Aside0.mk (below_step (by repeat (first | (with_reducible first | exact HB.out | apply below_alloc | apply pw_below_drewN | apply below_drew1) | exact HB.out)) hb); clear HB; have HO174 := n0_; have HB := n1_; clear n0_ n1_; clear hb ho4; have hcv5 := own_string (P := Try.prog) Try.underlying25 Try.underlying5 Try.underlying9 (Kd.own_of_R HO174.out)))
    go_ret
    exact ⟨by first | rfl | (simp [errW_none, errW_some] <;> rfl) | (simp [*, errW_none, errW_some] <;> rfl), by repeat (first | (with_reducible first | exact HB.out | apply below_alloc | apply pw_below_drewN | apply below_drew1) | exact HB.out)⟩
  · rw [if_neg c2] at H
    have c2b0 : decide (a0 < 128) = false := decide_eq_false c2
    clear c2
    have H' := Aside0.mk H
    clear H
    go_enter Try.func10, Try.ntmps10
    go_wp2
    go_loopg [0, 3] k (fun kq v0 v3 w' => ∃ (x0_1 : Int) (x3_1 : List Int), v0 = .int .i64 x0_1 ∧ Aside0 (spec_DERLength.l0 kq x0_1 x3_1 = some r) ∧ Aside0 (kq ≤ k) ∧ Aside0 (Kd.R (Kd.int .u8) 5 w' w.heap.size (fun _ => True) v3 x3_1) ∧ Aside0 (Below w.heap.size w w'))
    case atStart => exact ⟨(a0), (([] : List Int)), (by first | rfl | (simp; done) | (simp [*]; done)), H', ⟨Nat.le_refl _⟩, ⟨by first | exact Kd.R_nil _ _ _ _ _ | exact Kd.N_nil _ _ _ _ _ | exact Kd.V_nil _ _ _ _ _ | exact Kd.Q_nil _ _ _ _ _ | exact Kd.S_nil _ _ _ _ _⟩, ⟨by repeat (first | (with_reducible first | exact HB.out | apply below_alloc | apply pw_below_drewN | apply below_drew1) | exact HB.out)⟩⟩
    case round =>
      clear H'
      try clear c1
      try clear c2
      try clear c2b0
      try clear p2
      try clear hcv5
      obtain ⟨x0_1, x3_1, rfl, HA, HK1, HO_3, HB⟩ := hrel
      cases gk with
      | zero => exact absurd HA.out (by simp [spec_DERLength.l0])
      | succ k1 =>
        have H := HA.out
        clear HA
        simp only [spec_DERLength.l0] at H
        by_cases c6 : x0_1 > 0
        · rw [if_pos c6] at H
          have c6b0 : decide (0 < x0_1) = true := decide_eq_true c6
          clear c6
          obtain ⟨y175, hy175⟩ : ∃ y_ : List Int, y_ = (([(x0_1) % 256] : List Int)) := ⟨_, rfl⟩
          replace H : (if y175.length + x3_1.length < 140737488355328 then (spec_DERLength.l0 k1 (x0_1 / 256) (y175 ++ x3_1)) else (none)) = some r := by first | (rw [hy175]; with_reducible exact H) | (have H2_ := (Option.bind_some _ _).symm.trans H; rw [hy175]; with_reducible exact H2_) | (have H2_ := (Option.bind_some _ _).symm.trans H; with_reducible exact H2_) | with_reducible exact H | (rw [hy175]; exact H) | exact H
          have Ny175 := Aside0.mk hy175
          clear hy175
          by_cases c7 : y175.length + x3_1.length < 140737488355328
          · rw [if_pos c7] at H
            have LMc7 := Aside0.mk c7
            clear c7
            obtain ⟨y178, hy178⟩ : ∃ y_ : List Int, y_ = (y175 ++ x3_1) := ⟨_, rfl⟩
            replace H : (spec_DERLength.l0 k1 (x0_1 / 256) y178) = some r := by first | (rw [hy178]; with_reducible exact H) | (have H2_ := (Option.bind_some _ _).symm.trans H; rw [hy178]; with_reducible exact H2_) | (have H2_ := (Option.bind_some _ _).symm.trans H; with_reducible exact H2_) | with_reducible exact H | (rw [hy178]; exact H) | exact H
            have Ny178 := Aside0.mk hy178
            clear hy178
            have H' := Aside0.mk H
            clear H
            go_wp2_with (first | ((with_reducible refine gate_dst (N := 14) rfl ?_); refine Kd.R_lit (Kd.int .u8) _ 5 ?hg (N := 14) ?hd (xs := ([(x0_1) % 256] : List Int)) (inner := [.int .u8 ((x0_1) % 256)]) (ok := fun _ => True) (okp := fun _ => True) ?hr ?hp (fun _ hk => hk) trivial (Below.refl _ _) (Nat.le_refl _) (by simp) ?_; (case hd => rfl); (case hg => rfl); (case hr => first | (go_simp; done) | (go_simp; rfl)); (case hp => exact (Reps.one (show Kd.M (Kd.int .u8) _ _ _ ((x0_1) % 256) [.int .u8 ((x0_1) % 256)] from rfl) (Reps.none _ _))); intro v176 w8 ho9 hb hg_ hnew_; clear hg_ hnew_; (first | rw [← Ny175.out] at ho9 | (simp only [Int.reduceToNat] at ho9; rw [← Ny175.out] at ho9)); have n0_ := Aside0.mk (Kd.R_elder' (by (with_reducible repeat (first | apply Kd.R_alloc | apply Kd.R_drewN | apply Kd.R_drew)); exact HO_3.out) (Kd.R_base ho9) hb); have n1_ := Aside0.mk (Kd.R_lower (Kd.R_new' ho9 (Kd.R_lt (by (with_reducible repeat (first | apply Kd.R_alloc | apply Kd.R_drewN | apply Kd.R_drew)); exact HO_3.out))) (below_size (by repeat (first | (with_reducible first | exact HB.out | apply below_alloc | apply pw_below_drewN | apply below_drew1) | exact HB.out)))); have n2_ := Aside0.mk (below_step (by repeat (first | (with_reducible first | exact HB.out | apply below_alloc | apply pw_below_drewN | apply below_drew1) | exact HB.out)) hb); clear HO_3; clear HB; have HO_3 := n0_; have HO177 := n1_; have HB := n2_; clear n0_ n1_ n2_; clear hb ho9; obtain ⟨Ao11, co11, eo11⟩ := Kd.R_slice HO_3.out; subst eo11) | ((with_reducible refine gate_builtin (b := .append) (xs := #[.tmp 14, .tmp 15]) rfl ?_); at_builtin; refine Kd.R_append_rows (Kd.int .u8) (w0 := w) w.heap.size rfl (.tmp 14) (.tmp 15) 25 5 (.int .u8 0) 1 rfl Try.underlying25 info5 rfl (by decide) (by omega) v176 y175 x3_1 _ _ _ (fun k_ => some k_ ≠ (.slice Ao11 x3_1.length co11 : Value).ownBlock) (fun _ => False) rfl rfl ?aO ?aR (fun _ _ h => h) (fun _ h => h.elim) ?aF ?aB ?aS ?aL ?_; (case aR => repeat (first | exact (Kd.R_reads' HO_3.out).2.2 | (with_reducible refine Kd.C_alloc ?_ _) | (with_reducible refine Kd.C_drewN ?_ _) | (with_reducible refine Kd.C_drew ?_))); (case aB => exact (by repeat (first | (with_reducible first | exact HB.out | apply below_alloc | apply pw_below_drewN | apply below_drew1) | exact HB.out))); (case aF => exact (fun k_ hk => Kd.fresh' (Kd.R_lt (by (with_reducible repeat (first | apply Kd.R_alloc | apply Kd.R_drewN | apply Kd.R_drew)); exact HO_3.out)) k_ hk)); (case aO => exact (by (with_reducible repeat (first | apply Kd.R_alloc | apply Kd.R_drewN | apply Kd.R_drew)); exact Kd.R_mono HO177.out (fun _ hk => hk.2))); (case aS => exact (below_size (by repeat (first | (with_reducible first | exact HB.out | apply below_alloc | apply pw_below_drewN | apply below_drew1) | exact HB.out)))); (case aL => have := LMc7.out; omega); intro v179 w10 ho hb hg hat; rw [← Ny178.out] at ho; have n0_ := Aside0.mk (Kd.R_after (ok := (fun _ => True)) (by (with_reducible repeat (first | apply Kd.R_alloc | apply Kd.R_drewN | apply Kd.R_drew)); exact HO_3.out) hg hat); have n1_ := Aside0.mk (hb); have n2_ := Aside0.mk (ho); clear HO_3; clear HB; clear HO177; have HO_3 := n0_; have HB := n1_; have HO180 := n2_; clear n0_ n1_ n2_; clear ho hb hg hat))
            go_roundg k1
            case measure => have := HK1.out; omega
            case rel => exact ⟨(x0_1 / 256), (y178), (by first | rfl | (simp; done) | (simp [*]; done)), H', ⟨by have := HK1.out; omega⟩, ⟨by (with_reducible repeat (first | apply Kd.R_alloc | apply Kd.R_drewN | apply Kd.R_drew)); exact Kd.R_mono HO180.out (fun _ hk => trivial)⟩, ⟨by repeat (first | (with_reducible first | exact HB.out | apply below_alloc | apply pw_below_drewN | apply below_drew1) | exact HB.out)⟩⟩
          · rw [if_neg c7] at H
            exact absurd H (by simp)
        · rw [if_neg c6] at H
          have c6b0 : decide (0 < x0_1) = false := decide_eq_false c6
          clear c6
          obtain ⟨y181, hy181⟩ : ∃ y_ : List Int, y_ = (([(Go.bits .or .i64 128 (x3_1.length : Int)) % 256] : List Int)) := ⟨_, rfl⟩
          replace H : (if (strOfNums y181).size + (strOfNums x3_1).size ≤ 9223372036854775807 then (some ((strOfNums y181) ++ (strOfNums x3_1))) else (none)) = some r := by first | (rw [hy181]; with_reducible exact H) | (have H2_ := (Option.bind_some _ _).symm.trans H; rw [hy181]; with_reducible exact H2_) | (have H2_ := (Option.bind_some _ _).symm.trans H; with_reducible exact H2_) | with_reducible exact H | (rw [hy181]; exact H) | exact H
          have Ny181 := Aside0.mk hy181
          clear hy181
          by_cases c12 : (strOfNums y181).size + (strOfNums x3_1).size ≤ 9223372036854775807
          · rw [if_pos c12] at H
            have c12b0 := eq_true c12
            have c12b1 : decide ((strOfNums y181).size + (strOfNums x3_1).size ≤ 9223372036854775807) = true := decide_eq_true c12
            try have c12b2 : (9223372036854775807 < (strOfNums y181).size + (strOfNums x3_1).size) = False := eq_false (Nat.not_lt.2 c12)
            obtain rfl := Option.some.inj H
            obtain ⟨Ao13, co13, eo13⟩ := Kd.R_slice HO_3.out
            subst eo13
            go_wp2_with (first | ((with_reducible refine gate_dst (N := 23) rfl ?_); refine Kd.R_lit (Kd.int .u8) _ 5 ?hg (N := 23) ?hd (xs := ([(Go.bits .or .i64 128 (x3_1.length : Int)) % 256] : List Int)) (inner := [.int .u8 ((Go.bits .or .i64 128 (x3_1.length : Int)) % 256)]) (ok := fun _ => True) (okp := fun _ => True) ?hr ?hp (fun _ hk => hk) trivial (Below.refl _ _) (Nat.le_refl _) (by simp) ?_; (case hd => rfl); (case hg => rfl); (case hr => first | (go_simp; done) | (go_simp; rfl)); (case hp => exact (Reps.one (show Kd.M (Kd.int .u8) _ _ _ ((Go.bits .or .i64 128 (x3_1.length : Int)) % 256) [.int .u8 ((Go.bits .or .i64 128 (x3_1.length : Int)) % 256)] from rfl) (Reps.none _ _))); intro v182 w14 ho15 hb hg_ hnew_; clear hg_ hnew_; (first | rw [← Ny181.out] at ho15 | (simp only [Int.reduceToNat] at ho15; rw [← Ny181.out] at ho15)); have n0_ := Aside0.mk (Kd.R_elder' (by (with_reducible repeat (first | apply Kd.R_alloc | apply Kd.R_drewN | apply Kd.R_drew)); exact HO_3.out) (Kd.R_base ho15) hb); have n1_ := Aside0.mk (Kd.R_lower (Kd.R_new' ho15 (Kd.R_lt (by (with_reducible repeat (first | apply Kd.R_alloc | apply Kd.R_drewN | apply Kd.R_drew)); exact HO_3.out))) (below_size (by repeat (first | (with_reducible first | exact HB.out | apply below_alloc | apply pw_below_drewN | apply below_drew1) | exact HB.out)))); have n2_ := Aside0.mk (below_step (by repeat (first | (with_reducible first | exact HB.out | apply below_alloc | apply pw_below_drewN | apply below_drew1) | exact HB.out)) hb); clear HO_3; clear HB; have HO_3 := n0_; have HO183 := n1_; have HB := n2_; clear n0_ n1_ n2_; clear hb ho15; have hcv16 := own_string (P := Try.prog) Try.underlying25 Try.underlying5 Try.underlying9 (Kd.own_of_R HO183.out); have hcv17 := own_string (P := Try.prog) Try.underlying25 Try.underlying5 Try.underlying9 (Kd.own_of_R HO_3.out)))
            go_ret
            exact ⟨by first | rfl | (simp [errW_none, errW_some] <;> rfl) | (simp [*, errW_none, errW_some] <;> rfl), by repeat (first | (with_reducible first | exact HB.out | apply below_alloc | apply pw_below_drewN | apply below_drew1) | exact HB.out)⟩
          · rw [if_neg c12] at H
            exact absurd H (by simp)

/-! ### spec_AppTagged: function 24 -/
def spec_AppTagged.l0 : Nat → ByteArray → List Int → Int → Option (ByteArray)
  | 0, _, _, _ => none
  | k + 1, x0, x6, x7 => if (x6.length : Int) > 0 then ((some (([Go.bits .or .u8 ((Go.bits .and .i64 x7 127) % 256) 128] : List Int) : List Int)).bind fun y187 => (if y187.length + x6.length < 140737488355328 then ((some (y187 ++ x6 : List Int)).bind fun y190 => (if x7 < 128 then ((some (([127] : List Int) : List Int)).bind fun y193 => (if y193.length + y190.length < 140737488355328 then ((some (y193 ++ y190 : List Int)).bind fun y196 => ((spec_DERLength.f k (x0.size : Int)).bind fun t199 => (if (strOfNums y196).size + t199.size ≤ 9223372036854775807 then (if ((strOfNums y196) ++ t199).size + x0.size ≤ 9223372036854775807 then (some (((strOfNums y196) ++ t199) ++ x0)) else (none)) else (none)))) else (none))) else (spec_AppTagged.l0 k x0 y190 (x7 / 128)))) else (none))) else ((some (([(Go.bits .and .i64 x7 127) % 256] : List Int) : List Int)).bind fun y200 => (if y200.length + x6.length < 140737488355328 then ((some (y200 ++ x6 : List Int)).bind fun y203 => (if x7 < 128 then ((some (([127] : List Int) : List Int)).bind fun y206 => (if y206.length + y203.length < 140737488355328 then ((some (y206 ++ y203 : List Int)).bind fun y209 => ((spec_DERLength.f k (x0.size : Int)).bind fun t212 => (if (strOfNums y209).size + t212.size ≤ 9223372036854775807 then (if ((strOfNums y209) ++ t212).size + x0.size ≤ 9223372036854775807 then (some (((strOfNums y209) ++ t212) ++ x0)) else (none)) else (none)))) else (none))) else (spec_AppTagged.l0 k x0 y203 (x7 / 128)))) else (none)))
def spec_AppTagged.f (k : Nat) (a0 : ByteArray) (a1 : Int) : Option (ByteArray) := (some (([(Go.bits .or .i64 96 a1) % 256] : List Int) : List Int)).bind fun y184 => (if a1 > 30 then (spec_AppTagged.l0 k a0 ([] : List Int) a1) else ((spec_DERLength.f k (a0.size : Int)).bind fun t213 => (if (strOfNums y184).size + t213.size ≤ 9223372036854775807 then (if ((strOfNums y184) ++ t213).size + a0.size ≤ 9223372036854775807 then (some (((strOfNums y184) ++ t213) ++ a0)) else (none)) else (none))))
set_option maxRecDepth 100000 in
theorem spec_AppTagged.mono_l : ∀ k, (∀ y0 y1 y2, LeO (spec_AppTagged.l0 k y0 y1 y2) (spec_AppTagged.l0 (k + 1) y0 y1 y2))
  | 0 => fun _ _ _ r h => by simp [spec_AppTagged.l0] at h
  | k + 1 => by
    have ih0 := spec_AppTagged.mono_l k
    · intro y0 y1 y2
      unfold spec_AppTagged.l0
      repeat' first
      | (with_reducible exact ih0 _ _ _)
      | (with_reducible exact spec_DERLength.mono _ _)
      | (with_reducible exact LeO.refl _)
      | (with_reducible exact LeO.none _)
      | (with_reducible refine LeO.ite ?_ ?_)
      | (with_reducible refine LeO.bind ?_ (fun _ => ?_))
      | exact ih0 _ _ _
      | exact spec_DERLength.mono _ _
      | exact LeO.none _
      | refine LeO.ite ?_ ?_
      | refine LeO.bind ?_ (fun _ => ?_)
set_option maxRecDepth 100000 in
theorem spec_AppTagged.mono : ∀ a0 a1 k, LeO (spec_AppTagged.f k a0 a1) (spec_AppTagged.f (k + 1) a0 a1) := by
  intro a0 a1 k
  have ih0 := spec_AppTagged.mono_l k
  unfold spec_AppTagged.f
  repeat' first
      | (with_reducible exact ih0 _ _ _)
      | (with_reducible exact spec_DERLength.mono _ _)
      | (with_reducible exact LeO.refl _)
      | (with_reducible exact LeO.none _)
      | (with_reducible refine LeO.ite ?_ ?_)
      | (with_reducible refine LeO.bind ?_ (fun _ => ?_))
      | exact ih0 _ _ _
      | exact spec_DERLength.mono _ _
      | exact LeO.none _
      | refine LeO.ite ?_ ?_
      | refine LeO.bind ?_ (fun _ => ?_)
def spec_AppTagged.T12 : Bool × List (List Nat × List Nat) := (true, [([], []), ([0], [0]), ([], []), ([2], [2]), ([3], [3]), ([1, 4], [1, 4]), ([], []), ([5, 6], [5, 6]), ([7, 4, 0, 1, 2, 3, 4, 5, 6, 7], [7])])
def spec_AppTagged.B12 : List Nat := [0, 1, 0, 4, 12, 31, 0, 127, 255]
theorem spec_AppTagged.tab12 : rtab .any (opsOf Try.f24 12) = spec_AppTagged.T12 := by kernel_rfl
theorem spec_AppTagged.bits12 : waitsOk spec_AppTagged.T12.2 spec_AppTagged.B12 = true := by kernel_rfl
set_option maxHeartbeats 8000000 in
set_option maxRecDepth 100000 in
theorem spec_AppTagged.calls (k : Nat) (a0 : ByteArray) (a1 : Int) (r : ByteArray) (w : World) (h : spec_AppTagged.f k a0 a1 = some r) :
    Calls Try.prog 24 #[.string a0, .int .i64 a1] w fun e w' => e = .returned (.string r) ∧ Below w.heap.size w w' := by
  have HB := Aside0.mk (Below.refl w.heap.size w)
  have H : ((some (([(Go.bits .or .i64 96 a1) % 256] : List Int) : List Int)).bind fun y184 => (if a1 > 30 then (spec_AppTagged.l0 k a0 ([] : List Int) a1) else ((spec_DERLength.f k (a0.size : Int)).bind fun t213 => (if (strOfNums y184).size + t213.size ≤ 9223372036854775807 then (if ((strOfNums y184) ++ t213).size + a0.size ≤ 9223372036854775807 then (some (((strOfNums y184) ++ t213) ++ a0)) else (none)) else (none))))) = some r := h
  clear h
  obtain ⟨y184, hy184⟩ : ∃ y_ : List Int, y_ = (([(Go.bits .or .i64 96 a1) % 256] : List Int)) := ⟨_, rfl⟩
  replace H : (if a1 > 30 then (spec_AppTagged.l0 k a0 ([] : List Int) a1) else ((spec_DERLength.f k (a0.size : Int)).bind fun t213 => (if (strOfNums y184).size + t213.size ≤ 9223372036854775807 then (if ((strOfNums y184) ++ t213).size + a0.size ≤ 9223372036854775807 then (some (((strOfNums y184) ++ t213) ++ a0)) else (none)) else (none)))) = some r := by first | (rw [hy184]; with_reducible exact H) | (have H2_ := (Option.bind_some _ _).symm.trans H; rw [hy184]; with_reducible exact H2_) | (have H2_ := (Option.bind_some _ _).symm.trans H; with_reducible exact H2_) | with_reducible exact H | (rw [hy184]; exact H) | exact H
  have Ny184 := Aside0.mk hy184
  clear hy184
  by_cases c3 : a1 > 30
  · rw [if_pos c3] at H
    have c3b0 : decide (30 < a1) = true := decide_eq_true c3
    clear c3
    have H' := Aside0.mk H
    clear H
    go_enter Try.func24, Try.ntmps24
    go_wp2_with (first | ((with_reducible refine gate_dst (N := 12) rfl ?_); refine Kd.R_lit (Kd.int .u8) _ 5 ?hg (N := 12) ?hd (xs := ([(Go.bits .or .i64 96 a1) % 256] : List Int)) (inner := [.int .u8 ((Go.bits .or .i64 96 a1) % 256)]) (ok := fun _ => True) (okp := fun _ => True) ?hr ?hp (fun _ hk => hk) trivial (Below.refl _ _) (Nat.le_refl _) (by simp) ?_; (case hd => rfl); (case hg => rfl); (case hr => first | (go_simp; done) | (go_simp; rfl)); (case hp => exact (Reps.one (show Kd.M (Kd.int .u8) _ _ _ ((Go.bits .or .i64 96 a1) % 256) [.int .u8 ((Go.bits .or .i64 96 a1) % 256)] from rfl) (Reps.none _ _))); intro v185 w4 ho5 hb hg_ hnew_; clear hg_ hnew_; (first | rw [← Ny184.out] at ho5 | (simp only [Int.reduceToNat] at ho5; rw [← Ny184.out] at ho5)); have n0_ := Aside0.mk (Kd.R_lower ho5 (below_size (by repeat (first | (with_reducible first | exact HB.out | apply below_alloc | apply pw_below_drewN | apply below_drew1) | exact HB.out)))); have n1_ := Aside0.mk (below_step (by repeat (first | (with_reducible first | exact HB.out | apply below_alloc | apply pw_below_drewN | apply below_drew1) | exact HB.out)) hb); clear HB; have HO186 := n0_; have HB := n1_; clear n0_ n1_; clear hb ho5))
    go_loopg [6, 7] k (fun kq v6 v7 w' => ∃ (x6_1 : List Int) (x7_1 : Int), v7 = .int .i64 x7_1 ∧ Aside0 (spec_AppTagged.l0 kq a0 x6_1 x7_1 = some r) ∧ Aside0 (kq ≤ k) ∧ Aside0 (Kd.R (Kd.int .u8) 5 w' w.heap.size (fun _ => True) v6 x6_1) ∧ Aside0 (Below w.heap.size w w'))
    case atStart => exact ⟨(([] : List Int)), (a1), (by first | rfl | (simp; done) | (simp [*]; done)), H', ⟨Nat.le_refl _⟩, ⟨by first | exact Kd.R_nil _ _ _ _ _ | exact Kd.N_nil _ _ _ _ _ | exact Kd.V_nil _ _ _ _ _ | exact Kd.Q_nil _ _ _ _ _ | exact Kd.S_nil _ _ _ _ _⟩, ⟨by repeat (first | (with_reducible first | exact HB.out | apply below_alloc | apply pw_below_drewN | apply below_drew1) | exact HB.out)⟩⟩
    case round =>
      clear H'
      try clear c2
      try clear p2
      try clear c3
      try clear c3b0
      obtain ⟨x6_1, x7_1, rfl, HA, HK1, HO_6, HB⟩ := hrel
      cases gk with
      | zero => exact absurd HA.out (by simp [spec_AppTagged.l0])
      | succ k1 =>
        have H := HA.out
        clear HA
        simp only [spec_AppTagged.l0] at H
        by_cases c6 : (x6_1.length : Int) > 0
        · rw [if_pos c6] at H
          have c6b0 : decide (0 < (x6_1.length : Int)) = true := decide_eq_true c6
          have c6b1 : decide (0 < x6_1.length) = true := decide_eq_true (by omega)
          clear c6
          obtain ⟨y187, hy187⟩ : ∃ y_ : List Int, y_ = (([Go.bits .or .u8 ((Go.bits .and .i64 x7_1 127) % 256) 128] : List Int)) := ⟨_, rfl⟩
          replace H : (if y187.length + x6_1.length < 140737488355328 then ((some (y187 ++ x6_1 : List Int)).bind fun y190 => (if x7_1 < 128 then ((some (([127] : List Int) : List Int)).bind fun y193 => (if y193.length + y190.length < 140737488355328 then ((some (y193 ++ y190 : List Int)).bind fun y196 => ((spec_DERLength.f k1 (a0.size : Int)).bind fun t199 => (if (strOfNums y196).size + t199.size ≤ 9223372036854775807 then (if ((strOfNums y196) ++ t199).size + a0.size ≤ 9223372036854775807 then (some (((strOfNums y196) ++ t199) ++ a0)) else (none)) else (none)))) else (none))) else (spec_AppTagged.l0 k1 a0 y190 (x7_1 / 128)))) else (none)) = some r := by first | (rw [hy187]; with_reducible exact H) | (have H2_ := (Option.bind_some _ _).symm.trans H; rw [hy187]; with_reducible exact H2_) | (have H2_ := (Option.bind_some _ _).symm.trans H; with_reducible exact H2_) | with_reducible exact H | (rw [hy187]; exact H) | exact H
          have Ny187 := Aside0.mk hy187
          clear hy187
          by_cases c7 : y187.length + x6_1.length < 140737488355328
          · rw [if_pos c7] at H
            have LMc7 := Aside0.mk c7
            clear c7
            obtain ⟨y190, hy190⟩ : ∃ y_ : List Int, y_ = (y187 ++ x6_1) := ⟨_, rfl⟩
            replace H : (if x7_1 < 128 then ((some (([127] : List Int) : List Int)).bind fun y193 => (if y193.length + y190.length < 140737488355328 then ((some (y193 ++ y190 : List Int)).bind fun y196 => ((spec_DERLength.f k1 (a0.size : Int)).bind fun t199 => (if (strOfNums y196).size + t199.size ≤ 9223372036854775807 then (if ((strOfNums y196) ++ t199).size + a0.size ≤ 9223372036854775807 then (some (((strOfNums y196) ++ t199) ++ a0)) else (none)) else (none)))) else (none))) else (spec_AppTagged.l0 k1 a0 y190 (x7_1 / 128))) = some r := by first | (rw [hy190]; with_reducible exact H) | (have H2_ := (Option.bind_some _ _).symm.trans H; rw [hy190]; with_reducible exact H2_) | (have H2_ := (Option.bind_some _ _).symm.trans H; with_reducible exact H2_) | with_reducible exact H | (rw [hy190]; exact H) | exact H
            have Ny190 := Aside0.mk hy190
            clear hy190
            by_cases c8 : x7_1 < 128
            · rw [if_pos c8] at H
              have c8b0 : decide (x7_1 < 128) = true := decide_eq_true c8
              clear c8
              obtain ⟨y193, hy193⟩ : ∃ y_ : List Int, y_ = (([127] : List Int)) := ⟨_, rfl⟩
              replace H : (if y193.length + y190.length < 140737488355328 then ((some (y193 ++ y190 : List Int)).bind fun y196 => ((spec_DERLength.f k1 (a0.size : Int)).bind fun t199 => (if (strOfNums y196).size + t199.size ≤ 9223372036854775807 then (if ((strOfNums y196) ++ t199).size + a0.size ≤ 9223372036854775807 then (some (((strOfNums y196) ++ t199) ++ a0)) else (none)) else (none)))) else (none)) = some r := by first | (rw [hy193]; with_reducible exact H) | (have H2_ := (Option.bind_some _ _).symm.trans H; rw [hy193]; with_reducible exact H2_) | (have H2_ := (Option.bind_some _ _).symm.trans H; with_reducible exact H2_) | with_reducible exact H | (rw [hy193]; exact H) | exact H
              have Ny193 := Aside0.mk hy193
              clear hy193
              by_cases c9 : y193.length + y190.length < 140737488355328
              · rw [if_pos c9] at H
                have LMc9 := Aside0.mk c9
                clear c9
                obtain ⟨y196, hy196⟩ : ∃ y_ : List Int, y_ = (y193 ++ y190) := ⟨_, rfl⟩
                replace H : ((spec_DERLength.f k1 (a0.size : Int)).bind fun t199 => (if (strOfNums y196).size + t199.size ≤ 9223372036854775807 then (if ((strOfNums y196) ++ t199).size + a0.size ≤ 9223372036854775807 then (some (((strOfNums y196) ++ t199) ++ a0)) else (none)) else (none))) = some r := by first | (rw [hy196]; with_reducible exact H) | (have H2_ := (Option.bind_some _ _).symm.trans H; rw [hy196]; with_reducible exact H2_) | (have H2_ := (Option.bind_some _ _).symm.trans H; with_reducible exact H2_) | with_reducible exact H | (rw [hy196]; exact H) | exact H
                have Ny196 := Aside0.mk hy196
                clear hy196
                replace H := Option.bind_eq_some_iff.mp H
                obtain ⟨t199, A100, H⟩ := H
                replace H : (if (strOfNums y196).size + t199.size ≤ 9223372036854775807 then (if ((strOfNums y196) ++ t199).size + a0.size ≤ 9223372036854775807 then (some (((strOfNums y196) ++ t199) ++ a0)) else (none)) else (none)) = some r := H
                have A10 := Aside0.mk A100
                clear A100
                by_cases c11 : (strOfNums y196).size + t199.size ≤ 9223372036854775807
                · rw [if_pos c11] at H
                  have c11b0 := eq_true c11
                  have c11b1 : decide ((strOfNums y196).size + t199.size ≤ 9223372036854775807) = true := decide_eq_true c11
                  try have c11b2 : (9223372036854775807 < (strOfNums y196).size + t199.size) = False := eq_false (Nat.not_lt.2 c11)
                  by_cases c12 : ((strOfNums y196) ++ t199).size + a0.size ≤ 9223372036854775807
                  · rw [if_pos c12] at H
                    have c12b0 := eq_true c12
                    have c12b1 : decide (((strOfNums y196) ++ t199).size + a0.size ≤ 9223372036854775807) = true := decide_eq_true c12
                    try have c12b2 : (9223372036854775807 < ((strOfNums y196) ++ t199).size + a0.size) = False := eq_false (Nat.not_lt.2 c12)
                    try (have c12b3 := c12b2; rw [ByteArray.size_append] at c12b3)
                    obtain rfl := Option.some.inj H
                    obtain ⟨Ao13, co13, eo13⟩ := Kd.R_slice HO_6.out
                    subst eo13
                    try go_wp2_with (first | ((with_reducible refine gate_dst (N := 27) rfl ?_); refine Kd.R_lit (Kd.int .u8) _ 5 ?hg (N := 27) ?hd (xs := ([Go.bits .or .u8 ((Go.bits .and .i64 x7_1 127) % 256) 128] : List Int)) (inner := [.int .u8 (Go.bits .or .u8 ((Go.bits .and .i64 x7_1 127) % 256) 128)]) (ok := fun _ => True) (okp := fun _ => True) ?hr ?hp (fun _ hk => hk) trivial (Below.refl _ _) (Nat.le_refl _) (by simp) ?_; (case hd => rfl); (case hg => rfl); (case hr => first | (go_simp; done) | (go_simp; rfl)); (case hp => exact (Reps.one (show Kd.M (Kd.int .u8) _ _ _ (Go.bits .or .u8 ((Go.bits .and .i64 x7_1 127) % 256) 128) [.int .u8 (Go.bits .or .u8 ((Go.bits .and .i64 x7_1 127) % 256) 128)] from rfl) (Reps.none _ _))); intro v188 w14 ho15 hb hg_ hnew_; clear hg_ hnew_; (first | rw [← Ny187.out] at ho15 | (simp only [Int.reduceToNat] at ho15; rw [← Ny187.out] at ho15)); have n0_ := Aside0.mk (Kd.R_elder' (by (with_reducible repeat (first | apply Kd.R_alloc | apply Kd.R_drewN | apply Kd.R_drew)); exact HO_6.out) (Kd.R_base ho15) hb); have n1_ := Aside0.mk (Kd.R_lower (Kd.R_new' ho15 (Kd.R_lt (by (with_reducible repeat (first | apply Kd.R_alloc | apply Kd.R_drewN | apply Kd.R_drew)); exact HO_6.out))) (below_size (by repeat (first | (with_reducible first | exact HB.out | apply below_alloc | apply pw_below_drewN | apply below_drew1) | exact HB.out)))); have n2_ := Aside0.mk (below_step (by repeat (first | (with_reducible first | exact HB.out | apply below_alloc | apply pw_below_drewN | apply below_drew1) | exact HB.out)) hb); clear HO_6; clear HB; have HO_6 := n0_; have HO189 := n1_; have HB := n2_; clear n0_ n1_ n2_; clear hb ho15) | ((with_reducible refine gate_builtin (b := .append) (xs := #[.tmp 27, .tmp 28]) rfl ?_); at_builtin; refine Kd.R_append_rows (Kd.int .u8) (w0 := w) w.heap.size rfl (.tmp 27) (.tmp 28) 25 5 (.int .u8 0) 1 rfl Try.underlying25 info5 rfl (by decide) (by omega) v188 y187 x6_1 _ _ _ (fun k_ => some k_ ≠ (.slice Ao13 x6_1.length co13 : Value).ownBlock) (fun _ => False) rfl rfl ?aO ?aR (fun _ _ h => h) (fun _ h => h.elim) ?aF ?aB ?aS ?aL ?_; (case aR => repeat (first | exact (Kd.R_reads' HO_6.out).2.2 | (with_reducible refine Kd.C_alloc ?_ _) | (with_reducible refine Kd.C_drewN ?_ _) | (with_reducible refine Kd.C_drew ?_))); (case aB => exact (by repeat (first | (with_reducible first | exact HB.out | apply below_alloc | apply pw_below_drewN | apply below_drew1) | exact HB.out))); (case aF => exact (fun k_ hk => Kd.fresh' (Kd.R_lt (by (with_reducible repeat (first | apply Kd.R_alloc | apply Kd.R_drewN | apply Kd.R_drew)); exact HO_6.out)) k_ hk)); (case aO => exact (by (with_reducible repeat (first | apply Kd.R_alloc | apply Kd.R_drewN | apply Kd.R_drew)); exact Kd.R_mono HO189.out (fun _ hk => hk.2))); (case aS => exact (below_size (by repeat (first | (with_reducible first | exact HB.out | apply below_alloc | apply pw_below_drewN | apply below_drew1) | exact HB.out)))); (case aL => have := LMc7.out; omega); intro v191 w16 ho hb hg hat; rw [← Ny190.out] at ho; have n0_ := Aside0.mk (Kd.R_after (ok := (fun _ => True)) (by (with_reducible repeat (first | apply Kd.R_alloc | apply Kd.R_drewN | apply Kd.R_drew)); exact HO_6.out) hg hat); have n1_ := Aside0.mk (hb); have n2_ := Aside0.mk (ho); clear HO_6; clear HB; clear HO189; have HO_6 := n0_; have HB := n1_; have HO192 := n2_; clear n0_ n1_ n2_; clear ho hb hg hat) | ((with_reducible refine gate_dst (N := 32) rfl ?_); refine Kd.R_lit (Kd.int .u8) _ 5 ?hg (N := 32) ?hd (xs := ([127] : List Int)) (inner := [.int .u8 127]) (ok := fun _ => True) (okp := fun _ => True) ?hr ?hp (fun _ hk => hk) trivial (Below.refl _ _) (Nat.le_refl _) (by simp) ?_; (case hd => rfl); (case hg => rfl); (case hr => first | (go_simp; done) | (go_simp; rfl)); (case hp => exact (Reps.one (show Kd.M (Kd.int .u8) _ _ _ 127 [.int .u8 127] from rfl) (Reps.none _ _))); intro v194 w17 ho18 hb hg_ hnew_; clear hg_ hnew_; (first | rw [← Ny193.out] at ho18 | (simp only [Int.reduceToNat] at ho18; rw [← Ny193.out] at ho18)); have n0_ := Aside0.mk (Kd.R_elder' (by (with_reducible repeat (first | apply Kd.R_alloc | apply Kd.R_drewN | apply Kd.R_drew)); exact HO_6.out) (Kd.R_base ho18) hb); have n1_ := Aside0.mk (Kd.R_elder' (by (with_reducible repeat (first | apply Kd.R_alloc | apply Kd.R_drewN | apply Kd.R_drew)); exact HO192.out) (Kd.R_base ho18) hb); have n2_ := Aside0.mk (Kd.R_lower (Kd.R_new' (Kd.R_new' ho18 (Kd.R_lt (by (with_reducible repeat (first | apply Kd.R_alloc | apply Kd.R_drewN | apply Kd.R_drew)); exact HO_6.out))) (Kd.R_lt (by (with_reducible repeat (first | apply Kd.R_alloc | apply Kd.R_drewN | apply Kd.R_drew)); exact HO192.out))) (below_size (by repeat (first | (with_reducible first | exact HB.out | apply below_alloc | apply pw_below_drewN | apply below_drew1) | exact HB.out)))); have n3_ := Aside0.mk (below_step (by repeat (first | (with_reducible first | exact HB.out | apply below_alloc | apply pw_below_drewN | apply below_drew1) | exact HB.out)) hb); clear HO_6; clear HO192; clear HB; have HO_6 := n0_; have HO192 := n1_; have HO195 := n2_; have HB := n3_; clear n0_ n1_ n2_ n3_; clear hb ho18; obtain ⟨Ao20, co20, eo20⟩ := Kd.R_slice HO192.out; subst eo20) | ((with_reducible refine gate_builtin (b := .append) (xs := #[.tmp 32, .tmp 33]) rfl ?_); at_builtin; refine Kd.R_append_rows (Kd.int .u8) (w0 := w) w.heap.size rfl (.tmp 32) (.tmp 33) 25 5 (.int .u8 0) 1 rfl Try.underlying25 info5 rfl (by decide) (by omega) v194 y193 y190 _ _ _ (fun k_ => some k_ ≠ (.slice Ao13 x6_1.length co13 : Value).ownBlock ∧ some k_ ≠ (.slice Ao20 y190.length co20 : Value).ownBlock) (fun _ => False) rfl rfl ?aO ?aR (fun _ _ h => h) (fun _ h => h.elim) ?aF ?aB ?aS ?aL ?_; (case aR => repeat (first | exact (Kd.R_reads' HO192.out).2.2 | (with_reducible refine Kd.C_alloc ?_ _) | (with_reducible refine Kd.C_drewN ?_ _) | (with_reducible refine Kd.C_drew ?_))); (case aB => exact (by repeat (first | (with_reducible first | exact HB.out | apply below_alloc | apply pw_below_drewN | apply below_drew1) | exact HB.out))); (case aF => exact (fun k_ hk => ⟨Kd.fresh' (Kd.R_lt (by (with_reducible repeat (first | apply Kd.R_alloc | apply Kd.R_drewN | apply Kd.R_drew)); exact HO_6.out)) k_ hk, Kd.fresh' (Kd.R_lt (by (with_reducible repeat (first | apply Kd.R_alloc | apply Kd.R_drewN | apply Kd.R_drew)); exact HO192.out)) k_ hk⟩)); (case aO => exact (by (with_reducible repeat (first | apply Kd.R_alloc | apply Kd.R_drewN | apply Kd.R_drew)); exact Kd.R_mono HO195.out (fun _ hk => ⟨hk.1.2, hk.2⟩))); (case aS => exact (below_size (by repeat (first | (with_reducible first | exact HB.out | apply below_alloc | apply pw_below_drewN | apply below_drew1) | exact HB.out)))); (case aL => have := LMc9.out; omega); intro v197 w19 ho hb hg hat; rw [← Ny196.out] at ho; have n0_ := Aside0.mk (Kd.R_after (ok := (fun k_ => some k_ ≠ (.slice Ao20 y190.length co20 : Value).ownBlock)) (by (with_reducible repeat (first | apply Kd.R_alloc | apply Kd.R_drewN | apply Kd.R_drew)); exact Kd.R_mono HO_6.out (fun _ hk => ⟨hk.1.2, hk.2⟩)) hg hat); have n1_ := Aside0.mk (Kd.R_after (ok := (fun k_ => some k_ ≠ (.slice Ao13 x6_1.length co13 : Value).ownBlock)) (by (with_reducible repeat (first | apply Kd.R_alloc | apply Kd.R_drewN | apply Kd.R_drew)); exact HO192.out) hg hat); have n2_ := Aside0.mk (hb); have n3_ := Aside0.mk (ho); clear HO_6; clear HO192; clear HB; clear HO195; have HO_6 := n0_; have HO192 := n1_; have HB := n2_; have HO198 := n3_; clear n0_ n1_ n2_ n3_; clear ho hb hg hat))
                    have n0_ := Aside0.mk (Kd.R_drew HO_6.out)
                    have n1_ := Aside0.mk (Kd.R_drew HO192.out)
                    have n2_ := Aside0.mk (Kd.R_drew HO198.out)
                    have n3_ := Aside0.mk (below_drew1 HB.out)
                    clear HO_6
                    clear HO192
                    clear HO198
                    clear HB
                    have HO_6 := n0_
                    have HO192 := n1_
                    have HO198 := n2_
                    have HB := n3_
                    clear n0_ n1_ n2_ n3_
                    refine start_ (n := 9) (S := fun w' => (convert 25 9 v197).run Try.prog w' = .ok (.string (strOfNums y196)) w') (ds := []) #[false, false, false, false, false, false, false, false, false] (by kernel_rfl) rfl rfl (own_string (P := Try.prog) Try.underlying25 Try.underlying5 Try.underlying9 (Kd.own_of_R HO198.out)) (fun hHeld => ?_); refine with_tabW spec_AppTagged.tab12 spec_AppTagged.bits12 (fun HT_ HW_ => ?_)
                    generalize w19.drew = w21 at HO_6 HO192 HO198 HB hHeld ⊢
                    refine pure_ (i := 0) (N := some 35) (v := ?_) (a' := ?_) #[true, false, false, false, false, false, false, false, false] rfl rfl (any_of HT_.out (by kernel_rfl)) (fun _ _ _ h => h) (Or.inl ⟨by rfl, ?_⟩) ?_ ?_
                    rotate_left
                    · intro w'
                      go_simp
                      with_reducible rfl
                    rotate_left
                    · simp only [Act.put, List.setIfInBounds_toArray, List.set_cons_zero, List.set_cons_succ, i64_w, i32_w]
                      rfl
                    refine take_ (i := 1) (N := some 36) (v := ?_) (a' := ?_) #[true, true, false, false, false, false, false, false, false] rfl rfl (take_of HT_.out (by kernel_rfl)) (fun _ _ _ h => h) (Or.inl ⟨by rfl, ?_⟩) hHeld ?_ ?_
                    rotate_left
                    · intro w' s0
                      go_simp
                      with_reducible rfl
                    rotate_left
                    · simp only [Act.put, List.setIfInBounds_toArray, List.set_cons_zero, List.set_cons_succ, i64_w, i32_w]
                      rfl
                    refine pure_ (i := 2) (N := some 37) (v := ?_) (a' := ?_) #[true, true, true, false, false, false, false, false, false] rfl rfl (any_of HT_.out (by kernel_rfl)) (fun _ _ _ h => h) (Or.inl ⟨by rfl, ?_⟩) ?_ ?_
                    rotate_left
                    · intro w'
                      go_simp
                      with_reducible rfl
                    rotate_left
                    · simp only [Act.put, List.setIfInBounds_toArray, List.set_cons_zero, List.set_cons_succ, i64_w, i32_w]
                      rfl
                    refine pure_ (i := 3) (N := some 38) (v := ?_) (a' := ?_) #[true, true, true, true, false, false, false, false, false] rfl rfl (any_of HT_.out (by kernel_rfl)) (fun _ _ _ h => h) (Or.inl ⟨by rfl, ?_⟩) ?_ ?_
                    rotate_left
                    · intro w'
                      go_simp
                      with_reducible rfl
                    rotate_left
                    · simp only [Act.put, List.setIfInBounds_toArray, List.set_cons_zero, List.set_cons_succ, i64_w, i32_w]
                      rfl
                    refine pure_ (i := 6) (N := some 41) (v := ?_) (a' := ?_) #[true, true, true, true, false, false, true, false, false] rfl rfl (any_of HT_.out (by kernel_rfl)) (fun _ _ _ h => h) (Or.inl ⟨by rfl, ?_⟩) ?_ ?_
                    rotate_left
                    · intro w'
                      go_simp
                      with_reducible rfl
                    rotate_left
                    · simp only [Act.put, List.setIfInBounds_toArray, List.set_cons_zero, List.set_cons_succ, i64_w, i32_w]
                      rfl
                    refine one_ (i := 4) (N := some 39) #[true, true, true, true, true, false, true, false, false] rfl rfl (one_of HT_.out (by kernel_rfl)) (by decide) (fun K hK => ?_)
                    refine goes_ Try.func10 (by kernel_rfl) rfl #[.int .i64 (a0.size : Int)] (by rfl) rfl rfl (by (try simp only [List.map_toArray, List.map_cons, List.map_nil]); first | done | rfl | (simp only [List.length_drop, List.length_take]; rfl)) ?_
                    with_reducible refine (spec_DERLength.calls k1 (a0.size : Int) t199 _ A10.out).mono ?_
                    rintro e w23 ⟨rfl, hb⟩
                    refine ⟨_, rfl, ?_⟩
                    have n0_ := Aside0.mk (Kd.R_below (by (with_reducible repeat (first | apply Kd.R_alloc | apply Kd.R_drewN | apply Kd.R_drew)); exact HO_6.out) hb)
                    have n1_ := Aside0.mk (Kd.R_below (by (with_reducible repeat (first | apply Kd.R_alloc | apply Kd.R_drewN | apply Kd.R_drew)); exact HO192.out) hb)
                    have n2_ := Aside0.mk (Kd.R_below (by (with_reducible repeat (first | apply Kd.R_alloc | apply Kd.R_drewN | apply Kd.R_drew)); exact HO198.out) hb)
                    have n3_ := Aside0.mk (below_step (by repeat (first | (with_reducible first | exact HB.out | apply below_alloc | apply pw_below_drewN | apply below_drew1) | exact HB.out)) hb)
                    clear HO_6
                    clear HO192
                    clear HO198
                    clear HB
                    have HO_6 := n0_
                    have HO192 := n1_
                    have HO198 := n2_
                    have HB := n3_
                    clear n0_ n1_ n2_ n3_
                    (try clear hb)
                    (try clear hb2)
                    (try clear hk)
                    (try clear hi)
                    refine hK.out _ _ (own_string (P := Try.prog) Try.underlying25 Try.underlying5 Try.underlying9 (Kd.own_of_R HO198.out)) (fun hHeld => ?_)
                    clear hK K
                    refine norm_ (a' := ?_) ?_ ?_
                    rotate_left
                    · show Act.put _ (some 39) _ = _
                      simp only [Act.put, List.setIfInBounds_toArray, List.set_cons_zero, List.set_cons_succ, i64_w, i32_w]
                      rfl
                    refine pure_ (i := 5) (N := some 40) (v := ?_) (a' := ?_) #[true, true, true, true, true, true, true, false, false] rfl rfl (any_of HT_.out (by kernel_rfl)) (fun _ _ _ h => h) (Or.inl ⟨by rfl, ?_⟩) ?_ ?_
                    rotate_left
                    · intro w'
                      go_simp
                      with_reducible rfl
                    rotate_left
                    · simp only [Act.put, List.setIfInBounds_toArray, List.set_cons_zero, List.set_cons_succ, i64_w, i32_w]
                      rfl
                    refine pure_ (i := 7) (N := some 42) (v := ?_) (a' := ?_) #[true, true, true, true, true, true, true, true, false] rfl rfl (any_of HT_.out (by kernel_rfl)) (fun _ _ _ h => h) (Or.inl ⟨by rfl, ?_⟩) ?_ ?_
                    rotate_left
                    · intro w'
                      go_simp
                      with_reducible rfl
                    rotate_left
                    · simp only [Act.put, List.setIfInBounds_toArray, List.set_cons_zero, List.set_cons_succ, i64_w, i32_w]
                      rfl
                    refine pure_ (i := 8) (N := some 4) (v := ?_) (a' := ?_) #[true, true, true, true, true, true, true, true, true] rfl rfl (any_of HT_.out (by kernel_rfl)) (fun _ _ _ h => h) (Or.inl ⟨by rfl, ?_⟩) ?_ ?_
                    rotate_left
                    · intro w'
                      go_simp
                      with_reducible rfl
                    rotate_left
                    · simp only [Act.put, List.setIfInBounds_toArray, List.set_cons_zero, List.set_cons_succ, i64_w, i32_w]
                      rfl
                    refine done_ (done_of HT_.out (by kernel_rfl)) ?_
                    try go_wp2
                    go_ret
                    exact ⟨by first | rfl | (simp [errW_none, errW_some] <;> rfl) | (simp [*, errW_none, errW_some] <;> rfl), by repeat (first | (with_reducible first | exact HB.out | apply below_alloc | apply pw_below_drewN | apply below_drew1) | exact HB.out)⟩
                  · rw [if_neg c12] at H
                    exact absurd H (by simp)
                · rw [if_neg c11] at H
                  exact absurd H (by simp)
              · rw [if_neg c9] at H
                exact absurd H (by simp)
            · rw [if_neg c8] at H
              have c8b0 : decide (x7_1 < 128) = false := decide_eq_false c8
              clear c8
              have H' := Aside0.mk H
              clear H
              obtain ⟨Ao25, co25, eo25⟩ := Kd.R_slice HO_6.out
              subst eo25
              go_wp2_with (first | ((with_reducible refine gate_dst (N := 27) rfl ?_); refine Kd.R_lit (Kd.int .u8) _ 5 ?hg (N := 27) ?hd (xs := ([Go.bits .or .u8 ((Go.bits .and .i64 x7_1 127) % 256) 128] : List Int)) (inner := [.int .u8 (Go.bits .or .u8 ((Go.bits .and .i64 x7_1 127) % 256) 128)]) (ok := fun _ => True) (okp := fun _ => True) ?hr ?hp (fun _ hk => hk) trivial (Below.refl _ _) (Nat.le_refl _) (by simp) ?_; (case hd => rfl); (case hg => rfl); (case hr => first | (go_simp; done) | (go_simp; rfl)); (case hp => exact (Reps.one (show Kd.M (Kd.int .u8) _ _ _ (Go.bits .or .u8 ((Go.bits .and .i64 x7_1 127) % 256) 128) [.int .u8 (Go.bits .or .u8 ((Go.bits .and .i64 x7_1 127) % 256) 128)] from rfl) (Reps.none _ _))); intro v188 w26 ho27 hb hg_ hnew_; clear hg_ hnew_; (first | rw [← Ny187.out] at ho27 | (simp only [Int.reduceToNat] at ho27; rw [← Ny187.out] at ho27)); have n0_ := Aside0.mk (Kd.R_elder' (by (with_reducible repeat (first | apply Kd.R_alloc | apply Kd.R_drewN | apply Kd.R_drew)); exact HO_6.out) (Kd.R_base ho27) hb); have n1_ := Aside0.mk (Kd.R_lower (Kd.R_new' ho27 (Kd.R_lt (by (with_reducible repeat (first | apply Kd.R_alloc | apply Kd.R_drewN | apply Kd.R_drew)); exact HO_6.out))) (below_size (by repeat (first | (with_reducible first | exact HB.out | apply below_alloc | apply pw_below_drewN | apply below_drew1) | exact HB.out)))); have n2_ := Aside0.mk (below_step (by repeat (first | (with_reducible first | exact HB.out | apply below_alloc | apply pw_below_drewN | apply below_drew1) | exact HB.out)) hb); clear HO_6; clear HB; have HO_6 := n0_; have HO189 := n1_; have HB := n2_; clear n0_ n1_ n2_; clear hb ho27) | ((with_reducible refine gate_builtin (b := .append) (xs := #[.tmp 27, .tmp 28]) rfl ?_); at_builtin; refine Kd.R_append_rows (Kd.int .u8) (w0 := w) w.heap.size rfl (.tmp 27) (.tmp 28) 25 5 (.int .u8 0) 1 rfl Try.underlying25 info5 rfl (by decide) (by omega) v188 y187 x6_1 _ _ _ (fun k_ => some k_ ≠ (.slice Ao25 x6_1.length co25 : Value).ownBlock) (fun _ => False) rfl rfl ?aO ?aR (fun _ _ h => h) (fun _ h => h.elim) ?aF ?aB ?aS ?aL ?_; (case aR => repeat (first | exact (Kd.R_reads' HO_6.out).2.2 | (with_reducible refine Kd.C_alloc ?_ _) | (with_reducible refine Kd.C_drewN ?_ _) | (with_reducible refine Kd.C_drew ?_))); (case aB => exact (by repeat (first | (with_reducible first | exact HB.out | apply below_alloc | apply pw_below_drewN | apply below_drew1) | exact HB.out))); (case aF => exact (fun k_ hk => Kd.fresh' (Kd.R_lt (by (with_reducible repeat (first | apply Kd.R_alloc | apply Kd.R_drewN | apply Kd.R_drew)); exact HO_6.out)) k_ hk)); (case aO => exact (by (with_reducible repeat (first | apply Kd.R_alloc | apply Kd.R_drewN | apply Kd.R_drew)); exact Kd.R_mono HO189.out (fun _ hk => hk.2))); (case aS => exact (below_size (by repeat (first | (with_reducible first | exact HB.out | apply below_alloc | apply pw_below_drewN | apply below_drew1) | exact HB.out)))); (case aL => have := LMc7.out; omega); intro v191 w28 ho hb hg hat; rw [← Ny190.out] at ho; have n0_ := Aside0.mk (Kd.R_after (ok := (fun _ => True)) (by (with_reducible repeat (first | apply Kd.R_alloc | apply Kd.R_drewN | apply Kd.R_drew)); exact HO_6.out) hg hat); have n1_ := Aside0.mk (hb); have n2_ := Aside0.mk (ho); clear HO_6; clear HB; clear HO189; have HO_6 := n0_; have HB := n1_; have HO192 := n2_; clear n0_ n1_ n2_; clear ho hb hg hat))
              go_roundg k1
              case measure => have := HK1.out; omega
              case rel => exact ⟨(y190), (x7_1 / 128), (by first | rfl | (simp; done) | (simp [*]; done)), H', ⟨by have := HK1.out; omega⟩, ⟨by (with_reducible repeat (first | apply Kd.R_alloc | apply Kd.R_drewN | apply Kd.R_drew)); exact Kd.R_mono HO192.out (fun _ hk => trivial)⟩, ⟨by repeat (first | (with_reducible first | exact HB.out | apply below_alloc | apply pw_below_drewN | apply below_drew1) | exact HB.out)⟩⟩
          · rw [if_neg c7] at H
            exact absurd H (by simp)
        · rw [if_neg c6] at H
          have c6b0 : decide (0 < (x6_1.length : Int)) = false := decide_eq_false c6
          have c6b1 : decide (0 < x6_1.length) = false := decide_eq_false (by omega)
          clear c6
          obtain ⟨y200, hy200⟩ : ∃ y_ : List Int, y_ = (([(Go.bits .and .i64 x7_1 127) % 256] : List Int)) := ⟨_, rfl⟩
          replace H : (if y200.length + x6_1.length < 140737488355328 then ((some (y200 ++ x6_1 : List Int)).bind fun y203 => (if x7_1 < 128 then ((some (([127] : List Int) : List Int)).bind fun y206 => (if y206.length + y203.length < 140737488355328 then ((some (y206 ++ y203 : List Int)).bind fun y209 => ((spec_DERLength.f k1 (a0.size : Int)).bind fun t212 => (if (strOfNums y209).size + t212.size ≤ 9223372036854775807 then (if ((strOfNums y209) ++ t212).size + a0.size ≤ 9223372036854775807 then (some (((strOfNums y209) ++ t212) ++ a0)) else (none)) else (none)))) else (none))) else (spec_AppTagged.l0 k1 a0 y203 (x7_1 / 128)))) else (none)) = some r := by first | (rw [hy200]; with_reducible exact H) | (have H2_ := (Option.bind_some _ _).symm.trans H; rw [hy200]; with_reducible exact H2_) | (have H2_ := (Option.bind_some _ _).symm.trans H; with_reducible exact H2_) | with_reducible exact H | (rw [hy200]; exact H) | exact H
          have Ny200 := Aside0.mk hy200
          clear hy200
          by_cases c29 : y200.length + x6_1.length < 140737488355328
          · rw [if_pos c29] at H
            have LMc29 := Aside0.mk c29
            clear c29
            obtain ⟨y203, hy203⟩ : ∃ y_ : List Int, y_ = (y200 ++ x6_1) := ⟨_, rfl⟩
            replace H : (if x7_1 < 128 then ((some (([127] : List Int) : List Int)).bind fun y206 => (if y206.length + y203.length < 140737488355328 then ((some (y206 ++ y203 : List Int)).bind fun y209 => ((spec_DERLength.f k1 (a0.size : Int)).bind fun t212 => (if (strOfNums y209).size + t212.size ≤ 9223372036854775807 then (if ((strOfNums y209) ++ t212).size + a0.size ≤ 9223372036854775807 then (some (((strOfNums y209) ++ t212) ++ a0)) else (none)) else (none)))) else (none))) else (spec_AppTagged.l0 k1 a0 y203 (x7_1 / 128))) = some r := by first | (rw [hy203]; with_reducible exact H) | (have H2_ := (Option.bind_some _ _).symm.trans H; rw [hy203]; with_reducible exact H2_) | (have H2_ := (Option.bind_some _ _).symm.trans H; with_reducible exact H2_) | with_reducible exact H | (rw [hy203]; exact H) | exact H
            have Ny203 := Aside0.mk hy203
            clear hy203
            by_cases c30 : x7_1 < 128
            · rw [if_pos c30] at H
              have c30b0 : decide (x7_1 < 128) = true := decide_eq_true c30
              clear c30
              obtain ⟨y206, hy206⟩ : ∃ y_ : List Int, y_ = (([127] : List Int)) := ⟨_, rfl⟩
              replace H : (if y206.length + y203.length < 140737488355328 then ((some (y206 ++ y203 : List Int)).bind fun y209 => ((spec_DERLength.f k1 (a0.size : Int)).bind fun t212 => (if (strOfNums y209).size + t212.size ≤ 9223372036854775807 then (if ((strOfNums y209) ++ t212).size + a0.size ≤ 9223372036854775807 then (some (((strOfNums y209) ++ t212) ++ a0)) else (none)) else (none)))) else (none)) = some r := by first | (rw [hy206]; with_reducible exact H) | (have H2_ := (Option.bind_some _ _).symm.trans H; rw [hy206]; with_reducible exact H2_) | (have H2_ := (Option.bind_some _ _).symm.trans H; with_reducible exact H2_) | with_reducible exact H | (rw [hy206]; exact H) | exact H
              have Ny206 := Aside0.mk hy206
              clear hy206
              by_cases c31 : y206.length + y203.length < 140737488355328
              · rw [if_pos c31] at H
                have LMc31 := Aside0.mk c31
                clear c31
                obtain ⟨y209, hy209⟩ : ∃ y_ : List Int, y_ = (y206 ++ y203) := ⟨_, rfl⟩
                replace H : ((spec_DERLength.f k1 (a0.size : Int)).bind fun t212 => (if (strOfNums y209).size + t212.size ≤ 9223372036854775807 then (if ((strOfNums y209) ++ t212).size + a0.size ≤ 9223372036854775807 then (some (((strOfNums y209) ++ t212) ++ a0)) else (none)) else (none))) = some r := by first | (rw [hy209]; with_reducible exact H) | (have H2_ := (Option.bind_some _ _).symm.trans H; rw [hy209]; with_reducible exact H2_) | (have H2_ := (Option.bind_some _ _).symm.trans H; with_reducible exact H2_) | with_reducible exact H | (rw [hy209]; exact H) | exact H
                have Ny209 := Aside0.mk hy209
                clear hy209
                replace H := Option.bind_eq_some_iff.mp H
                obtain ⟨t212, A320, H⟩ := H
                replace H : (if (strOfNums y209).size + t212.size ≤ 9223372036854775807 then (if ((strOfNums y209) ++ t212).size + a0.size ≤ 9223372036854775807 then (some (((strOfNums y209) ++ t212) ++ a0)) else (none)) else (none)) = some r := H
                have A32 := Aside0.mk A320
                clear A320
                by_cases c33 : (strOfNums y209).size + t212.size ≤ 9223372036854775807
                · rw [if_pos c33] at H
                  have c33b0 := eq_true c33
                  have c33b1 : decide ((strOfNums y209).size + t212.size ≤ 9223372036854775807) = true := decide_eq_true c33
                  try have c33b2 : (9223372036854775807 < (strOfNums y209).size + t212.size) = False := eq_false (Nat.not_lt.2 c33)
                  by_cases c34 : ((strOfNums y209) ++ t212).size + a0.size ≤ 9223372036854775807
                  · rw [if_pos c34] at H
                    have c34b0 := eq_true c34
                    have c34b1 : decide (((strOfNums y209) ++ t212).size + a0.size ≤ 9223372036854775807) = true := decide_eq_true c34
                    try have c34b2 : (9223372036854775807 < ((strOfNums y209) ++ t212).size + a0.size) = False := eq_false (Nat.not_lt.2 c34)
                    try (have c34b3 := c34b2; rw [ByteArray.size_append] at c34b3)
                    obtain rfl := Option.some.inj H
                    obtain ⟨Ao35, co35, eo35⟩ := Kd.R_slice HO_6.out
                    subst eo35
                    try go_wp2_with (first | ((with_reducible refine gate_dst (N := 27) rfl ?_); refine Kd.R_lit (Kd.int .u8) _ 5 ?hg (N := 27) ?hd (xs := ([(Go.bits .and .i64 x7_1 127) % 256] : List Int)) (inner := [.int .u8 ((Go.bits .and .i64 x7_1 127) % 256)]) (ok := fun _ => True) (okp := fun _ => True) ?hr ?hp (fun _ hk => hk) trivial (Below.refl _ _) (Nat.le_refl _) (by simp) ?_; (case hd => rfl); (case hg => rfl); (case hr => first | (go_simp; done) | (go_simp; rfl)); (case hp => exact (Reps.one (show Kd.M (Kd.int .u8) _ _ _ ((Go.bits .and .i64 x7_1 127) % 256) [.int .u8 ((Go.bits .and .i64 x7_1 127) % 256)] from rfl) (Reps.none _ _))); intro v201 w36 ho37 hb hg_ hnew_; clear hg_ hnew_; (first | rw [← Ny200.out] at ho37 | (simp only [Int.reduceToNat] at ho37; rw [← Ny200.out] at ho37)); have n0_ := Aside0.mk (Kd.R_elder' (by (with_reducible repeat (first | apply Kd.R_alloc | apply Kd.R_drewN | apply Kd.R_drew)); exact HO_6.out) (Kd.R_base ho37) hb); have n1_ := Aside0.mk (Kd.R_lower (Kd.R_new' ho37 (Kd.R_lt (by (with_reducible repeat (first | apply Kd.R_alloc | apply Kd.R_drewN | apply Kd.R_drew)); exact HO_6.out))) (below_size (by repeat (first | (with_reducible first | exact HB.out | apply below_alloc | apply pw_below_drewN | apply below_drew1) | exact HB.out)))); have n2_ := Aside0.mk (below_step (by repeat (first | (with_reducible first | exact HB.out | apply below_alloc | apply pw_below_drewN | apply below_drew1) | exact HB.out)) hb); clear HO_6; clear HB; have HO_6 := n0_; have HO202 := n1_; have HB := n2_; clear n0_ n1_ n2_; clear hb ho37) | ((with_reducible refine gate_builtin (b := .append) (xs := #[.tmp 27, .tmp 28]) rfl ?_); at_builtin; refine Kd.R_append_rows (Kd.int .u8) (w0 := w) w.heap.size rfl (.tmp 27) (.tmp 28) 25 5 (.int .u8 0) 1 rfl Try.underlying25 info5 rfl (by decide) (by omega) v201 y200 x6_1 _ _ _ (fun k_ => some k_ ≠ (.slice Ao35 x6_1.length co35 : Value).ownBlock) (fun _ => False) rfl rfl ?aO ?aR (fun _ _ h => h) (fun _ h => h.elim) ?aF ?aB ?aS ?aL ?_; (case aR => repeat (first | exact (Kd.R_reads' HO_6.out).2.2 | (with_reducible refine Kd.C_alloc ?_ _) | (with_reducible refine Kd.C_drewN ?_ _) | (with_reducible refine Kd.C_drew ?_))); (case aB => exact (by repeat (first | (with_reducible first | exact HB.out | apply below_alloc | apply pw_below_drewN | apply below_drew1) | exact HB.out))); (case aF => exact (fun k_ hk => Kd.fresh' (Kd.R_lt (by (with_reducible repeat (first | apply Kd.R_alloc | apply Kd.R_drewN | apply Kd.R_drew)); exact HO_6.out)) k_ hk)); (case aO => exact (by (with_reducible repeat (first | apply Kd.R_alloc | apply Kd.R_drewN | apply Kd.R_drew)); exact Kd.R_mono HO202.out (fun _ hk => hk.2))); (case aS => exact (below_size (by repeat (first | (with_reducible first | exact HB.out | apply below_alloc | apply pw_below_drewN | apply below_drew1) | exact HB.out)))); (case aL => have := LMc29.out; omega); intro v204 w38 ho hb hg hat; rw [← Ny203.out] at ho; have n0_ := Aside0.mk (Kd.R_after (ok := (fun _ => True)) (by (with_reducible repeat (first | apply Kd.R_alloc | apply Kd.R_drewN | apply Kd.R_drew)); exact HO_6.out) hg hat); have n1_ := Aside0.mk (hb); have n2_ := Aside0.mk (ho); clear HO_6; clear HB; clear HO202; have HO_6 := n0_; have HB := n1_; have HO205 := n2_; clear n0_ n1_ n2_; clear ho hb hg hat) | ((with_reducible refine gate_dst (N := 32) rfl ?_); refine Kd.R_lit (Kd.int .u8) _ 5 ?hg (N := 32) ?hd (xs := ([127] : List Int)) (inner := [.int .u8 127]) (ok := fun _ => True) (okp := fun _ => True) ?hr ?hp (fun _ hk => hk) trivial (Below.refl _ _) (Nat.le_refl _) (by simp) ?_; (case hd => rfl); (case hg => rfl); (case hr => first | (go_simp; done) | (go_simp; rfl)); (case hp => exact (Reps.one (show Kd.M (Kd.int .u8) _ _ _ 127 [.int .u8 127] from rfl) (Reps.none _ _))); intro v207 w39 ho40 hb hg_ hnew_; clear hg_ hnew_; (first | rw [← Ny206.out] at ho40 | (simp only [Int.reduceToNat] at ho40; rw [← Ny206.out] at ho40)); have n0_ := Aside0.mk (Kd.R_elder' (by (with_reducible repeat (first | apply Kd.R_alloc | apply Kd.R_drewN | apply Kd.R_drew)); exact HO_6.out) (Kd.R_base ho40) hb); have n1_ := Aside0.mk (Kd.R_elder' (by (with_reducible repeat (first | apply Kd.R_alloc | apply Kd.R_drewN | apply Kd.R_drew)); exact HO205.out) (Kd.R_base ho40) hb); have n2_ := Aside0.mk (Kd.R_lower (Kd.R_new' (Kd.R_new' ho40 (Kd.R_lt (by (with_reducible repeat (first | apply Kd.R_alloc | apply Kd.R_drewN | apply Kd.R_drew)); exact HO_6.out))) (Kd.R_lt (by (with_reducible repeat (first | apply Kd.R_alloc | apply Kd.R_drewN | apply Kd.R_drew)); exact HO205.out))) (below_size (by repeat (first | (with_reducible first | exact HB.out | apply below_alloc | apply pw_below_drewN | apply below_drew1) | exact HB.out)))); have n3_ := Aside0.mk (below_step (by repeat (first | (with_reducible first | exact HB.out | apply below_alloc | apply pw_below_drewN | apply below_drew1) | exact HB.out)) hb); clear HO_6; clear HO205; clear HB; have HO_6 := n0_; have HO205 := n1_; have HO208 := n2_; have HB := n3_; clear n0_ n1_ n2_ n3_; clear hb ho40; obtain ⟨Ao42, co42, eo42⟩ := Kd.R_slice HO205.out; subst eo42) | ((with_reducible refine gate_builtin (b := .append) (xs := #[.tmp 32, .tmp 33]) rfl ?_); at_builtin; refine Kd.R_append_rows (Kd.int .u8) (w0 := w) w.heap.size rfl (.tmp 32) (.tmp 33) 25 5 (.int .u8 0) 1 rfl Try.underlying25 info5 rfl (by decide) (by omega) v207 y206 y203 _ _ _ (fun k_ => some k_ ≠ (.slice Ao35 x6_1.length co35 : Value).ownBlock ∧ some k_ ≠ (.slice Ao42 y203.length co42 : Value).ownBlock) (fun _ => False) rfl rfl ?aO ?aR (fun _ _ h => h) (fun _ h => h.elim) ?aF ?aB ?aS ?aL ?_; (case aR => repeat (first | exact (Kd.R_reads' HO205.out).2.2 | (with_reducible refine Kd.C_alloc ?_ _) | (with_reducible refine Kd.C_drewN ?_ _) | (with_reducible refine Kd.C_drew ?_))); (case aB => exact (by repeat (first | (with_reducible first | exact HB.out | apply below_alloc | apply pw_below_drewN | apply below_drew1) | exact HB.out))); (case aF => exact (fun k_ hk => ⟨Kd.fresh' (Kd.R_lt (by (with_reducible repeat (first | apply Kd.R_alloc | apply Kd.R_drewN | apply Kd.R_drew)); exact HO_6.out)) k_ hk, Kd.fresh' (Kd.R_lt (by (with_reducible repeat (first | apply Kd.R_alloc | apply Kd.R_drewN | apply Kd.R_drew)); exact HO205.out)) k_ hk⟩)); (case aO => exact (by (with_reducible repeat (first | apply Kd.R_alloc | apply Kd.R_drewN | apply Kd.R_drew)); exact Kd.R_mono HO208.out (fun _ hk => ⟨hk.1.2, hk.2⟩))); (case aS => exact (below_size (by repeat (first | (with_reducible first | exact HB.out | apply below_alloc | apply pw_below_drewN | apply below_drew1) | exact HB.out)))); (case aL => have := LMc31.out; omega); intro v210 w41 ho hb hg hat; rw [← Ny209.out] at ho; have n0_ := Aside0.mk (Kd.R_after (ok := (fun k_ => some k_ ≠ (.slice Ao42 y203.length co42 : Value).ownBlock)) (by (with_reducible repeat (first | apply Kd.R_alloc | apply Kd.R_drewN | apply Kd.R_drew)); exact Kd.R_mono HO_6.out (fun _ hk => ⟨hk.1.2, hk.2⟩)) hg hat); have n1_ := Aside0.mk (Kd.R_after (ok := (fun k_ => some k_ ≠ (.slice Ao35 x6_1.length co35 : Value).ownBlock)) (by (with_reducible repeat (first | apply Kd.R_alloc | apply Kd.R_drewN | apply Kd.R_drew)); exact HO205.out) hg hat); have n2_ := Aside0.mk (hb); have n3_ := Aside0.mk (ho); clear HO_6; clear HO205; clear HB; clear HO208; have HO_6 := n0_; have HO205 := n1_; have HB := n2_; have HO211 := n3_; clear n0_ n1_ n2_ n3_; clear ho hb hg hat))
                    have n0_ := Aside0.mk (Kd.R_drew HO_6.out)
                    have n1_ := Aside0.mk (Kd.R_drew HO205.out)
                    have n2_ := Aside0.mk (Kd.R_drew HO211.out)
                    have n3_ := Aside0.mk (below_drew1 HB.out)
                    clear HO_6
                    clear HO205
                    clear HO211
                    clear HB
                    have HO_6 := n0_
                    have HO205 := n1_
                    have HO211 := n2_
                    have HB := n3_
                    clear n0_ n1_ n2_ n3_
                    refine start_ (n := 9) (S := fun w' => (convert 25 9 v210).run Try.prog w' = .ok (.string (strOfNums y209)) w') (ds := []) #[false, false, false, false, false, false, false, false, false] (by kernel_rfl) rfl rfl (own_string (P := Try.prog) Try.underlying25 Try.underlying5 Try.underlying9 (Kd.own_of_R HO211.out)) (fun hHeld => ?_); refine with_tabW spec_AppTagged.tab12 spec_AppTagged.bits12 (fun HT_ HW_ => ?_)
                    generalize w41.drew = w43 at HO_6 HO205 HO211 HB hHeld ⊢
                    refine pure_ (i := 0) (N := some 35) (v := ?_) (a' := ?_) #[true, false, false, false, false, false, false, false, false] rfl rfl (any_of HT_.out (by kernel_rfl)) (fun _ _ _ h => h) (Or.inl ⟨by rfl, ?_⟩) ?_ ?_
                    rotate_left
                    · intro w'
                      go_simp
                      with_reducible rfl
                    rotate_left
                    · simp only [Act.put, List.setIfInBounds_toArray, List.set_cons_zero, List.set_cons_succ, i64_w, i32_w]
                      rfl
                    refine take_ (i := 1) (N := some 36) (v := ?_) (a' := ?_) #[true, true, false, false, false, false, false, false, false] rfl rfl (take_of HT_.out (by kernel_rfl)) (fun _ _ _ h => h) (Or.inl ⟨by rfl, ?_⟩) hHeld ?_ ?_
                    rotate_left
                    · intro w' s0
                      go_simp
                      with_reducible rfl
                    rotate_left
                    · simp only [Act.put, List.setIfInBounds_toArray, List.set_cons_zero, List.set_cons_succ, i64_w, i32_w]
                      rfl
                    refine pure_ (i := 2) (N := some 37) (v := ?_) (a' := ?_) #[true, true, true, false, false, false, false, false, false] rfl rfl (any_of HT_.out (by kernel_rfl)) (fun _ _ _ h => h) (Or.inl ⟨by rfl, ?_⟩) ?_ ?_
                    rotate_left
                    · intro w'
                      go_simp
                      with_reducible rfl
                    rotate_left
                    · simp only [Act.put, List.setIfInBounds_toArray, List.set_cons_zero, List.set_cons_succ, i64_w, i32_w]
                      rfl
                    refine pure_ (i := 3) (N := some 38) (v := ?_) (a' := ?_) #[true, true, true, true, false, false, false, false, false] rfl rfl (any_of HT_.out (by kernel_rfl)) (fun _ _ _ h => h) (Or.inl ⟨by rfl, ?_⟩) ?_ ?_
                    rotate_left
                    · intro w'
                      go_simp
                      with_reducible rfl
                    rotate_left
                    · simp only [Act.put, List.setIfInBounds_toArray, List.set_cons_zero, List.set_cons_succ, i64_w, i32_w]
                      rfl
                    refine pure_ (i := 6) (N := some 41) (v := ?_) (a' := ?_) #[true, true, true, true, false, false, true, false, false] rfl rfl (any_of HT_.out (by kernel_rfl)) (fun _ _ _ h => h) (Or.inl ⟨by rfl, ?_⟩) ?_ ?_
                    rotate_left
                    · intro w'
                      go_simp
                      with_reducible rfl
                    rotate_left
                    · simp only [Act.put, List.setIfInBounds_toArray, List.set_cons_zero, List.set_cons_succ, i64_w, i32_w]
                      rfl
                    refine one_ (i := 4) (N := some 39) #[true, true, true, true, true, false, true, false, false] rfl rfl (one_of HT_.out (by kernel_rfl)) (by decide) (fun K hK => ?_)
                    refine goes_ Try.func10 (by kernel_rfl) rfl #[.int .i64 (a0.size : Int)] (by rfl) rfl rfl (by (try simp only [List.map_toArray, List.map_cons, List.map_nil]); first | done | rfl | (simp only [List.length_drop, List.length_take]; rfl)) ?_
                    with_reducible refine (spec_DERLength.calls k1 (a0.size : Int) t212 _ A32.out).mono ?_
                    rintro e w45 ⟨rfl, hb⟩
                    refine ⟨_, rfl, ?_⟩
                    have n0_ := Aside0.mk (Kd.R_below (by (with_reducible repeat (first | apply Kd.R_alloc | apply Kd.R_drewN | apply Kd.R_drew)); exact HO_6.out) hb)
                    have n1_ := Aside0.mk (Kd.R_below (by (with_reducible repeat (first | apply Kd.R_alloc | apply Kd.R_drewN | apply Kd.R_drew)); exact HO205.out) hb)
                    have n2_ := Aside0.mk (Kd.R_below (by (with_reducible repeat (first | apply Kd.R_alloc | apply Kd.R_drewN | apply Kd.R_drew)); exact HO211.out) hb)
                    have n3_ := Aside0.mk (below_step (by repeat (first | (with_reducible first | exact HB.out | apply below_alloc | apply pw_below_drewN | apply below_drew1) | exact HB.out)) hb)
                    clear HO_6
                    clear HO205
                    clear HO211
                    clear HB
                    have HO_6 := n0_
                    have HO205 := n1_
                    have HO211 := n2_
                    have HB := n3_
                    clear n0_ n1_ n2_ n3_
                    (try clear hb)
                    (try clear hb2)
                    (try clear hk)
                    (try clear hi)
                    refine hK.out _ _ (own_string (P := Try.prog) Try.underlying25 Try.underlying5 Try.underlying9 (Kd.own_of_R HO211.out)) (fun hHeld => ?_)
                    clear hK K
                    refine norm_ (a' := ?_) ?_ ?_
                    rotate_left
                    · show Act.put _ (some 39) _ = _
                      simp only [Act.put, List.setIfInBounds_toArray, List.set_cons_zero, List.set_cons_succ, i64_w, i32_w]
                      rfl
                    refine pure_ (i := 5) (N := some 40) (v := ?_) (a' := ?_) #[true, true, true, true, true, true, true, false, false] rfl rfl (any_of HT_.out (by kernel_rfl)) (fun _ _ _ h => h) (Or.inl ⟨by rfl, ?_⟩) ?_ ?_
                    rotate_left
                    · intro w'
                      go_simp
                      with_reducible rfl
                    rotate_left
                    · simp only [Act.put, List.setIfInBounds_toArray, List.set_cons_zero, List.set_cons_succ, i64_w, i32_w]
                      rfl
                    refine pure_ (i := 7) (N := some 42) (v := ?_) (a' := ?_) #[true, true, true, true, true, true, true, true, false] rfl rfl (any_of HT_.out (by kernel_rfl)) (fun _ _ _ h => h) (Or.inl ⟨by rfl, ?_⟩) ?_ ?_
                    rotate_left
                    · intro w'
                      go_simp
                      with_reducible rfl
                    rotate_left
                    · simp only [Act.put, List.setIfInBounds_toArray, List.set_cons_zero, List.set_cons_succ, i64_w, i32_w]
                      rfl
                    refine pure_ (i := 8) (N := some 4) (v := ?_) (a' := ?_) #[true, true, true, true, true, true, true, true, true] rfl rfl (any_of HT_.out (by kernel_rfl)) (fun _ _ _ h => h) (Or.inl ⟨by rfl, ?_⟩) ?_ ?_
                    rotate_left
                    · intro w'
                      go_simp
                      with_reducible rfl
                    rotate_left
                    · simp only [Act.put, List.setIfInBounds_toArray, List.set_cons_zero, List.set_cons_succ, i64_w, i32_w]
                      rfl
                    refine done_ (done_of HT_.out (by kernel_rfl)) ?_
                    try go_wp2
                    go_ret
                    exact ⟨by first | rfl | (simp [errW_none, errW_some] <;> rfl) | (simp [*, errW_none, errW_some] <;> rfl), by repeat (first | (with_reducible first | exact HB.out | apply below_alloc | apply pw_below_drewN | apply below_drew1) | exact HB.out)⟩
                  · rw [if_neg c34] at H
                    exact absurd H (by simp)
                · rw [if_neg c33] at H
                  exact absurd H (by simp)
              · rw [if_neg c31] at H
                exact absurd H (by simp)
            · rw [if_neg c30] at H
              have c30b0 : decide (x7_1 < 128) = false := decide_eq_false c30
              clear c30
              have H' := Aside0.mk H
              clear H
              obtain ⟨Ao47, co47, eo47⟩ := Kd.R_slice HO_6.out
              subst eo47
              go_wp2_with (first | ((with_reducible refine gate_dst (N := 27) rfl ?_); refine Kd.R_lit (Kd.int .u8) _ 5 ?hg (N := 27) ?hd (xs := ([(Go.bits .and .i64 x7_1 127) % 256] : List Int)) (inner := [.int .u8 ((Go.bits .and .i64 x7_1 127) % 256)]) (ok := fun _ => True) (okp := fun _ => True) ?hr ?hp (fun _ hk => hk) trivial (Below.refl _ _) (Nat.le_refl _) (by simp) ?_; (case hd => rfl); (case hg => rfl); (case hr => first | (go_simp; done) | (go_simp; rfl)); (case hp => exact (Reps.one (show Kd.M (Kd.int .u8) _ _ _ ((Go.bits .and .i64 x7_1 127) % 256) [.int .u8 ((Go.bits .and .i64 x7_1 127) % 256)] from rfl) (Reps.none _ _))); intro v201 w48 ho49 hb hg_ hnew_; clear hg_ hnew_; (first | rw [← Ny200.out] at ho49 | (simp only [Int.reduceToNat] at ho49; rw [← Ny200.out] at ho49)); have n0_ := Aside0.mk (Kd.R_elder' (by (with_reducible repeat (first | apply Kd.R_alloc | apply Kd.R_drewN | apply Kd.R_drew)); exact HO_6.out) (Kd.R_base ho49) hb); have n1_ := Aside0.mk (Kd.R_lower (Kd.R_new' ho49 (Kd.R_lt (by (with_reducible repeat (first | apply Kd.R_alloc | apply Kd.R_drewN | apply Kd.R_drew)); exact HO_6.out))) (below_size (by repeat (first | (with_reducible first | exact HB.out | apply below_alloc | apply pw_below_drewN | apply below_drew1) | exact HB.out)))); have n2_ := Aside0.mk (below_step (by repeat (first | (with_reducible first | exact HB.out | apply below_alloc | apply pw_below_drewN | apply below_drew1) | exact HB.out)) hb); clear HO_6; clear HB; have HO_6 := n0_; have HO202 := n1_; have HB := n2_; clear n0_ n1_ n2_; clear hb ho49) | ((with_reducible refine gate_builtin (b := .append) (xs := #[.tmp 27, .tmp 28]) rfl ?_); at_builtin; refine Kd.R_append_rows (Kd.int .u8) (w0 := w) w.heap.size rfl (.tmp 27) (.tmp 28) 25 5 (.int .u8 0) 1 rfl Try.underlying25 info5 rfl (by decide) (by omega) v201 y200 x6_1 _ _ _ (fun k_ => some k_ ≠ (.slice Ao47 x6_1.length co47 : Value).ownBlock) (fun _ => False) rfl rfl ?aO ?aR (fun _ _ h => h) (fun _ h => h.elim) ?aF ?aB ?aS ?aL ?_; (case aR => repeat (first | exact (Kd.R_reads' HO_6.out).2.2 | (with_reducible refine Kd.C_alloc ?_ _) | (with_reducible refine Kd.C_drewN ?_ _) | (with_reducible refine Kd.C_drew ?_))); (case aB => exact (by repeat (first | (with_reducible first | exact HB.out | apply below_alloc | apply pw_below_drewN | apply below_drew1) | exact HB.out))); (case aF => exact (fun k_ hk => Kd.fresh' (Kd.R_lt (by (with_reducible repeat (first | apply Kd.R_alloc | apply Kd.R_drewN | apply Kd.R_drew)); exact HO_6.out)) k_ hk)); (case aO => exact (by (with_reducible repeat (first | apply Kd.R_alloc | apply Kd.R_drewN | apply Kd.R_drew)); exact Kd.R_mono HO202.out (fun _ hk => hk.2))); (case aS => exact (below_size (by repeat (first | (with_reducible first | exact HB.out | apply below_alloc | apply pw_below_drewN | apply below_drew1) | exact HB.out)))); (case aL => have := LMc29.out; omega); intro v204 w50 ho hb hg hat; rw [← Ny203.out] at ho; have n0_ := Aside0.mk (Kd.R_after (ok := (fun _ => True)) (by (with_reducible repeat (first | apply Kd.R_alloc | apply Kd.R_drewN | apply Kd.R_drew)); exact HO_6.out) hg hat); have n1_ := Aside0.mk (hb); have n2_ := Aside0.mk (ho); clear HO_6; clear HB; clear HO202; have HO_6 := n0_; have HB := n1_; have HO205 := n2_; clear n0_ n1_ n2_; clear ho hb hg hat))
              go_roundg k1
              case measure => have := HK1.out; omega
              case rel => exact ⟨(y203), (x7_1 / 128), (by first | rfl | (simp; done) | (simp [*]; done)), H', ⟨by have := HK1.out; omega⟩, ⟨by (with_reducible repeat (first | apply Kd.R_alloc | apply Kd.R_drewN | apply Kd.R_drew)); exact Kd.R_mono HO205.out (fun _ hk => trivial)⟩, ⟨by repeat (first | (with_reducible first | exact HB.out | apply below_alloc | apply pw_below_drewN | apply below_drew1) | exact HB.out)⟩⟩
          · rw [if_neg c29] at H
            exact absurd H (by simp)
  · rw [if_neg c3] at H
    have c3b0 : decide (30 < a1) = false := decide_eq_false c3
    clear c3
    replace H := Option.bind_eq_some_iff.mp H
    obtain ⟨t213, A510, H⟩ := H
    replace H : (if (strOfNums y184).size + t213.size ≤ 9223372036854775807 then (if ((strOfNums y184) ++ t213).size + a0.size ≤ 9223372036854775807 then (some (((strOfNums y184) ++ t213) ++ a0)) else (none)) else (none)) = some r := H
    have A51 := Aside0.mk A510
    clear A510
    by_cases c52 : (strOfNums y184).size + t213.size ≤ 9223372036854775807
    · rw [if_pos c52] at H
      have c52b0 := eq_true c52
      have c52b1 : decide ((strOfNums y184).size + t213.size ≤ 9223372036854775807) = true := decide_eq_true c52
      try have c52b2 : (9223372036854775807 < (strOfNums y184).size + t213.size) = False := eq_false (Nat.not_lt.2 c52)
      by_cases c53 : ((strOfNums y184) ++ t213).size + a0.size ≤ 9223372036854775807
      · rw [if_pos c53] at H
        have c53b0 := eq_true c53
        have c53b1 : decide (((strOfNums y184) ++ t213).size + a0.size ≤ 9223372036854775807) = true := decide_eq_true c53
        try have c53b2 : (9223372036854775807 < ((strOfNums y184) ++ t213).size + a0.size) = False := eq_false (Nat.not_lt.2 c53)
        try (have c53b3 := c53b2; rw [ByteArray.size_append] at c53b3)
        obtain rfl := Option.some.inj H
        go_enter Try.func24, Try.ntmps24
        try go_wp2_with (first | ((with_reducible refine gate_dst (N := 12) rfl ?_); refine Kd.R_lit (Kd.int .u8) _ 5 ?hg (N := 12) ?hd (xs := ([(Go.bits .or .i64 96 a1) % 256] : List Int)) (inner := [.int .u8 ((Go.bits .or .i64 96 a1) % 256)]) (ok := fun _ => True) (okp := fun _ => True) ?hr ?hp (fun _ hk => hk) trivial (Below.refl _ _) (Nat.le_refl _) (by simp) ?_; (case hd => rfl); (case hg => rfl); (case hr => first | (go_simp; done) | (go_simp; rfl)); (case hp => exact (Reps.one (show Kd.M (Kd.int .u8) _ _ _ ((Go.bits .or .i64 96 a1) % 256) [.int .u8 ((Go.bits .or .i64 96 a1) % 256)] from rfl) (Reps.none _ _))); intro v185 w54 ho55 hb hg_ hnew_; clear hg_ hnew_; (first | rw [← Ny184.out] at ho55 | (simp only [Int.reduceToNat] at ho55; rw [← Ny184.out] at ho55)); have n0_ := Aside0.mk (Kd.R_lower ho55 (below_size (by repeat (first | (with_reducible first | exact HB.out | apply below_alloc | apply pw_below_drewN | apply below_drew1) | exact HB.out)))); have n1_ := Aside0.mk (below_step (by repeat (first | (with_reducible first | exact HB.out | apply below_alloc | apply pw_below_drewN | apply below_drew1) | exact HB.out)) hb); clear HB; have HO186 := n0_; have HB := n1_; clear n0_ n1_; clear hb ho55))
        have n0_ := Aside0.mk (Kd.R_drew HO186.out)
        have n1_ := Aside0.mk (below_drew1 HB.out)
        clear HO186
        clear HB
        have HO186 := n0_
        have HB := n1_
        clear n0_ n1_
        refine start_ (n := 9) (S := fun w' => (convert 25 9 v185).run Try.prog w' = .ok (.string (strOfNums y184)) w') (ds := []) #[false, false, false, false, false, false, false, false, false] (by kernel_rfl) rfl rfl (own_string (P := Try.prog) Try.underlying25 Try.underlying5 Try.underlying9 (Kd.own_of_R HO186.out)) (fun hHeld => ?_); refine with_tabW spec_AppTagged.tab12 spec_AppTagged.bits12 (fun HT_ HW_ => ?_)
        generalize w54.drew = w56 at HO186 HB hHeld ⊢
        refine pure_ (i := 0) (N := some 35) (v := ?_) (a' := ?_) #[true, false, false, false, false, false, false, false, false] rfl rfl (any_of HT_.out (by kernel_rfl)) (fun _ _ _ h => h) (Or.inl ⟨by rfl, ?_⟩) ?_ ?_
        rotate_left
        · intro w'
          go_simp
          with_reducible rfl
        rotate_left
        · simp only [Act.put, List.setIfInBounds_toArray, List.set_cons_zero, List.set_cons_succ, i64_w, i32_w]
          rfl
        refine take_ (i := 1) (N := some 36) (v := ?_) (a' := ?_) #[true, true, false, false, false, false, false, false, false] rfl rfl (take_of HT_.out (by kernel_rfl)) (fun _ _ _ h => h) (Or.inl ⟨by rfl, ?_⟩) hHeld ?_ ?_
        rotate_left
        · intro w' s0
          go_simp
          with_reducible rfl
        rotate_left
        · simp only [Act.put, List.setIfInBounds_toArray, List.set_cons_zero, List.set_cons_succ, i64_w, i32_w]
          rfl
        refine pure_ (i := 2) (N := some 37) (v := ?_) (a' := ?_) #[true, true, true, false, false, false, false, false, false] rfl rfl (any_of HT_.out (by kernel_rfl)) (fun _ _ _ h => h) (Or.inl ⟨by rfl, ?_⟩) ?_ ?_
        rotate_left
        · intro w'
          go_simp
          with_reducible rfl
        rotate_left
        · simp only [Act.put, List.setIfInBounds_toArray, List.set_cons_zero, List.set_cons_succ, i64_w, i32_w]
          rfl
        refine pure_ (i := 3) (N := some 38) (v := ?_) (a' := ?_) #[true, true, true, true, false, false, false, false, false] rfl rfl (any_of HT_.out (by kernel_rfl)) (fun _ _ _ h => h) (Or.inl ⟨by rfl, ?_⟩) ?_ ?_
        rotate_left
        · intro w'
          go_simp
          with_reducible rfl
        rotate_left
        · simp only [Act.put, List.setIfInBounds_toArray, List.set_cons_zero, List.set_cons_succ, i64_w, i32_w]
          rfl
        refine pure_ (i := 6) (N := some 41) (v := ?_) (a' := ?_) #[true, true, true, true, false, false, true, false, false] rfl rfl (any_of HT_.out (by kernel_rfl)) (fun _ _ _ h => h) (Or.inl ⟨by rfl, ?_⟩) ?_ ?_
        rotate_left
        · intro w'
          go_simp
          with_reducible rfl
        rotate_left
        · simp only [Act.put, List.setIfInBounds_toArray, List.set_cons_zero, List.set_cons_succ, i64_w, i32_w]
          rfl
        refine one_ (i := 4) (N := some 39) #[true, true, true, true, true, false, true, false, false] rfl rfl (one_of HT_.out (by kernel_rfl)) (by decide) (fun K hK => ?_)
        refine goes_ Try.func10 (by kernel_rfl) rfl #[.int .i64 (a0.size : Int)] (by rfl) rfl rfl (by (try simp only [List.map_toArray, List.map_cons, List.map_nil]); first | done | rfl | (simp only [List.length_drop, List.length_take]; rfl)) ?_
        with_reducible refine (spec_DERLength.calls k (a0.size : Int) t213 _ A51.out).mono ?_
        rintro e w58 ⟨rfl, hb⟩
        refine ⟨_, rfl, ?_⟩
        have n0_ := Aside0.mk (Kd.R_below (by (with_reducible repeat (first | apply Kd.R_alloc | apply Kd.R_drewN | apply Kd.R_drew)); exact HO186.out) hb)
        have n1_ := Aside0.mk (below_step (by repeat (first | (with_reducible first | exact HB.out | apply below_alloc | apply pw_below_drewN | apply below_drew1) | exact HB.out)) hb)
        clear HO186
        clear HB
        have HO186 := n0_
        have HB := n1_
        clear n0_ n1_
        (try clear hb)
        (try clear hb2)
        (try clear hk)
        (try clear hi)
        refine hK.out _ _ (own_string (P := Try.prog) Try.underlying25 Try.underlying5 Try.underlying9 (Kd.own_of_R HO186.out)) (fun hHeld => ?_)
        clear hK K
        refine norm_ (a' := ?_) ?_ ?_
        rotate_left
        · show Act.put _ (some 39) _ = _
          simp only [Act.put, List.setIfInBounds_toArray, List.set_cons_zero, List.set_cons_succ, i64_w, i32_w]
          rfl
        refine pure_ (i := 5) (N := some 40) (v := ?_) (a' := ?_) #[true, true, true, true, true, true, true, false, false] rfl rfl (any_of HT_.out (by kernel_rfl)) (fun _ _ _ h => h) (Or.inl ⟨by rfl, ?_⟩) ?_ ?_
        rotate_left
        · intro w'
          go_simp
          with_reducible rfl
        rotate_left
        · simp only [Act.put, List.setIfInBounds_toArray, List.set_cons_zero, List.set_cons_succ, i64_w, i32_w]
          rfl
        refine pure_ (i := 7) (N := some 42) (v := ?_) (a' := ?_) #[true, true, true, true, true, true, true, true, false] rfl rfl (any_of HT_.out (by kernel_rfl)) (fun _ _ _ h => h) (Or.inl ⟨by rfl, ?_⟩) ?_ ?_
        rotate_left
        · intro w'
          go_simp
          with_reducible rfl
        rotate_left
        · simp only [Act.put, List.setIfInBounds_toArray, List.set_cons_zero, List.set_cons_succ, i64_w, i32_w]
          rfl
        refine pure_ (i := 8) (N := some 4) (v := ?_) (a' := ?_) #[true, true, true, true, true, true, true, true, true] rfl rfl (any_of HT_.out (by kernel_rfl)) (fun _ _ _ h => h) (Or.inl ⟨by rfl, ?_⟩) ?_ ?_
        rotate_left
        · intro w'
          go_simp
          with_reducible rfl
        rotate_left
        · simp only [Act.put, List.setIfInBounds_toArray, List.set_cons_zero, List.set_cons_succ, i64_w, i32_w]
          rfl
        refine done_ (done_of HT_.out (by kernel_rfl)) ?_
        try go_wp2
        go_ret
        exact ⟨by first | rfl | (simp [errW_none, errW_some] <;> rfl) | (simp [*, errW_none, errW_some] <;> rfl), by repeat (first | (with_reducible first | exact HB.out | apply below_alloc | apply pw_below_drewN | apply below_drew1) | exact HB.out)⟩
      · rw [if_neg c53] at H
        exact absurd H (by simp)
    · rw [if_neg c52] at H
      exact absurd H (by simp)

end Go.Proofs.Ythgcpicflmigjaa.Q

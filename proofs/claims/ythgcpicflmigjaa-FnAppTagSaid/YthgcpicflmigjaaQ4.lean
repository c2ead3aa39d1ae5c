/- Go functions of this seat come to the answers of the Lean functions that stand here ('.calls'), under what each theorem states and nothing else. Written by pw.py, a program of this session, with texts of its own. -/
import Derived.Test.YthgcpicflmigjaaQ0
namespace Go.Proofs.Ythgcpicflmigjaa.Q
open Go.RowKit Go.Proofs.YthgcpicflmigjaaW.PrintWords Go.Proofs.YthgcpicflmigjaaW.PrintLast Go.Proofs.YthgcpicflmigjaaW.PrintMore
attribute [local go_sem] max2_int min2_int max_two min_two max_three min_three max_four min_four   -- for this text's walks alone
set_option linter.unusedVariables false
set_option linter.unusedSimpArgs false
set_option maxRecDepth 100000

/-! ### zzasn1_Marshal: function 65 -/
mutual
def zzasn1_Marshal.j0 : Nat → Int → Int → Int → Bool → List Int → Option (List Int × Option Int)
  | 0, _, _, _, _, _ => none
  | k + 1, x4, x129000, x129001, x129002, x129003 => if x129001 < 31 then (if ([] : List Int).length < 140737488355328 then (zzasn1_Marshal.j3 k (([] : List Int) ++ [Go.bits .or .u8 x4 ((x129001) % 256)]) x129000 x129001 x129002 x129003) else (none)) else (if ([] : List Int).length < 140737488355328 then (zzasn1_Marshal.l0 k (([] : List Int) ++ [Go.bits .or .u8 x4 31]) ([] : List Int) x129001 x129000 x129001 x129002 x129003) else (none))
def zzasn1_Marshal.j3 : Nat → List Int → Int → Int → Bool → List Int → Option (List Int × Option Int)
  | 0, _, _, _, _, _ => none
  | k + 1, x5, x129000, x129001, x129002, x129003 => if (x129003.length : Int) < 128 then (if x5.length < 140737488355328 then ((some (x5 ++ [((x129003.length : Int)) % 256] : List Int)).bind fun y146 => (if y146.length + x129003.length < 140737488355328 then (some ((y146 ++ x129003), none)) else (none))) else (none)) else (zzasn1_Marshal.l2 k x5 (x129003.length : Int) ([] : List Int) x129000 x129001 x129002 x129003)
def zzasn1_Marshal.l2 : Nat → List Int → Int → List Int → Int → Int → Bool → List Int → Option (List Int × Option Int)
  | 0, _, _, _, _, _, _, _ => none
  | k + 1, x5, x9, x10, x129000, x129001, x129002, x129003 => if x9 > 0 then ((some (([(x9) % 256] : List Int) : List Int)).bind fun y152 => (if y152.length + x10.length < 140737488355328 then (zzasn1_Marshal.l2 k x5 (x9 / 256) (y152 ++ x10) x129000 x129001 x129002 x129003) else (none))) else (if x5.length < 140737488355328 then ((some (x5 ++ [Go.bits .or .u8 128 (((x10.length : Int)) % 256)] : List Int)).bind fun y158 => (if y158.length + x10.length < 140737488355328 then ((some (y158 ++ x10 : List Int)).bind fun y161 => (if y161.length + x129003.length < 140737488355328 then (some ((y161 ++ x129003), none)) else (none))) else (none))) else (none))
def zzasn1_Marshal.l0 : Nat → List Int → List Int → Int → Int → Int → Bool → List Int → Option (List Int × Option Int)
  | 0, _, _, _, _, _, _, _ => none
  | k + 1, x5, x6, x7, x129000, x129001, x129002, x129003 => (some (([(Go.bits .and .i64 x7 127) % 256] : List Int) : List Int)).bind fun y135 => (if y135.length + x6.length < 140737488355328 then ((some (y135 ++ x6 : List Int)).bind fun y138 => (if (x7 / 128) = 0 then (zzasn1_Marshal.l1 k x5 y138 0 x129000 x129001 x129002 x129003) else (zzasn1_Marshal.l0 k x5 y138 (x7 / 128) x129000 x129001 x129002 x129003))) else (none))
def zzasn1_Marshal.l1 : Nat → List Int → List Int → Int → Int → Int → Bool → List Int → Option (List Int × Option Int)
  | 0, _, _, _, _, _, _, _ => none
  | k + 1, x5, x6, x8, x129000, x129001, x129002, x129003 => if x8 < (wrap64 ((x6.length : Int) - 1)) then (if 0 ≤ x8 then (if x8 < (x6.length : Int) then (zzasn1_Marshal.l1 k x5 (x6.set (x8 : Int).toNat (Go.bits .or .u8 (rd x6 x8) 128)) (wrap64 (x8 + 1)) x129000 x129001 x129002 x129003) else (none)) else (none)) else (if x5.length + x6.length < 140737488355328 then (zzasn1_Marshal.j3 k (x5 ++ x6) x129000 x129001 x129002 x129003) else (none))
end
def zzasn1_Marshal.f (k : Nat) (a0_0 : Int) (a0_1 : Int) (a0_2 : Bool) (l0_3 : List Int) : Option (List Int × Option Int) := if a0_2 = true then (zzasn1_Marshal.j0 k (Go.bits .or .u8 ((wrap64 (a0_0 * 64)) % 256) 32) a0_0 a0_1 a0_2 l0_3) else (zzasn1_Marshal.j0 k ((wrap64 (a0_0 * 64)) % 256) a0_0 a0_1 a0_2 l0_3)
set_option maxRecDepth 100000 in
theorem zzasn1_Marshal.mono_l : ∀ k, (∀ y0 y1 y2 y3 y4, LeO (zzasn1_Marshal.j0 k y0 y1 y2 y3 y4) (zzasn1_Marshal.j0 (k + 1) y0 y1 y2 y3 y4)) ∧ (∀ y0 y1 y2 y3 y4, LeO (zzasn1_Marshal.j3 k y0 y1 y2 y3 y4) (zzasn1_Marshal.j3 (k + 1) y0 y1 y2 y3 y4)) ∧ (∀ y0 y1 y2 y3 y4 y5 y6, LeO (zzasn1_Marshal.l2 k y0 y1 y2 y3 y4 y5 y6) (zzasn1_Marshal.l2 (k + 1) y0 y1 y2 y3 y4 y5 y6)) ∧ (∀ y0 y1 y2 y3 y4 y5 y6, LeO (zzasn1_Marshal.l0 k y0 y1 y2 y3 y4 y5 y6) (zzasn1_Marshal.l0 (k + 1) y0 y1 y2 y3 y4 y5 y6)) ∧ (∀ y0 y1 y2 y3 y4 y5 y6, LeO (zzasn1_Marshal.l1 k y0 y1 y2 y3 y4 y5 y6) (zzasn1_Marshal.l1 (k + 1) y0 y1 y2 y3 y4 y5 y6))
  | 0 => ⟨fun _ _ _ _ _ r h => by simp [zzasn1_Marshal.j0] at h, fun _ _ _ _ _ r h => by simp [zzasn1_Marshal.j3] at h, fun _ _ _ _ _ _ _ r h => by simp [zzasn1_Marshal.l2] at h, fun _ _ _ _ _ _ _ r h => by simp [zzasn1_Marshal.l0] at h, fun _ _ _ _ _ _ _ r h => by simp [zzasn1_Marshal.l1] at h⟩
  | k + 1 => by
    obtain ⟨ih0, ih1, ih2, ih3, ih4⟩ := zzasn1_Marshal.mono_l k
    refine ⟨?_, ?_, ?_, ?_, ?_⟩
    · intro y0 y1 y2 y3 y4
      unfold zzasn1_Marshal.j0
      repeat' first
      | (with_reducible exact ih0 _ _ _ _ _)
      | (with_reducible exact ih1 _ _ _ _ _)
      | (with_reducible exact ih2 _ _ _ _ _ _ _)
      | (with_reducible exact ih3 _ _ _ _ _ _ _)
      | (with_reducible exact ih4 _ _ _ _ _ _ _)
      | (with_reducible exact LeO.refl _)
      | (with_reducible exact LeO.none _)
      | (with_reducible refine LeO.ite ?_ ?_)
      | (with_reducible refine LeO.bind ?_ (fun _ => ?_))
      | exact ih0 _ _ _ _ _
      | exact ih1 _ _ _ _ _
      | exact ih2 _ _ _ _ _ _ _
      | exact ih3 _ _ _ _ _ _ _
      | exact ih4 _ _ _ _ _ _ _
      | exact LeO.none _
      | refine LeO.ite ?_ ?_
      | refine LeO.bind ?_ (fun _ => ?_)
    · intro y0 y1 y2 y3 y4
      unfold zzasn1_Marshal.j3
      repeat' first
      | (with_reducible exact ih0 _ _ _ _ _)
      | (with_reducible exact ih1 _ _ _ _ _)
      | (with_reducible exact ih2 _ _ _ _ _ _ _)
      | (with_reducible exact ih3 _ _ _ _ _ _ _)
      | (with_reducible exact ih4 _ _ _ _ _ _ _)
      | (with_reducible exact LeO.refl _)
      | (with_reducible exact LeO.none _)
      | (with_reducible refine LeO.ite ?_ ?_)
      | (with_reducible refine LeO.bind ?_ (fun _ => ?_))
      | exact ih0 _ _ _ _ _
      | exact ih1 _ _ _ _ _
      | exact ih2 _ _ _ _ _ _ _
      | exact ih3 _ _ _ _ _ _ _
      | exact ih4 _ _ _ _ _ _ _
      | exact LeO.none _
      | refine LeO.ite ?_ ?_
      | refine LeO.bind ?_ (fun _ => ?_)
    · intro y0 y1 y2 y3 y4 y5 y6
      unfold zzasn1_Marshal.l2
      repeat' first
      | (with_reducible exact ih0 _ _ _ _ _)
      | (with_reducible exact ih1 _ _ _ _ _)
      | (with_reducible exact ih2 _ _ _ _ _ _ _)
      | (with_reducible exact ih3 _ _ _ _ _ _ _)
      | (with_reducible exact ih4 _ _ _ _ _ _ _)
      | (with_reducible exact LeO.refl _)
      | (with_reducible exact LeO.none _)
      | (with_reducible refine LeO.ite ?_ ?_)
      | (with_reducible refine LeO.bind ?_ (fun _ => ?_))
      | exact ih0 _ _ _ _ _
      | exact ih1 _ _ _ _ _
      | exact ih2 _ _ _ _ _ _ _
      | exact ih3 _ _ _ _ _ _ _
      | exact ih4 _ _ _ _ _ _ _
      | exact LeO.none _
      | refine LeO.ite ?_ ?_
      | refine LeO.bind ?_ (fun _ => ?_)
    · intro y0 y1 y2 y3 y4 y5 y6
      unfold zzasn1_Marshal.l0
      repeat' first
      | (with_reducible exact ih0 _ _ _ _ _)
      | (with_reducible exact ih1 _ _ _ _ _)
      | (with_reducible exact ih2 _ _ _ _ _ _ _)
      | (with_reducible exact ih3 _ _ _ _ _ _ _)
      | (with_reducible exact ih4 _ _ _ _ _ _ _)
      | (with_reducible exact LeO.refl _)
      | (with_reducible exact LeO.none _)
      | (with_reducible refine LeO.ite ?_ ?_)
      | (with_reducible refine LeO.bind ?_ (fun _ => ?_))
      | exact ih0 _ _ _ _ _
      | exact ih1 _ _ _ _ _
      | exact ih2 _ _ _ _ _ _ _
      | exact ih3 _ _ _ _ _ _ _
      | exact ih4 _ _ _ _ _ _ _
      | exact LeO.none _
      | refine LeO.ite ?_ ?_
      | refine LeO.bind ?_ (fun _ => ?_)
    · intro y0 y1 y2 y3 y4 y5 y6
      unfold zzasn1_Marshal.l1
      repeat' first
      | (with_reducible exact ih0 _ _ _ _ _)
      | (with_reducible exact ih1 _ _ _ _ _)
      | (with_reducible exact ih2 _ _ _ _ _ _ _)
      | (with_reducible exact ih3 _ _ _ _ _ _ _)
      | (with_reducible exact ih4 _ _ _ _ _ _ _)
      | (with_reducible exact LeO.refl _)
      | (with_reducible exact LeO.none _)
      | (with_reducible refine LeO.ite ?_ ?_)
      | (with_reducible refine LeO.bind ?_ (fun _ => ?_))
      | exact ih0 _ _ _ _ _
      | exact ih1 _ _ _ _ _
      | exact ih2 _ _ _ _ _ _ _
      | exact ih3 _ _ _ _ _ _ _
      | exact ih4 _ _ _ _ _ _ _
      | exact LeO.none _
      | refine LeO.ite ?_ ?_
      | refine LeO.bind ?_ (fun _ => ?_)
set_option maxRecDepth 100000 in
theorem zzasn1_Marshal.mono : ∀ a0 a1 a2 a3 k, LeO (zzasn1_Marshal.f k a0 a1 a2 a3) (zzasn1_Marshal.f (k + 1) a0 a1 a2 a3) := by
  intro a0 a1 a2 a3 k
  obtain ⟨ih0, ih1, ih2, ih3, ih4⟩ := zzasn1_Marshal.mono_l k
  unfold zzasn1_Marshal.f
  repeat' first
      | (with_reducible exact ih0 _ _ _ _ _)
      | (with_reducible exact ih1 _ _ _ _ _)
      | (with_reducible exact ih2 _ _ _ _ _ _ _)
      | (with_reducible exact ih3 _ _ _ _ _ _ _)
      | (with_reducible exact ih4 _ _ _ _ _ _ _)
      | (with_reducible exact LeO.refl _)
      | (with_reducible exact LeO.none _)
      | (with_reducible refine LeO.ite ?_ ?_)
      | (with_reducible refine LeO.bind ?_ (fun _ => ?_))
      | exact ih0 _ _ _ _ _
      | exact ih1 _ _ _ _ _
      | exact ih2 _ _ _ _ _ _ _
      | exact ih3 _ _ _ _ _ _ _
      | exact ih4 _ _ _ _ _ _ _
      | exact LeO.none _
      | refine LeO.ite ?_ ?_
      | refine LeO.bind ?_ (fun _ => ?_)
set_option maxHeartbeats 8000000 in
set_option maxRecDepth 100000 in
theorem zzasn1_Marshal.calls (k : Nat) (a0_0 : Int) (a0_1 : Int) (a0_2 : Bool) (A0_3 : Option Addr) (c0_3 : Nat) (l0_3 : List Int) (r1 : List Int) (r2 : Option Int) (w : World) (hr0_3 : Kd.C (Kd.int .u8) w A0_3 l0_3.length l0_3) (hc0_3 : l0_3.length ≤ c0_3) (h : zzasn1_Marshal.f k a0_0 a0_1 a0_2 l0_3 = some (r1, r2)) :
    Calls Try.prog 65 #[.agg #[.int .i64 a0_0, .int .i64 a0_1, .bool a0_2, .slice A0_3 l0_3.length c0_3]] w fun e w' => ∃ v0_ : Value, e = .returned (.tuple #[v0_, errW r2]) ∧ Kd.R (Kd.int .u8) 5 w' w.heap.size (fun _ => True) v0_ r1 ∧ Below w.heap.size w w' := by
  have hu100 := Try.underlying100
  have HR0_3 := Aside0.mk hr0_3
  have HC0_3 := Aside0.mk hc0_3
  clear hr0_3 hc0_3
  have HB := Aside0.mk (Below.refl w.heap.size w)
  have H : (if a0_2 = true then (zzasn1_Marshal.j0 k (Go.bits .or .u8 ((wrap64 (a0_0 * 64)) % 256) 32) a0_0 a0_1 a0_2 l0_3) else (zzasn1_Marshal.j0 k ((wrap64 (a0_0 * 64)) % 256) a0_0 a0_1 a0_2 l0_3)) = some (r1, r2) := h
  clear h
  have HC2 := Aside0.mk H
  clear H
  go_enter Try.func65, Try.ntmps65
  go_upto_if 16 with (first | ((with_reducible refine gate_dst (N := 1) rfl ?_); refine box_event ?hg (N := 1) ?hd (cs := #[.int .i64 a0_0, .int .i64 a0_1, .bool a0_2, .slice A0_3 l0_3.length c0_3]) (t := 100) ?hr ?_; (case hd => rfl); (case hg => rfl); (case hr => first | (go_simp; done) | (go_simp; rfl)); intro gb128 hg w3 hbox hb; have n0_ := Aside0.mk (below_step (by repeat (first | (with_reducible first | exact HB.out | apply below_alloc | apply pw_below_drewN | apply below_drew1) | exact HB.out)) hb); have n1_ := Aside0.mk (hbox); have n2_ := Aside0.mk ((by rw [hg]; exact (below_size (by repeat (first | (with_reducible first | exact HB.out | apply below_alloc | apply pw_below_drewN | apply below_drew1) | exact HB.out))) : w.heap.size ≤ gb128)); have n3_ := Aside0.mk ((by rw [hg]; exact (below_size (by repeat (first | (with_reducible first | exact HB.out | apply below_alloc | apply pw_below_drewN | apply below_drew1) | exact HB.out))) : w.heap.size ≤ gb128)); clear HB; have HB := n0_; have BK128 := n1_; have GW128 := n2_; have GE128 := n3_; clear n0_ n1_ n2_ n3_; clear hb hbox hg; have hcz4_0 : w3.cell? ⟨gb128, 0, none⟩ = some (.int .i64 a0_0) := (blk_cell BK128.out 0).trans rfl; have hcz4_1 : w3.cell? ⟨gb128, 1, none⟩ = some (.int .i64 a0_1) := (blk_cell BK128.out 1).trans rfl; have hcz4_2 : w3.cell? ⟨gb128, 2, none⟩ = some (.bool a0_2) := (blk_cell BK128.out 2).trans rfl; have hcz4_3 : w3.cell? ⟨gb128, 3, none⟩ = some (.slice A0_3 l0_3.length c0_3) := (blk_cell BK128.out 3).trans rfl; have hfz4_0 := blk_frozen BK128.out 0; have hfz4_1 := blk_frozen BK128.out 1; have hfz4_2 := blk_frozen BK128.out 2; have hfz4_3 := blk_frozen BK128.out 3))
  (try simp only [Act.put, List.setIfInBounds_toArray, List.set_cons_zero, List.set_cons_succ])
  go_cut [4] (fun v4 wc => ∃ (kq : Nat) (x4_1 : Int), v4 = .int .u8 x4_1 ∧ Aside0 (zzasn1_Marshal.j0 kq x4_1 a0_0 a0_1 a0_2 l0_3 = some (r1, r2)) ∧ Aside0 (kq ≤ k) ∧ Aside0 (wc.heap[gb128]? = some (.cells #[.int .i64 a0_0, .int .i64 a0_1, .bool a0_2, (.slice A0_3 l0_3.length c0_3)] 100 (0, 0))) ∧ Aside0 (Below w.heap.size w wc))
  case first =>
    have H := HC2.out
    clear HC2
    by_cases c5 : a0_2 = true
    · subst c5
      have H1 : (zzasn1_Marshal.j0 k (Go.bits .or .u8 ((wrap64 (a0_0 * 64)) % 256) 32) a0_0 a0_1 true l0_3) = some (r1, r2) := by rw [if_pos rfl] at H; exact H
      clear H
      have H := H1
      clear H1
      have H' := Aside0.mk H
      clear H
      go_wp2
      go_meet
      case rel => exact ⟨_, (Go.bits .or .u8 ((wrap64 (a0_0 * 64)) % 256) 32), (by first | rfl | (simp; done) | (simp [*]; done)), H', ⟨by first | omega | exact Nat.le_refl _⟩, ⟨by (with_reducible repeat (first | refine blk_drewN ?_ _ | refine blk_drew ?_ | refine blk_alloc ?_ _)); exact BK128.out⟩, ⟨by repeat (first | (with_reducible first | exact HB.out | apply below_alloc | apply pw_below_drewN | apply below_drew1 | refine below_set ?_ GE128.out) | exact HB.out)⟩⟩
    · replace c5 := Bool.eq_false_iff.mpr c5
      subst c5
      have H1 : (zzasn1_Marshal.j0 k ((wrap64 (a0_0 * 64)) % 256) a0_0 a0_1 false l0_3) = some (r1, r2) := by rw [if_neg (show ¬ (false = true) by decide)] at H; exact H
      clear H
      have H := H1
      clear H1
      have H' := Aside0.mk H
      clear H
      go_wp2
      go_meet
      case rel => exact ⟨_, ((wrap64 (a0_0 * 64)) % 256), (by first | rfl | (simp; done) | (simp [*]; done)), H', ⟨by first | omega | exact Nat.le_refl _⟩, ⟨by (with_reducible repeat (first | refine blk_drewN ?_ _ | refine blk_drew ?_ | refine blk_alloc ?_ _)); exact BK128.out⟩, ⟨by repeat (first | (with_reducible first | exact HB.out | apply below_alloc | apply pw_below_drewN | apply below_drew1 | refine below_set ?_ GE128.out) | exact HB.out)⟩⟩
  case rest =>
    clear HC2
    try clear p2
    try clear c5
    try clear hcz4_0
    try clear hcz4_1
    try clear hcz4_2
    try clear hcz4_3
    try clear hfz4_0
    try clear hfz4_1
    try clear hfz4_2
    try clear hfz4_3
    obtain ⟨kq, x4_1, rfl, HA, HJ1, BK128, HB⟩ := hcut
    cases kq with
    | zero => exact absurd HA.out (by simp [zzasn1_Marshal.j0])
    | succ kj1 =>
      have H := HA.out
      clear HA
      simp only [zzasn1_Marshal.j0] at H
      have HC6 := Aside0.mk H
      clear H
      have hcz7_0 : wc.cell? ⟨gb128, 0, none⟩ = some (.int .i64 a0_0) := (blk_cell BK128.out 0).trans rfl
      have hcz7_1 : wc.cell? ⟨gb128, 1, none⟩ = some (.int .i64 a0_1) := (blk_cell BK128.out 1).trans rfl
      have hcz7_2 : wc.cell? ⟨gb128, 2, none⟩ = some (.bool a0_2) := (blk_cell BK128.out 2).trans rfl
      have hcz7_3 : wc.cell? ⟨gb128, 3, none⟩ = some (.slice A0_3 l0_3.length c0_3) := (blk_cell BK128.out 3).trans rfl
      have hfz7_0 := blk_frozen BK128.out 0
      have hfz7_1 := blk_frozen BK128.out 1
      have hfz7_2 := blk_frozen BK128.out 2
      have hfz7_3 := blk_frozen BK128.out 3
      go_upto_if 21 with (fail)
      go_cut [5] (fun v5 wc => ∃ (kq : Nat) (x5_5 : List Int), Aside0 (zzasn1_Marshal.j3 kq x5_5 a0_0 a0_1 a0_2 l0_3 = some (r1, r2)) ∧ Aside0 (kq ≤ kj1) ∧ Aside0 (Kd.R (Kd.int .u8) 5 wc w.heap.size (fun _ => True) v5 x5_5) ∧ Aside0 (wc.heap[gb128]? = some (.cells #[.int .i64 a0_0, .int .i64 a0_1, .bool a0_2, (.slice A0_3 l0_3.length c0_3)] 100 (0, 0))) ∧ Aside0 (Below w.heap.size w wc))
      case first =>
        have H := HC6.out
        clear HC6
        by_cases c8 : a0_1 < 31
        · rw [if_pos c8] at H
          have c8b0 : decide (a0_1 < 31) = true := decide_eq_true c8
          clear c8
          (first | rw [c8b0] | (simp only [i64_w, i32_w]; rw [c8b0]) | skip)
          by_cases c9 : ([] : List Int).length < 140737488355328
          · rw [if_pos c9] at H
            have LMc9 := Aside0.mk c9
            clear c9
            obtain ⟨y129, hy129⟩ : ∃ y_ : List Int, y_ = (([] : List Int) ++ [Go.bits .or .u8 x4_1 ((a0_1) % 256)]) := ⟨_, rfl⟩
            replace H : (zzasn1_Marshal.j3 kj1 y129 a0_0 a0_1 a0_2 l0_3) = some (r1, r2) := by first | (rw [hy129]; with_reducible exact H) | (have H2_ := (Option.bind_some _ _).symm.trans H; rw [hy129]; with_reducible exact H2_) | (have H2_ := (Option.bind_some _ _).symm.trans H; with_reducible exact H2_) | with_reducible exact H | (rw [hy129]; exact H) | exact H
            have Ny129 := Aside0.mk hy129
            clear hy129
            have H' := Aside0.mk H
            clear H
            have hcz10_0 : wc.cell? ⟨gb128, 0, none⟩ = some (.int .i64 a0_0) := (blk_cell BK128.out 0).trans rfl
            have hcz10_1 : wc.cell? ⟨gb128, 1, none⟩ = some (.int .i64 a0_1) := (blk_cell BK128.out 1).trans rfl
            have hcz10_2 : wc.cell? ⟨gb128, 2, none⟩ = some (.bool a0_2) := (blk_cell BK128.out 2).trans rfl
            have hcz10_3 : wc.cell? ⟨gb128, 3, none⟩ = some (.slice A0_3 l0_3.length c0_3) := (blk_cell BK128.out 3).trans rfl
            have hfz10_0 := blk_frozen BK128.out 0
            have hfz10_1 := blk_frozen BK128.out 1
            have hfz10_2 := blk_frozen BK128.out 2
            have hfz10_3 := blk_frozen BK128.out 3
            go_wp2_with (first | ((with_reducible refine gate_builtin (b := .append) (xs := #[.tmp 22, .tmp 28]) rfl ?_); at_builtin; refine Kd.R_append (Kd.int .u8) (w0 := w) w.heap.size rfl (.tmp 22) (.tmp 28) 25 5 (.int .u8 0) 1 rfl Try.underlying25 info5 rfl (by decide) (by omega) (.slice none 0 0) ([] : List Int) (Go.bits .or .u8 x4_1 ((a0_1) % 256)) [.int .u8 (Go.bits .or .u8 x4_1 ((a0_1) % 256))] (fun _ => True) (fun _ => False) rfl rfl ?aP (fun _ hk => hk.elim) ?aF ?aO ?aB ?aS ?aL ?_; (case aP => exact rfl); (case aB => exact (by repeat (first | (with_reducible first | exact HB.out | apply below_alloc | apply pw_below_drewN | apply below_drew1 | refine below_set ?_ GE128.out) | exact HB.out))); (case aF => exact (fun _ _ => trivial)); (case aO => exact ((Kd.R_nil _ _ _ _ (fun _ => True)))); (case aS => exact (below_size (by repeat (first | (with_reducible first | exact HB.out | apply below_alloc | apply pw_below_drewN | apply below_drew1 | refine below_set ?_ GE128.out) | exact HB.out)))); (case aL => have := LMc9.out; omega); intro v130 w11 ho hb hg hat; rw [← Ny129.out] at ho; have n0_ := Aside0.mk (blk_grown (g := gb128) (o := .cells #[.int .i64 a0_0, .int .i64 a0_1, .bool a0_2, .slice A0_3 l0_3.length c0_3] 100 (0, 0)) (by (with_reducible repeat (first | refine blk_drewN ?_ _ | refine blk_drew ?_ | refine blk_alloc ?_ _)); exact BK128.out) hg (by simp [Value.ownBlock])); have n1_ := Aside0.mk (hb); have n2_ := Aside0.mk (ho); clear BK128; clear HB; have BK128 := n0_; have HB := n1_; have HO131 := n2_; clear n0_ n1_ n2_; clear ho hb hg hat))
            go_meet
            case rel => exact ⟨_, (y129), H', ⟨by have := HJ1.out; first | omega | exact Nat.le_refl _⟩, ⟨by (with_reducible repeat (first | apply Kd.R_alloc | apply Kd.R_drewN | apply Kd.R_drew)); exact HO131.out⟩, ⟨by (with_reducible repeat (first | refine blk_drewN ?_ _ | refine blk_drew ?_ | refine blk_alloc ?_ _)); exact BK128.out⟩, ⟨by repeat (first | (with_reducible first | exact HB.out | apply below_alloc | apply pw_below_drewN | apply below_drew1 | refine below_set ?_ GE128.out) | exact HB.out)⟩⟩
          · rw [if_neg c9] at H
            exact absurd H (by simp)
        · rw [if_neg c8] at H
          have c8b0 : decide (a0_1 < 31) = false := decide_eq_false c8
          clear c8
          (first | rw [c8b0] | (simp only [i64_w, i32_w]; rw [c8b0]) | skip)
          by_cases c12 : ([] : List Int).length < 140737488355328
          · rw [if_pos c12] at H
            have LMc12 := Aside0.mk c12
            clear c12
            obtain ⟨y132, hy132⟩ : ∃ y_ : List Int, y_ = (([] : List Int) ++ [Go.bits .or .u8 x4_1 31]) := ⟨_, rfl⟩
            replace H : (zzasn1_Marshal.l0 kj1 y132 ([] : List Int) a0_1 a0_0 a0_1 a0_2 l0_3) = some (r1, r2) := by first | (rw [hy132]; with_reducible exact H) | (have H2_ := (Option.bind_some _ _).symm.trans H; rw [hy132]; with_reducible exact H2_) | (have H2_ := (Option.bind_some _ _).symm.trans H; with_reducible exact H2_) | with_reducible exact H | (rw [hy132]; exact H) | exact H
            have Ny132 := Aside0.mk hy132
            clear hy132
            have H' := Aside0.mk H
            clear H
            go_wp2_with (first | ((with_reducible refine gate_builtin (b := .append) (xs := #[.tmp 30, .tmp 33]) rfl ?_); at_builtin; refine Kd.R_append (Kd.int .u8) (w0 := w) w.heap.size rfl (.tmp 30) (.tmp 33) 25 5 (.int .u8 0) 1 rfl Try.underlying25 info5 rfl (by decide) (by omega) (.slice none 0 0) ([] : List Int) (Go.bits .or .u8 x4_1 31) [.int .u8 (Go.bits .or .u8 x4_1 31)] (fun _ => True) (fun _ => False) rfl rfl ?aP (fun _ hk => hk.elim) ?aF ?aO ?aB ?aS ?aL ?_; (case aP => exact rfl); (case aB => exact (by repeat (first | (with_reducible first | exact HB.out | apply below_alloc | apply pw_below_drewN | apply below_drew1 | refine below_set ?_ GE128.out) | exact HB.out))); (case aF => exact (fun _ _ => trivial)); (case aO => exact ((Kd.R_nil _ _ _ _ (fun _ => True)))); (case aS => exact (below_size (by repeat (first | (with_reducible first | exact HB.out | apply below_alloc | apply pw_below_drewN | apply below_drew1 | refine below_set ?_ GE128.out) | exact HB.out)))); (case aL => have := LMc12.out; omega); intro v133 w13 ho hb hg hat; rw [← Ny132.out] at ho; have n0_ := Aside0.mk (blk_grown (g := gb128) (o := .cells #[.int .i64 a0_0, .int .i64 a0_1, .bool a0_2, .slice A0_3 l0_3.length c0_3] 100 (0, 0)) (by (with_reducible repeat (first | refine blk_drewN ?_ _ | refine blk_drew ?_ | refine blk_alloc ?_ _)); exact BK128.out) hg (by simp [Value.ownBlock])); have n1_ := Aside0.mk (hb); have n2_ := Aside0.mk (ho); clear BK128; clear HB; have BK128 := n0_; have HB := n1_; have HO134 := n2_; clear n0_ n1_ n2_; clear ho hb hg hat; have hcz14_0 : w13.cell? ⟨gb128, 0, none⟩ = some (.int .i64 a0_0) := (blk_cell BK128.out 0).trans rfl; have hcz14_1 : w13.cell? ⟨gb128, 1, none⟩ = some (.int .i64 a0_1) := (blk_cell BK128.out 1).trans rfl; have hcz14_2 : w13.cell? ⟨gb128, 2, none⟩ = some (.bool a0_2) := (blk_cell BK128.out 2).trans rfl; have hcz14_3 : w13.cell? ⟨gb128, 3, none⟩ = some (.slice A0_3 l0_3.length c0_3) := (blk_cell BK128.out 3).trans rfl; have hfz14_0 := blk_frozen BK128.out 0; have hfz14_1 := blk_frozen BK128.out 1; have hfz14_2 := blk_frozen BK128.out 2; have hfz14_3 := blk_frozen BK128.out 3))
            go_loopg [6, 7] kj1 (fun kq v6 v7 w' => ∃ (x6_2 : List Int) (x7_2 : Int), v7 = .int .i64 x7_2 ∧ Aside0 (zzasn1_Marshal.l0 kq y132 x6_2 x7_2 a0_0 a0_1 a0_2 l0_3 = some (r1, r2)) ∧ Aside0 (kq ≤ kj1) ∧ Aside0 (Kd.R (Kd.int .u8) 5 w' w.heap.size (fun k_ => some k_ ≠ (v6 : Value).ownBlock) v133 y132) ∧ Aside0 (Kd.R (Kd.int .u8) 5 w' w.heap.size (fun k_ => some k_ ≠ (v133 : Value).ownBlock) v6 x6_2) ∧ Aside0 (w'.heap[gb128]? = some (.cells #[.int .i64 a0_0, .int .i64 a0_1, .bool a0_2, (.slice A0_3 l0_3.length c0_3)] 100 (0, 0))) ∧ Aside0 (Below w.heap.size w w'))
            case atStart => exact ⟨(([] : List Int)), (a0_1), (by first | rfl | (simp; done) | (simp [*]; done)), H', ⟨Nat.le_refl _⟩, ⟨by (with_reducible repeat (first | apply Kd.R_alloc | apply Kd.R_drewN | apply Kd.R_drew)); exact Kd.R_mono HO134.out (fun _ hk => (by simp [Value.ownBlock]))⟩, ⟨by first | exact Kd.R_nil _ _ _ _ _ | exact Kd.N_nil _ _ _ _ _ | exact Kd.V_nil _ _ _ _ _ | exact Kd.Q_nil _ _ _ _ _ | exact Kd.S_nil _ _ _ _ _⟩, ⟨by (with_reducible repeat (first | refine blk_drewN ?_ _ | refine blk_drew ?_ | refine blk_alloc ?_ _)); exact BK128.out⟩, ⟨by repeat (first | (with_reducible first | exact HB.out | apply below_alloc | apply pw_below_drewN | apply below_drew1 | refine below_set ?_ GE128.out) | exact HB.out)⟩⟩
            case round =>
              clear H'
              try clear c1
              try clear p2
              try clear c5
              try clear c6
              try clear p6
              try clear c8
              try clear c8b0
              try clear c9
              try clear c12
              try clear hcz10_0
              try clear hcz10_1
              try clear hcz10_2
              try clear hcz10_3
              try clear hcz14_0
              try clear hcz14_1
              try clear hcz14_2
              try clear hcz14_3
              try clear hcz4_0
              try clear hcz4_1
              try clear hcz4_2
              try clear hcz4_3
              try clear hcz7_0
              try clear hcz7_1
              try clear hcz7_2
              try clear hcz7_3
              try clear hfz10_0
              try clear hfz10_1
              try clear hfz10_2
              try clear hfz10_3
              try clear hfz14_0
              try clear hfz14_1
              try clear hfz14_2
              try clear hfz14_3
              try clear hfz4_0
              try clear hfz4_1
              try clear hfz4_2
              try clear hfz4_3
              try clear hfz7_0
              try clear hfz7_1
              try clear hfz7_2
              try clear hfz7_3
              try clear p2
              obtain ⟨x6_2, x7_2, rfl, HA, HK2, HO_5, HO_6, BK128, HB⟩ := hrel
              cases gk with
              | zero => exact absurd HA.out (by simp [zzasn1_Marshal.l0])
              | succ k2 =>
                have H := HA.out
                clear HA
                simp only [zzasn1_Marshal.l0] at H
                obtain ⟨y135, hy135⟩ : ∃ y_ : List Int, y_ = (([(Go.bits .and .i64 x7_2 127) % 256] : List Int)) := ⟨_, rfl⟩
                replace H : (if y135.length + x6_2.length < 140737488355328 then ((some (y135 ++ x6_2 : List Int)).bind fun y138 => (if (x7_2 / 128) = 0 then (zzasn1_Marshal.l1 k2 y132 y138 0 a0_0 a0_1 a0_2 l0_3) else (zzasn1_Marshal.l0 k2 y132 y138 (x7_2 / 128) a0_0 a0_1 a0_2 l0_3))) else (none)) = some (r1, r2) := by first | (rw [hy135]; with_reducible exact H) | (have H2_ := (Option.bind_some _ _).symm.trans H; rw [hy135]; with_reducible exact H2_) | (have H2_ := (Option.bind_some _ _).symm.trans H; with_reducible exact H2_) | with_reducible exact H | (rw [hy135]; exact H) | exact H
                have Ny135 := Aside0.mk hy135
                clear hy135
                by_cases c15 : y135.length + x6_2.length < 140737488355328
                · rw [if_pos c15] at H
                  have LMc15 := Aside0.mk c15
                  clear c15
                  obtain ⟨y138, hy138⟩ : ∃ y_ : List Int, y_ = (y135 ++ x6_2) := ⟨_, rfl⟩
                  replace H : (if (x7_2 / 128) = 0 then (zzasn1_Marshal.l1 k2 y132 y138 0 a0_0 a0_1 a0_2 l0_3) else (zzasn1_Marshal.l0 k2 y132 y138 (x7_2 / 128) a0_0 a0_1 a0_2 l0_3)) = some (r1, r2) := by first | (rw [hy138]; with_reducible exact H) | (have H2_ := (Option.bind_some _ _).symm.trans H; rw [hy138]; with_reducible exact H2_) | (have H2_ := (Option.bind_some _ _).symm.trans H; with_reducible exact H2_) | with_reducible exact H | (rw [hy138]; exact H) | exact H
                  have Ny138 := Aside0.mk hy138
                  clear hy138
                  by_cases c16 : (x7_2 / 128) = 0
                  · rw [if_pos c16] at H
                    have c16b0 : ((x7_2 / 128) == 0) = true := beq_iff_eq.mpr c16
                    have c16b1 : ((x7_2 / 128) != 0) = false := bne_eq_false_iff_eq.mpr c16
                    clear c16
                    have H' := Aside0.mk H
                    clear H
                    go_wp2_with (first | ((with_reducible refine gate_dst (N := 42) rfl ?_); refine Kd.R_lit (Kd.int .u8) _ 5 ?hg (N := 42) ?hd (xs := ([(Go.bits .and .i64 x7_2 127) % 256] : List Int)) (inner := [.int .u8 ((Go.bits .and .i64 x7_2 127) % 256)]) (ok := fun _ => True) (okp := fun _ => True) ?hr ?hp (fun _ hk => hk) trivial (Below.refl _ _) (Nat.le_refl _) (by simp) ?_; (case hd => rfl); (case hg => rfl); (case hr => first | (go_simp; done) | (go_simp; rfl)); (case hp => exact (Reps.one (show Kd.M (Kd.int .u8) _ _ _ ((Go.bits .and .i64 x7_2 127) % 256) [.int .u8 ((Go.bits .and .i64 x7_2 127) % 256)] from rfl) (Reps.none _ _))); intro v136 w17 ho18 hb hg_ hnew_; clear hg_ hnew_; (first | rw [← Ny135.out] at ho18 | (simp only [Int.reduceToNat] at ho18; rw [← Ny135.out] at ho18)); have n0_ := Aside0.mk (Kd.R_elder' (by (with_reducible repeat (first | apply Kd.R_alloc | apply Kd.R_drewN | apply Kd.R_drew)); exact HO_5.out) (Kd.R_base ho18) hb); have n1_ := Aside0.mk (Kd.R_elder' (by (with_reducible repeat (first | apply Kd.R_alloc | apply Kd.R_drewN | apply Kd.R_drew)); exact HO_6.out) (Kd.R_base ho18) hb); have n2_ := Aside0.mk (Kd.R_lower (Kd.R_new' (Kd.R_new' ho18 (Kd.R_lt (by (with_reducible repeat (first | apply Kd.R_alloc | apply Kd.R_drewN | apply Kd.R_drew)); exact HO_5.out))) (Kd.R_lt (by (with_reducible repeat (first | apply Kd.R_alloc | apply Kd.R_drewN | apply Kd.R_drew)); exact HO_6.out))) (below_size (by repeat (first | (with_reducible first | exact HB.out | apply below_alloc | apply pw_below_drewN | apply below_drew1 | refine below_set ?_ GE128.out) | exact HB.out)))); have n3_ := Aside0.mk (blk_below (g := gb128) (o := .cells #[.int .i64 a0_0, .int .i64 a0_1, .bool a0_2, .slice A0_3 l0_3.length c0_3] 100 (0, 0)) (by (with_reducible repeat (first | refine blk_drewN ?_ _ | refine blk_drew ?_ | refine blk_alloc ?_ _)); exact BK128.out) hb); have n4_ := Aside0.mk (below_step (by repeat (first | (with_reducible first | exact HB.out | apply below_alloc | apply pw_below_drewN | apply below_drew1 | refine below_set ?_ GE128.out) | exact HB.out)) hb); clear HO_5; clear HO_6; clear BK128; clear HB; have HO_5 := n0_; have HO_6 := n1_; have HO137 := n2_; have BK128 := n3_; have HB := n4_; clear n0_ n1_ n2_ n3_ n4_; clear hb ho18; obtain ⟨Ao20, co20, eo20⟩ := Kd.R_slice HO_6.out; subst eo20) | ((with_reducible refine gate_builtin (b := .append) (xs := #[.tmp 42, .tmp 43]) rfl ?_); at_builtin; refine Kd.R_append_rows (Kd.int .u8) (w0 := w) w.heap.size rfl (.tmp 42) (.tmp 43) 25 5 (.int .u8 0) 1 rfl Try.underlying25 info5 rfl (by decide) (by omega) v136 y135 x6_2 _ _ _ (fun k_ => some k_ ≠ (v133 : Value).ownBlock ∧ some k_ ≠ (.slice Ao20 x6_2.length co20 : Value).ownBlock) (fun _ => False) rfl rfl ?aO ?aR (fun _ _ h => h) (fun _ h => h.elim) ?aF ?aB ?aS ?aL ?_; (case aR => repeat (first | exact (Kd.R_reads' HO_6.out).2.2 | (with_reducible refine Kd.C_alloc ?_ _) | (with_reducible refine Kd.C_drewN ?_ _) | (with_reducible refine Kd.C_drew ?_))); (case aB => exact (by repeat (first | (with_reducible first | exact HB.out | apply below_alloc | apply pw_below_drewN | apply below_drew1 | refine below_set ?_ GE128.out) | exact HB.out))); (case aF => exact (fun k_ hk => ⟨Kd.fresh' (Kd.R_lt (by (with_reducible repeat (first | apply Kd.R_alloc | apply Kd.R_drewN | apply Kd.R_drew)); exact HO_5.out)) k_ hk, Kd.fresh' (Kd.R_lt (by (with_reducible repeat (first | apply Kd.R_alloc | apply Kd.R_drewN | apply Kd.R_drew)); exact HO_6.out)) k_ hk⟩)); (case aO => exact (by (with_reducible repeat (first | apply Kd.R_alloc | apply Kd.R_drewN | apply Kd.R_drew)); exact Kd.R_mono HO137.out (fun _ hk => ⟨hk.1.2, hk.2⟩))); (case aS => exact (below_size (by repeat (first | (with_reducible first | exact HB.out | apply below_alloc | apply pw_below_drewN | apply below_drew1 | refine below_set ?_ GE128.out) | exact HB.out)))); (case aL => have := LMc15.out; omega); intro v139 w19 ho hb hg hat; rw [← Ny138.out] at ho; have n0_ := Aside0.mk (Kd.R_after (ok := (fun k_ => some k_ ≠ (.slice Ao20 x6_2.length co20 : Value).ownBlock)) (by (with_reducible repeat (first | apply Kd.R_alloc | apply Kd.R_drewN | apply Kd.R_drew)); exact HO_5.out) hg hat); have n1_ := Aside0.mk (Kd.R_after (ok := (fun k_ => some k_ ≠ (v133 : Value).ownBlock)) (by (with_reducible repeat (first | apply Kd.R_alloc | apply Kd.R_drewN | apply Kd.R_drew)); exact HO_6.out) hg hat); have n2_ := Aside0.mk (blk_grown (g := gb128) (o := .cells #[.int .i64 a0_0, .int .i64 a0_1, .bool a0_2, .slice A0_3 l0_3.length c0_3] 100 (0, 0)) (by (with_reducible repeat (first | refine blk_drewN ?_ _ | refine blk_drew ?_ | refine blk_alloc ?_ _)); exact BK128.out) hg (Kd.R_ne HO137.out BK128.out (by decide))); have n3_ := Aside0.mk (hb); have n4_ := Aside0.mk (ho); clear HO_5; clear HO_6; clear BK128; clear HB; clear HO137; have HO_5 := n0_; have HO_6 := n1_; have BK128 := n2_; have HB := n3_; have HO140 := n4_; clear n0_ n1_ n2_ n3_ n4_; clear ho hb hg hat))
                    go_loopg [8] k2 (fun kq v8 w' => ∃ (x6_3 : List Int) (x8_3 : Int), v8 = .int .i64 x8_3 ∧ Aside0 (zzasn1_Marshal.l1 kq y132 x6_3 x8_3 a0_0 a0_1 a0_2 l0_3 = some (r1, r2)) ∧ Aside0 (kq ≤ k2) ∧ Aside0 (Kd.R (Kd.int .u8) 5 w' w.heap.size (fun k_ => some k_ ≠ (v139 : Value).ownBlock) v133 y132) ∧ Aside0 (Kd.R (Kd.int .u8) 5 w' w.heap.size (fun k_ => some k_ ≠ (v133 : Value).ownBlock) v139 x6_3) ∧ Aside0 (w'.heap[gb128]? = some (.cells #[.int .i64 a0_0, .int .i64 a0_1, .bool a0_2, (.slice A0_3 l0_3.length c0_3)] 100 (0, 0))) ∧ Aside0 (Below w.heap.size w w'))
                    case atStart => exact ⟨(y138), (0), (by first | rfl | (simp; done) | (simp [*]; done)), H', ⟨Nat.le_refl _⟩, ⟨by (with_reducible repeat (first | apply Kd.R_alloc | apply Kd.R_drewN | apply Kd.R_drew)); exact Kd.R_mono HO_5.out (fun _ hk => hk.2)⟩, ⟨by (with_reducible repeat (first | apply Kd.R_alloc | apply Kd.R_drewN | apply Kd.R_drew)); exact Kd.R_mono HO140.out (fun _ hk => hk.1)⟩, ⟨by (with_reducible repeat (first | refine blk_drewN ?_ _ | refine blk_drew ?_ | refine blk_alloc ?_ _)); exact BK128.out⟩, ⟨by repeat (first | (with_reducible first | exact HB.out | apply below_alloc | apply pw_below_drewN | apply below_drew1 | refine below_set ?_ GE128.out) | exact HB.out)⟩⟩
                    case round =>
                      clear H'
                      try clear c1
                      try clear p2
                      try clear c5
                      try clear c6
                      try clear p6
                      try clear c8
                      try clear c8b0
                      try clear c9
                      try clear c12
                      try clear c15
                      try clear c16
                      try clear c16b0
                      try clear c16b1
                      try clear hcz10_0
                      try clear hcz10_1
                      try clear hcz10_2
                      try clear hcz10_3
                      try clear hcz14_0
                      try clear hcz14_1
                      try clear hcz14_2
                      try clear hcz14_3
                      try clear hcz4_0
                      try clear hcz4_1
                      try clear hcz4_2
                      try clear hcz4_3
                      try clear hcz7_0
                      try clear hcz7_1
                      try clear hcz7_2
                      try clear hcz7_3
                      try clear hfz10_0
                      try clear hfz10_1
                      try clear hfz10_2
                      try clear hfz10_3
                      try clear hfz14_0
                      try clear hfz14_1
                      try clear hfz14_2
                      try clear hfz14_3
                      try clear hfz4_0
                      try clear hfz4_1
                      try clear hfz4_2
                      try clear hfz4_3
                      try clear hfz7_0
                      try clear hfz7_1
                      try clear hfz7_2
                      try clear hfz7_3
                      try clear p2
                      try clear p6
                      obtain ⟨x6_3, x8_3, rfl, HA, HK3, HO_5, HO_6, BK128, HB⟩ := hrel
                      cases gk with
                      | zero => exact absurd HA.out (by simp [zzasn1_Marshal.l1])
                      | succ k3 =>
                        have H := HA.out
                        clear HA
                        simp only [zzasn1_Marshal.l1] at H
                        by_cases c21 : x8_3 < (wrap64 ((x6_3.length : Int) - 1))
                        · rw [if_pos c21] at H
                          have c21b0 : decide (x8_3 < (wrap64 ((x6_3.length : Int) - 1))) = true := decide_eq_true c21
                          clear c21
                          by_cases c22 : 0 ≤ x8_3
                          · rw [if_pos c22] at H
                            have c22b0 : decide (0 ≤ x8_3) = true := decide_eq_true c22
                            clear c22
                            by_cases c23 : x8_3 < (x6_3.length : Int)
                            · rw [if_pos c23] at H
                              have c23b0 : decide (x8_3 < (x6_3.length : Int)) = true := decide_eq_true c23
                              clear c23
                              obtain ⟨y142, hy142⟩ : ∃ y_ : List Int, y_ = (x6_3.set (x8_3 : Int).toNat (Go.bits .or .u8 (rd x6_3 x8_3) 128)) := ⟨_, rfl⟩
                              replace H : (zzasn1_Marshal.l1 k3 y132 y142 (wrap64 (x8_3 + 1)) a0_0 a0_1 a0_2 l0_3) = some (r1, r2) := by first | (rw [hy142]; with_reducible exact H) | (have H2_ := (Option.bind_some _ _).symm.trans H; rw [hy142]; with_reducible exact H2_) | (have H2_ := (Option.bind_some _ _).symm.trans H; with_reducible exact H2_) | with_reducible exact H | (rw [hy142]; exact H) | exact H
                              have Ny142 := Aside0.mk hy142
                              clear hy142
                              have H' := Aside0.mk H
                              clear H
                              obtain ⟨Ao25, co25, eo25⟩ := Kd.R_slice HO_6.out
                              subst eo25
                              have p141 : 0 ≤ (x8_3 : Int) := of_decide_eq_true (by first | (with_reducible assumption) | assumption)
                              have q141 : x8_3 < (x6_3.length : Int) := of_decide_eq_true (by first | (with_reducible assumption) | assumption)
                              obtain ⟨ad141, e141, hx141_0⟩ := Kd.at_int (Kd.R_reads' HO_6.out).2.2 x8_3 p141 q141
                              cases e141
                              replace p141 := eq_true p141
                              replace q141 := eq_true q141
                              have p24 : 0 ≤ (x8_3 : Int) := of_decide_eq_true (by first | (with_reducible assumption) | assumption)
                              have q24 : (x8_3 : Int) < ((x6_3.length : Int) : Int) := of_decide_eq_true (by first | (with_reducible assumption) | assumption)
                              obtain ⟨go24, co24, eo24, gb24, gl24, cl24, HG24⟩ := Kd.R_form HO_6.out (by omega)
                              (first | cases eo24 | (injection eo24 with ea_ en_ ec_; (first | subst ea_ | (injection ea_ with ea_; subst ea_)); subst ec_; clear en_))
                              have GB24 := Aside0.mk gb24
                              have GG24 := Aside0.mk HG24
                              clear gb24 gl24 HG24
                              (first | simp only [add_plain] at hx141_0 | skip)
                              obtain ⟨hx24_0, hf24_0⟩ := Kd.R_celln 0 HO_6.out (x8_3 : Int) p24 q24
                              replace p24 := eq_true p24
                              replace q24 := eq_true q24
                              have HP26 := Kd.R_putg HO_6.out (x8_3 : Int) (Go.bits .or .u8 (rd x6_3 x8_3) 128)
                              go_wp2_with (first | ((with_reducible refine gate_store (t := 5) (p := 60) rfl ?_); refine store_event (t := 5) (p := 60) (v := ?vo_w27) (w1 := (wr.setCell ⟨go24, (x8_3 : Int).toNat, none⟩ (.int .u8 (Go.bits .or .u8 (rd x6_3 x8_3) 128)))) ?hg ?ho ?hn ?hr ?_; (case ho => rfl); (case hg => rfl); (case hn => rfl); (case hr => first | (go_simp; done) | (go_simp; rfl)); intro w27 hw; have hg : wr.grownBy w27 (some go24) := (by rw [hw]; exact HP26.2); have hp_ : Kd.R (Kd.int .u8) 5 w27 w.heap.size (fun k_ => some k_ ≠ (v133 : Value).ownBlock) (.slice (some ⟨go24, 0, none⟩) x6_3.length co25) y142 := (by rw [hw, Ny142.out]; exact HP26.1); clear HP26; have n0_ := Aside0.mk (Kd.R_after (v := (.slice (some ⟨go24, 0, none⟩) x6_3.length co25)) (v1 := (.slice (some ⟨go24, 0, none⟩) x6_3.length co25)) (ok := (fun _ => True)) (by (with_reducible repeat (first | apply Kd.R_alloc | apply Kd.R_drewN | apply Kd.R_drew)); exact Kd.R_mono HO_5.out (fun _ hk => ⟨trivial, hk⟩)) hg (.inl rfl)); have n1_ := Aside0.mk (hp_); have n2_ := Aside0.mk (blk_grown (g := gb128) (o := .cells #[.int .i64 a0_0, .int .i64 a0_1, .bool a0_2, .slice A0_3 l0_3.length c0_3] 100 (0, 0)) (by (with_reducible repeat (first | refine blk_drewN ?_ _ | refine blk_drew ?_ | refine blk_alloc ?_ _)); exact BK128.out) hg (Kd.R_ne HO_6.out BK128.out (by decide))); have n3_ := Aside0.mk ((by rw [hw]; exact below_set (HB.out) GB24.out : Below w.heap.size w w27)); clear HO_5; clear HO_6; clear BK128; clear HB; have HO_5 := n0_; have HO_6 := n1_; have BK128 := n2_; have HB := n3_; clear n0_ n1_ n2_ n3_; clear hg hw hp_))
                              go_roundg k3
                              case measure => have := HJ1.out; have := HK2.out; have := HK3.out; omega
                              case rel => exact ⟨(y142), (wrap64 (x8_3 + 1)), (by first | rfl | (simp; done) | (simp [*]; done)), H', ⟨by have := HJ1.out; have := HK2.out; have := HK3.out; omega⟩, ⟨by (with_reducible repeat (first | apply Kd.R_alloc | apply Kd.R_drewN | apply Kd.R_drew)); exact Kd.R_mono HO_5.out (fun _ hk => hk.2)⟩, ⟨by (with_reducible repeat (first | apply Kd.R_alloc | apply Kd.R_drewN | apply Kd.R_drew)); exact HO_6.out⟩, ⟨by (with_reducible repeat (first | refine blk_drewN ?_ _ | refine blk_drew ?_ | refine blk_alloc ?_ _)); exact BK128.out⟩, ⟨by repeat (first | (with_reducible first | exact HB.out | apply below_alloc | apply pw_below_drewN | apply below_drew1 | refine below_set ?_ GE128.out) | exact HB.out)⟩⟩
                            · rw [if_neg c23] at H
                              exact absurd H (by simp)
                          · rw [if_neg c22] at H
                            exact absurd H (by simp)
                        · rw [if_neg c21] at H
                          have c21b0 : decide (x8_3 < (wrap64 ((x6_3.length : Int) - 1))) = false := decide_eq_false c21
                          clear c21
                          by_cases c28 : y132.length + x6_3.length < 140737488355328
                          · rw [if_pos c28] at H
                            have LMc28 := Aside0.mk c28
                            clear c28
                            obtain ⟨y143, hy143⟩ : ∃ y_ : List Int, y_ = (y132 ++ x6_3) := ⟨_, rfl⟩
                            replace H : (zzasn1_Marshal.j3 k3 y143 a0_0 a0_1 a0_2 l0_3) = some (r1, r2) := by first | (rw [hy143]; with_reducible exact H) | (have H2_ := (Option.bind_some _ _).symm.trans H; rw [hy143]; with_reducible exact H2_) | (have H2_ := (Option.bind_some _ _).symm.trans H; with_reducible exact H2_) | with_reducible exact H | (rw [hy143]; exact H) | exact H
                            have Ny143 := Aside0.mk hy143
                            clear hy143
                            have H' := Aside0.mk H
                            clear H
                            obtain ⟨Ao29, co29, eo29⟩ := Kd.R_slice HO_6.out
                            subst eo29
                            go_wp2_with (first | ((with_reducible refine gate_builtin (b := .append) (xs := #[.tmp 61, .tmp 62]) rfl ?_); at_builtin; refine Kd.R_append_rows (Kd.int .u8) (w0 := w) w.heap.size rfl (.tmp 61) (.tmp 62) 25 5 (.int .u8 0) 1 rfl Try.underlying25 info5 rfl (by decide) (by omega) v133 y132 x6_3 _ _ _ (fun k_ => some k_ ≠ (.slice Ao29 x6_3.length co29 : Value).ownBlock) (fun _ => False) rfl rfl ?aO ?aR (fun _ _ h => h) (fun _ h => h.elim) ?aF ?aB ?aS ?aL ?_; (case aR => repeat (first | exact (Kd.R_reads' HO_6.out).2.2 | (with_reducible refine Kd.C_alloc ?_ _) | (with_reducible refine Kd.C_drewN ?_ _) | (with_reducible refine Kd.C_drew ?_))); (case aB => exact (by repeat (first | (with_reducible first | exact HB.out | apply below_alloc | apply pw_below_drewN | apply below_drew1 | refine below_set ?_ GE128.out) | exact HB.out))); (case aF => exact (fun k_ hk => Kd.fresh' (Kd.R_lt (by (with_reducible repeat (first | apply Kd.R_alloc | apply Kd.R_drewN | apply Kd.R_drew)); exact HO_6.out)) k_ hk)); (case aO => exact (by (with_reducible repeat (first | apply Kd.R_alloc | apply Kd.R_drewN | apply Kd.R_drew)); exact HO_5.out)); (case aS => exact (below_size (by repeat (first | (with_reducible first | exact HB.out | apply below_alloc | apply pw_below_drewN | apply below_drew1 | refine below_set ?_ GE128.out) | exact HB.out)))); (case aL => have := LMc28.out; omega); intro v144 w30 ho hb hg hat; rw [← Ny143.out] at ho; have n0_ := Aside0.mk (Kd.R_after (ok := (fun _ => True)) (by (with_reducible repeat (first | apply Kd.R_alloc | apply Kd.R_drewN | apply Kd.R_drew)); exact Kd.R_mono HO_6.out (fun _ hk => ⟨trivial, hk⟩)) hg hat); have n1_ := Aside0.mk (blk_grown (g := gb128) (o := .cells #[.int .i64 a0_0, .int .i64 a0_1, .bool a0_2, .slice A0_3 l0_3.length c0_3] 100 (0, 0)) (by (with_reducible repeat (first | refine blk_drewN ?_ _ | refine blk_drew ?_ | refine blk_alloc ?_ _)); exact BK128.out) hg (Kd.R_ne HO_5.out BK128.out (by decide))); have n2_ := Aside0.mk (hb); have n3_ := Aside0.mk (ho); clear HO_6; clear BK128; clear HB; clear HO_5; have HO_6 := n0_; have BK128 := n1_; have HB := n2_; have HO145 := n3_; clear n0_ n1_ n2_ n3_; clear ho hb hg hat))
                            go_meet
                            case rel => exact ⟨_, (y143), H', ⟨by have := HJ1.out; have := HK2.out; have := HK3.out; first | omega | exact Nat.le_refl _⟩, ⟨by (with_reducible repeat (first | apply Kd.R_alloc | apply Kd.R_drewN | apply Kd.R_drew)); exact Kd.R_mono HO145.out (fun _ hk => trivial)⟩, ⟨by (with_reducible repeat (first | refine blk_drewN ?_ _ | refine blk_drew ?_ | refine blk_alloc ?_ _)); exact BK128.out⟩, ⟨by repeat (first | (with_reducible first | exact HB.out | apply below_alloc | apply pw_below_drewN | apply below_drew1 | refine below_set ?_ GE128.out) | exact HB.out)⟩⟩
                          · rw [if_neg c28] at H
                            exact absurd H (by simp)
                  · rw [if_neg c16] at H
                    have c16b0 : ((x7_2 / 128) == 0) = false := beq_eq_false_iff_ne.mpr c16
                    have c16b1 : ((x7_2 / 128) != 0) = true := bne_iff_ne.mpr c16
                    have H' := Aside0.mk H
                    clear H
                    go_wp2_with (first | ((with_reducible refine gate_dst (N := 42) rfl ?_); refine Kd.R_lit (Kd.int .u8) _ 5 ?hg (N := 42) ?hd (xs := ([(Go.bits .and .i64 x7_2 127) % 256] : List Int)) (inner := [.int .u8 ((Go.bits .and .i64 x7_2 127) % 256)]) (ok := fun _ => True) (okp := fun _ => True) ?hr ?hp (fun _ hk => hk) trivial (Below.refl _ _) (Nat.le_refl _) (by simp) ?_; (case hd => rfl); (case hg => rfl); (case hr => first | (go_simp; done) | (go_simp; rfl)); (case hp => exact (Reps.one (show Kd.M (Kd.int .u8) _ _ _ ((Go.bits .and .i64 x7_2 127) % 256) [.int .u8 ((Go.bits .and .i64 x7_2 127) % 256)] from rfl) (Reps.none _ _))); intro v136 w31 ho32 hb hg_ hnew_; clear hg_ hnew_; (first | rw [← Ny135.out] at ho32 | (simp only [Int.reduceToNat] at ho32; rw [← Ny135.out] at ho32)); have n0_ := Aside0.mk (Kd.R_elder' (by (with_reducible repeat (first | apply Kd.R_alloc | apply Kd.R_drewN | apply Kd.R_drew)); exact HO_5.out) (Kd.R_base ho32) hb); have n1_ := Aside0.mk (Kd.R_elder' (by (with_reducible repeat (first | apply Kd.R_alloc | apply Kd.R_drewN | apply Kd.R_drew)); exact HO_6.out) (Kd.R_base ho32) hb); have n2_ := Aside0.mk (Kd.R_lower (Kd.R_new' (Kd.R_new' ho32 (Kd.R_lt (by (with_reducible repeat (first | apply Kd.R_alloc | apply Kd.R_drewN | apply Kd.R_drew)); exact HO_5.out))) (Kd.R_lt (by (with_reducible repeat (first | apply Kd.R_alloc | apply Kd.R_drewN | apply Kd.R_drew)); exact HO_6.out))) (below_size (by repeat (first | (with_reducible first | exact HB.out | apply below_alloc | apply pw_below_drewN | apply below_drew1 | refine below_set ?_ GE128.out) | exact HB.out)))); have n3_ := Aside0.mk (blk_below (g := gb128) (o := .cells #[.int .i64 a0_0, .int .i64 a0_1, .bool a0_2, .slice A0_3 l0_3.length c0_3] 100 (0, 0)) (by (with_reducible repeat (first | refine blk_drewN ?_ _ | refine blk_drew ?_ | refine blk_alloc ?_ _)); exact BK128.out) hb); have n4_ := Aside0.mk (below_step (by repeat (first | (with_reducible first | exact HB.out | apply below_alloc | apply pw_below_drewN | apply below_drew1 | refine below_set ?_ GE128.out) | exact HB.out)) hb); clear HO_5; clear HO_6; clear BK128; clear HB; have HO_5 := n0_; have HO_6 := n1_; have HO137 := n2_; have BK128 := n3_; have HB := n4_; clear n0_ n1_ n2_ n3_ n4_; clear hb ho32; obtain ⟨Ao34, co34, eo34⟩ := Kd.R_slice HO_6.out; subst eo34) | ((with_reducible refine gate_builtin (b := .append) (xs := #[.tmp 42, .tmp 43]) rfl ?_); at_builtin; refine Kd.R_append_rows (Kd.int .u8) (w0 := w) w.heap.size rfl (.tmp 42) (.tmp 43) 25 5 (.int .u8 0) 1 rfl Try.underlying25 info5 rfl (by decide) (by omega) v136 y135 x6_2 _ _ _ (fun k_ => some k_ ≠ (v133 : Value).ownBlock ∧ some k_ ≠ (.slice Ao34 x6_2.length co34 : Value).ownBlock) (fun _ => False) rfl rfl ?aO ?aR (fun _ _ h => h) (fun _ h => h.elim) ?aF ?aB ?aS ?aL ?_; (case aR => repeat (first | exact (Kd.R_reads' HO_6.out).2.2 | (with_reducible refine Kd.C_alloc ?_ _) | (with_reducible refine Kd.C_drewN ?_ _) | (with_reducible refine Kd.C_drew ?_))); (case aB => exact (by repeat (first | (with_reducible first | exact HB.out | apply below_alloc | apply pw_below_drewN | apply below_drew1 | refine below_set ?_ GE128.out) | exact HB.out))); (case aF => exact (fun k_ hk => ⟨Kd.fresh' (Kd.R_lt (by (with_reducible repeat (first | apply Kd.R_alloc | apply Kd.R_drewN | apply Kd.R_drew)); exact HO_5.out)) k_ hk, Kd.fresh' (Kd.R_lt (by (with_reducible repeat (first | apply Kd.R_alloc | apply Kd.R_drewN | apply Kd.R_drew)); exact HO_6.out)) k_ hk⟩)); (case aO => exact (by (with_reducible repeat (first | apply Kd.R_alloc | apply Kd.R_drewN | apply Kd.R_drew)); exact Kd.R_mono HO137.out (fun _ hk => ⟨hk.1.2, hk.2⟩))); (case aS => exact (below_size (by repeat (first | (with_reducible first | exact HB.out | apply below_alloc | apply pw_below_drewN | apply below_drew1 | refine below_set ?_ GE128.out) | exact HB.out)))); (case aL => have := LMc15.out; omega); intro v139 w33 ho hb hg hat; rw [← Ny138.out] at ho; have n0_ := Aside0.mk (Kd.R_after (ok := (fun k_ => some k_ ≠ (.slice Ao34 x6_2.length co34 : Value).ownBlock)) (by (with_reducible repeat (first | apply Kd.R_alloc | apply Kd.R_drewN | apply Kd.R_drew)); exact HO_5.out) hg hat); have n1_ := Aside0.mk (Kd.R_after (ok := (fun k_ => some k_ ≠ (v133 : Value).ownBlock)) (by (with_reducible repeat (first | apply Kd.R_alloc | apply Kd.R_drewN | apply Kd.R_drew)); exact HO_6.out) hg hat); have n2_ := Aside0.mk (blk_grown (g := gb128) (o := .cells #[.int .i64 a0_0, .int .i64 a0_1, .bool a0_2, .slice A0_3 l0_3.length c0_3] 100 (0, 0)) (by (with_reducible repeat (first | refine blk_drewN ?_ _ | refine blk_drew ?_ | refine blk_alloc ?_ _)); exact BK128.out) hg (Kd.R_ne HO137.out BK128.out (by decide))); have n3_ := Aside0.mk (hb); have n4_ := Aside0.mk (ho); clear HO_5; clear HO_6; clear BK128; clear HB; clear HO137; have HO_5 := n0_; have HO_6 := n1_; have BK128 := n2_; have HB := n3_; have HO140 := n4_; clear n0_ n1_ n2_ n3_ n4_; clear ho hb hg hat))
                    go_roundg k2
                    case measure => have := HJ1.out; have := HK2.out; omega
                    case rel => exact ⟨(y138), (x7_2 / 128), (by first | rfl | (simp; done) | (simp [*]; done)), H', ⟨by have := HJ1.out; have := HK2.out; omega⟩, ⟨by (with_reducible repeat (first | apply Kd.R_alloc | apply Kd.R_drewN | apply Kd.R_drew)); exact Kd.R_mono HO_5.out (fun _ hk => hk.2)⟩, ⟨by (with_reducible repeat (first | apply Kd.R_alloc | apply Kd.R_drewN | apply Kd.R_drew)); exact Kd.R_mono HO140.out (fun _ hk => hk.1)⟩, ⟨by (with_reducible repeat (first | refine blk_drewN ?_ _ | refine blk_drew ?_ | refine blk_alloc ?_ _)); exact BK128.out⟩, ⟨by repeat (first | (with_reducible first | exact HB.out | apply below_alloc | apply pw_below_drewN | apply below_drew1 | refine below_set ?_ GE128.out) | exact HB.out)⟩⟩
                · rw [if_neg c15] at H
                  exact absurd H (by simp)
          · rw [if_neg c12] at H
            exact absurd H (by simp)
      case rest =>
        clear HC6
        try clear c1
        try clear p1
        try clear q1
        try clear hx1
        try clear c2
        try clear p2
        try clear q2
        try clear hx2
        try clear hf2
        try clear c5
        try clear c6
        try clear p6
        try clear c8
        try clear c8b0
        try clear c9
        try clear c12
        try clear p14
        try clear q14
        try clear hx14
        try clear c15
        try clear c16
        try clear c16b0
        try clear c16b1
        try clear c21
        try clear c21b0
        try clear c22
        try clear c22b0
        try clear c23
        try clear c23b0
        try clear p24
        try clear q24
        try clear hx24
        try clear hf24
        try clear c28
        try clear hcz10_0
        try clear hcz10_1
        try clear hcz10_2
        try clear hcz10_3
        try clear hcz14_0
        try clear hcz14_1
        try clear hcz14_2
        try clear hcz14_3
        try clear hcz4_0
        try clear hcz4_1
        try clear hcz4_2
        try clear hcz4_3
        try clear hcz7_0
        try clear hcz7_1
        try clear hcz7_2
        try clear hcz7_3
        try clear hfz10_0
        try clear hfz10_1
        try clear hfz10_2
        try clear hfz10_3
        try clear hfz14_0
        try clear hfz14_1
        try clear hfz14_2
        try clear hfz14_3
        try clear hfz4_0
        try clear hfz4_1
        try clear hfz4_2
        try clear hfz4_3
        try clear hfz7_0
        try clear hfz7_1
        try clear hfz7_2
        try clear hfz7_3
        try clear hx141_0
        try clear hx24_0
        try clear p141
        try clear p2
        try clear p24
        try clear p6
        try clear q141
        try clear q24
        obtain ⟨kq, x5_5, HA, HJ5, HO_5, BK128, HB⟩ := hcut
        cases kq with
        | zero => exact absurd HA.out (by simp [zzasn1_Marshal.j3])
        | succ kj5 =>
          have H := HA.out
          clear HA
          simp only [zzasn1_Marshal.j3] at H
          by_cases c35 : (l0_3.length : Int) < 128
          · rw [if_pos c35] at H
            have c35b0 : decide ((l0_3.length : Int) < 128) = true := decide_eq_true c35
            have c35b1 : decide (l0_3.length < 128) = true := decide_eq_true (by omega)
            clear c35
            by_cases c36 : x5_5.length < 140737488355328
            · rw [if_pos c36] at H
              have LMc36 := Aside0.mk c36
              clear c36
              obtain ⟨y146, hy146⟩ : ∃ y_ : List Int, y_ = (x5_5 ++ [((l0_3.length : Int)) % 256]) := ⟨_, rfl⟩
              replace H : (if y146.length + l0_3.length < 140737488355328 then (some ((y146 ++ l0_3), none)) else (none)) = some (r1, r2) := by first | (rw [hy146]; with_reducible exact H) | (have H2_ := (Option.bind_some _ _).symm.trans H; rw [hy146]; with_reducible exact H2_) | (have H2_ := (Option.bind_some _ _).symm.trans H; with_reducible exact H2_) | with_reducible exact H | (rw [hy146]; exact H) | exact H
              have Ny146 := Aside0.mk hy146
              clear hy146
              by_cases c37 : y146.length + l0_3.length < 140737488355328
              · rw [if_pos c37] at H
                have LMc37 := Aside0.mk c37
                clear c37
                obtain ⟨y149, hy149⟩ : ∃ y_ : List Int, y_ = (y146 ++ l0_3) := ⟨_, rfl⟩
                replace H : (some (y149, none)) = some (r1, r2) := by first | (rw [hy149]; with_reducible exact H) | (have H2_ := (Option.bind_some _ _).symm.trans H; rw [hy149]; with_reducible exact H2_) | (have H2_ := (Option.bind_some _ _).symm.trans H; with_reducible exact H2_) | with_reducible exact H | (rw [hy149]; exact H) | exact H
                have Ny149 := Aside0.mk hy149
                clear hy149
                simp only [Option.some.injEq, Prod.mk.injEq] at H
                obtain ⟨rfl, rfl⟩ := H
                have hcz38_0 : wc.cell? ⟨gb128, 0, none⟩ = some (.int .i64 a0_0) := (blk_cell BK128.out 0).trans rfl
                have hcz38_1 : wc.cell? ⟨gb128, 1, none⟩ = some (.int .i64 a0_1) := (blk_cell BK128.out 1).trans rfl
                have hcz38_2 : wc.cell? ⟨gb128, 2, none⟩ = some (.bool a0_2) := (blk_cell BK128.out 2).trans rfl
                have hcz38_3 : wc.cell? ⟨gb128, 3, none⟩ = some (.slice A0_3 l0_3.length c0_3) := (blk_cell BK128.out 3).trans rfl
                have hfz38_0 := blk_frozen BK128.out 0
                have hfz38_1 := blk_frozen BK128.out 1
                have hfz38_2 := blk_frozen BK128.out 2
                have hfz38_3 := blk_frozen BK128.out 3
                go_wp2_with (first | ((with_reducible refine gate_builtin (b := .append) (xs := #[.tmp 69, .tmp 72]) rfl ?_); at_builtin; refine Kd.R_append (Kd.int .u8) (w0 := w) w.heap.size rfl (.tmp 69) (.tmp 72) 25 5 (.int .u8 0) 1 rfl Try.underlying25 info5 rfl (by decide) (by omega) u5 x5_5 (((l0_3.length : Int)) % 256) [.int .u8 (((l0_3.length : Int)) % 256)] (fun _ => True) (fun _ => False) rfl rfl ?aP (fun _ hk => hk.elim) ?aF ?aO ?aB ?aS ?aL ?_; (case aP => exact rfl); (case aB => exact (by repeat (first | (with_reducible first | exact HB.out | apply below_alloc | apply pw_below_drewN | apply below_drew1 | refine below_set ?_ GE128.out) | exact HB.out))); (case aF => exact (fun _ _ => trivial)); (case aO => exact (by (with_reducible repeat (first | apply Kd.R_alloc | apply Kd.R_drewN | apply Kd.R_drew)); exact HO_5.out)); (case aS => exact (below_size (by repeat (first | (with_reducible first | exact HB.out | apply below_alloc | apply pw_below_drewN | apply below_drew1 | refine below_set ?_ GE128.out) | exact HB.out)))); (case aL => have := LMc36.out; omega); intro v147 w39 ho hb hg hat; rw [← Ny146.out] at ho; have n0_ := Aside0.mk (blk_grown (g := gb128) (o := .cells #[.int .i64 a0_0, .int .i64 a0_1, .bool a0_2, .slice A0_3 l0_3.length c0_3] 100 (0, 0)) (by (with_reducible repeat (first | refine blk_drewN ?_ _ | refine blk_drew ?_ | refine blk_alloc ?_ _)); exact BK128.out) hg (Kd.R_ne HO_5.out BK128.out (by decide))); have n1_ := Aside0.mk (hb); have n2_ := Aside0.mk (ho); clear BK128; clear HB; clear HO_5; have BK128 := n0_; have HB := n1_; have HO148 := n2_; clear n0_ n1_ n2_; clear ho hb hg hat; have hcz40_0 : w39.cell? ⟨gb128, 0, none⟩ = some (.int .i64 a0_0) := (blk_cell BK128.out 0).trans rfl; have hcz40_1 : w39.cell? ⟨gb128, 1, none⟩ = some (.int .i64 a0_1) := (blk_cell BK128.out 1).trans rfl; have hcz40_2 : w39.cell? ⟨gb128, 2, none⟩ = some (.bool a0_2) := (blk_cell BK128.out 2).trans rfl; have hcz40_3 : w39.cell? ⟨gb128, 3, none⟩ = some (.slice A0_3 l0_3.length c0_3) := (blk_cell BK128.out 3).trans rfl; have hfz40_0 := blk_frozen BK128.out 0; have hfz40_1 := blk_frozen BK128.out 1; have hfz40_2 := blk_frozen BK128.out 2; have hfz40_3 := blk_frozen BK128.out 3) | ((with_reducible refine gate_builtin (b := .append) (xs := #[.tmp 92, .tmp 94]) rfl ?_); at_builtin; refine Kd.R_append_rows (Kd.int .u8) (w0 := w) w.heap.size rfl (.tmp 92) (.tmp 94) 25 5 (.int .u8 0) 1 rfl Try.underlying25 info5 rfl (by decide) (by omega) v147 y146 l0_3 _ _ _ (fun _ => True) (fun _ => False) rfl rfl ?aO ?aR (fun _ _ h => h) (fun _ h => h.elim) ?aF ?aB ?aS ?aL ?_; (case aR => repeat (first | exact (Kd.C_below HR0_3.out HB.out) | (with_reducible refine Kd.C_alloc ?_ _) | (with_reducible refine Kd.C_drewN ?_ _) | (with_reducible refine Kd.C_drew ?_))); (case aB => exact (by repeat (first | (with_reducible first | exact HB.out | apply below_alloc | apply pw_below_drewN | apply below_drew1 | refine below_set ?_ GE128.out) | exact HB.out))); (case aF => exact (fun _ _ => trivial)); (case aO => exact (by (with_reducible repeat (first | apply Kd.R_alloc | apply Kd.R_drewN | apply Kd.R_drew)); exact HO148.out)); (case aS => exact (below_size (by repeat (first | (with_reducible first | exact HB.out | apply below_alloc | apply pw_below_drewN | apply below_drew1 | refine below_set ?_ GE128.out) | exact HB.out)))); (case aL => have := LMc37.out; omega); intro v150 w41 ho hb hg hat; rw [← Ny149.out] at ho; have n0_ := Aside0.mk (blk_grown (g := gb128) (o := .cells #[.int .i64 a0_0, .int .i64 a0_1, .bool a0_2, .slice A0_3 l0_3.length c0_3] 100 (0, 0)) (by (with_reducible repeat (first | refine blk_drewN ?_ _ | refine blk_drew ?_ | refine blk_alloc ?_ _)); exact BK128.out) hg (Kd.R_ne HO148.out BK128.out (by decide))); have n1_ := Aside0.mk (hb); have n2_ := Aside0.mk (ho); clear BK128; clear HB; clear HO148; have BK128 := n0_; have HB := n1_; have HO151 := n2_; clear n0_ n1_ n2_; clear ho hb hg hat))
                go_ret2
                exact ⟨_, by first | rfl | (simp [errW_none, errW_some] <;> rfl) | (simp [*, errW_none, errW_some] <;> rfl), by (with_reducible repeat (first | apply Kd.R_alloc | apply Kd.R_drewN | apply Kd.R_drew)); exact HO151.out, by repeat (first | (with_reducible first | exact HB.out | apply below_alloc | apply pw_below_drewN | apply below_drew1 | refine below_set ?_ GE128.out) | exact HB.out)⟩
              · rw [if_neg c37] at H
                exact absurd H (by simp)
            · rw [if_neg c36] at H
              exact absurd H (by simp)
          · rw [if_neg c35] at H
            have c35b0 : decide ((l0_3.length : Int) < 128) = false := decide_eq_false c35
            have c35b1 : decide (l0_3.length < 128) = false := decide_eq_false (by omega)
            clear c35
            have H' := Aside0.mk H
            clear H
            have hcz42_0 : wc.cell? ⟨gb128, 0, none⟩ = some (.int .i64 a0_0) := (blk_cell BK128.out 0).trans rfl
            have hcz42_1 : wc.cell? ⟨gb128, 1, none⟩ = some (.int .i64 a0_1) := (blk_cell BK128.out 1).trans rfl
            have hcz42_2 : wc.cell? ⟨gb128, 2, none⟩ = some (.bool a0_2) := (blk_cell BK128.out 2).trans rfl
            have hcz42_3 : wc.cell? ⟨gb128, 3, none⟩ = some (.slice A0_3 l0_3.length c0_3) := (blk_cell BK128.out 3).trans rfl
            have hfz42_0 := blk_frozen BK128.out 0
            have hfz42_1 := blk_frozen BK128.out 1
            have hfz42_2 := blk_frozen BK128.out 2
            have hfz42_3 := blk_frozen BK128.out 3
            go_wp2
            go_loopg [9, 10] kj5 (fun kq v9 v10 w' => ∃ (x9_3 : Int) (x10_3 : List Int), v9 = .int .i64 x9_3 ∧ Aside0 (zzasn1_Marshal.l2 kq x5_5 x9_3 x10_3 a0_0 a0_1 a0_2 l0_3 = some (r1, r2)) ∧ Aside0 (kq ≤ kj5) ∧ Aside0 (Kd.R (Kd.int .u8) 5 w' w.heap.size (fun k_ => some k_ ≠ (v10 : Value).ownBlock) u5 x5_5) ∧ Aside0 (Kd.R (Kd.int .u8) 5 w' w.heap.size (fun k_ => some k_ ≠ (u5 : Value).ownBlock) v10 x10_3) ∧ Aside0 (w'.heap[gb128]? = some (.cells #[.int .i64 a0_0, .int .i64 a0_1, .bool a0_2, (.slice A0_3 l0_3.length c0_3)] 100 (0, 0))) ∧ Aside0 (Below w.heap.size w w'))
            case atStart => exact ⟨((l0_3.length : Int)), (([] : List Int)), (by first | rfl | (simp; done) | (simp [*]; done)), H', ⟨Nat.le_refl _⟩, ⟨by (with_reducible repeat (first | apply Kd.R_alloc | apply Kd.R_drewN | apply Kd.R_drew)); exact Kd.R_mono HO_5.out (fun _ hk => (by simp [Value.ownBlock]))⟩, ⟨by first | exact Kd.R_nil _ _ _ _ _ | exact Kd.N_nil _ _ _ _ _ | exact Kd.V_nil _ _ _ _ _ | exact Kd.Q_nil _ _ _ _ _ | exact Kd.S_nil _ _ _ _ _⟩, ⟨by (with_reducible repeat (first | refine blk_drewN ?_ _ | refine blk_drew ?_ | refine blk_alloc ?_ _)); exact BK128.out⟩, ⟨by repeat (first | (with_reducible first | exact HB.out | apply below_alloc | apply pw_below_drewN | apply below_drew1 | refine below_set ?_ GE128.out) | exact HB.out)⟩⟩
            case round =>
              clear H'
              try clear c1
              try clear p1
              try clear q1
              try clear hx1
              try clear c2
              try clear p2
              try clear q2
              try clear hx2
              try clear hf2
              try clear c3
              try clear c5
              try clear c6
              try clear p6
              try clear c8
              try clear c8b0
              try clear c9
              try clear c12
              try clear p14
              try clear q14
              try clear hx14
              try clear c15
              try clear c16
              try clear c16b0
              try clear c16b1
              try clear c21
              try clear c21b0
              try clear c22
              try clear c22b0
              try clear c23
              try clear c23b0
              try clear p24
              try clear q24
              try clear hx24
              try clear hf24
              try clear c28
              try clear c35
              try clear c35b0
              try clear c35b1
              try clear c36
              try clear c37
              try clear hcz10_0
              try clear hcz10_1
              try clear hcz10_2
              try clear hcz10_3
              try clear hcz14_0
              try clear hcz14_1
              try clear hcz14_2
              try clear hcz14_3
              try clear hcz38_0
              try clear hcz38_1
              try clear hcz38_2
              try clear hcz38_3
              try clear hcz40_0
              try clear hcz40_1
              try clear hcz40_2
              try clear hcz40_3
              try clear hcz42_0
              try clear hcz42_1
              try clear hcz42_2
              try clear hcz42_3
              try clear hcz4_0
              try clear hcz4_1
              try clear hcz4_2
              try clear hcz4_3
              try clear hcz7_0
              try clear hcz7_1
              try clear hcz7_2
              try clear hcz7_3
              try clear hfz10_0
              try clear hfz10_1
              try clear hfz10_2
              try clear hfz10_3
              try clear hfz14_0
              try clear hfz14_1
              try clear hfz14_2
              try clear hfz14_3
              try clear hfz38_0
              try clear hfz38_1
              try clear hfz38_2
              try clear hfz38_3
              try clear hfz40_0
              try clear hfz40_1
              try clear hfz40_2
              try clear hfz40_3
              try clear hfz42_0
              try clear hfz42_1
              try clear hfz42_2
              try clear hfz42_3
              try clear hfz4_0
              try clear hfz4_1
              try clear hfz4_2
              try clear hfz4_3
              try clear hfz7_0
              try clear hfz7_1
              try clear hfz7_2
              try clear hfz7_3
              try clear hx141_0
              try clear hx24_0
              try clear p1
              try clear p14
              try clear p141
              try clear p2
              try clear p24
              try clear p6
              try clear q1
              try clear q14
              try clear q141
              try clear q2
              try clear q24
              obtain ⟨x9_3, x10_3, rfl, HA, HK3, HO_5, HO_10, BK128, HB⟩ := hrel
              cases gk with
              | zero => exact absurd HA.out (by simp [zzasn1_Marshal.l2])
              | succ k3 =>
                have H := HA.out
                clear HA
                simp only [zzasn1_Marshal.l2] at H
                by_cases c43 : x9_3 > 0
                · rw [if_pos c43] at H
                  have c43b0 : decide (0 < x9_3) = true := decide_eq_true c43
                  clear c43
                  obtain ⟨y152, hy152⟩ : ∃ y_ : List Int, y_ = (([(x9_3) % 256] : List Int)) := ⟨_, rfl⟩
                  replace H : (if y152.length + x10_3.length < 140737488355328 then (zzasn1_Marshal.l2 k3 x5_5 (x9_3 / 256) (y152 ++ x10_3) a0_0 a0_1 a0_2 l0_3) else (none)) = some (r1, r2) := by first | (rw [hy152]; with_reducible exact H) | (have H2_ := (Option.bind_some _ _).symm.trans H; rw [hy152]; with_reducible exact H2_) | (have H2_ := (Option.bind_some _ _).symm.trans H; with_reducible exact H2_) | with_reducible exact H | (rw [hy152]; exact H) | exact H
                  have Ny152 := Aside0.mk hy152
                  clear hy152
                  by_cases c44 : y152.length + x10_3.length < 140737488355328
                  · rw [if_pos c44] at H
                    have LMc44 := Aside0.mk c44
                    clear c44
                    obtain ⟨y155, hy155⟩ : ∃ y_ : List Int, y_ = (y152 ++ x10_3) := ⟨_, rfl⟩
                    replace H : (zzasn1_Marshal.l2 k3 x5_5 (x9_3 / 256) y155 a0_0 a0_1 a0_2 l0_3) = some (r1, r2) := by first | (rw [hy155]; with_reducible exact H) | (have H2_ := (Option.bind_some _ _).symm.trans H; rw [hy155]; with_reducible exact H2_) | (have H2_ := (Option.bind_some _ _).symm.trans H; with_reducible exact H2_) | with_reducible exact H | (rw [hy155]; exact H) | exact H
                    have Ny155 := Aside0.mk hy155
                    clear hy155
                    have H' := Aside0.mk H
                    clear H
                    go_wp2_with (first | ((with_reducible refine gate_dst (N := 80) rfl ?_); refine Kd.R_lit (Kd.int .u8) _ 5 ?hg (N := 80) ?hd (xs := ([(x9_3) % 256] : List Int)) (inner := [.int .u8 ((x9_3) % 256)]) (ok := fun _ => True) (okp := fun _ => True) ?hr ?hp (fun _ hk => hk) trivial (Below.refl _ _) (Nat.le_refl _) (by simp) ?_; (case hd => rfl); (case hg => rfl); (case hr => first | (go_simp; done) | (go_simp; rfl)); (case hp => exact (Reps.one (show Kd.M (Kd.int .u8) _ _ _ ((x9_3) % 256) [.int .u8 ((x9_3) % 256)] from rfl) (Reps.none _ _))); intro v153 w45 ho46 hb hg_ hnew_; clear hg_ hnew_; (first | rw [← Ny152.out] at ho46 | (simp only [Int.reduceToNat] at ho46; rw [← Ny152.out] at ho46)); have n0_ := Aside0.mk (Kd.R_elder' (by (with_reducible repeat (first | apply Kd.R_alloc | apply Kd.R_drewN | apply Kd.R_drew)); exact HO_5.out) (Kd.R_base ho46) hb); have n1_ := Aside0.mk (Kd.R_elder' (by (with_reducible repeat (first | apply Kd.R_alloc | apply Kd.R_drewN | apply Kd.R_drew)); exact HO_10.out) (Kd.R_base ho46) hb); have n2_ := Aside0.mk (Kd.R_lower (Kd.R_new' (Kd.R_new' ho46 (Kd.R_lt (by (with_reducible repeat (first | apply Kd.R_alloc | apply Kd.R_drewN | apply Kd.R_drew)); exact HO_5.out))) (Kd.R_lt (by (with_reducible repeat (first | apply Kd.R_alloc | apply Kd.R_drewN | apply Kd.R_drew)); exact HO_10.out))) (below_size (by repeat (first | (with_reducible first | exact HB.out | apply below_alloc | apply pw_below_drewN | apply below_drew1 | refine below_set ?_ GE128.out) | exact HB.out)))); have n3_ := Aside0.mk (blk_below (g := gb128) (o := .cells #[.int .i64 a0_0, .int .i64 a0_1, .bool a0_2, .slice A0_3 l0_3.length c0_3] 100 (0, 0)) (by (with_reducible repeat (first | refine blk_drewN ?_ _ | refine blk_drew ?_ | refine blk_alloc ?_ _)); exact BK128.out) hb); have n4_ := Aside0.mk (below_step (by repeat (first | (with_reducible first | exact HB.out | apply below_alloc | apply pw_below_drewN | apply below_drew1 | refine below_set ?_ GE128.out) | exact HB.out)) hb); clear HO_5; clear HO_10; clear BK128; clear HB; have HO_5 := n0_; have HO_10 := n1_; have HO154 := n2_; have BK128 := n3_; have HB := n4_; clear n0_ n1_ n2_ n3_ n4_; clear hb ho46; obtain ⟨Ao48, co48, eo48⟩ := Kd.R_slice HO_10.out; subst eo48) | ((with_reducible refine gate_builtin (b := .append) (xs := #[.tmp 80, .tmp 81]) rfl ?_); at_builtin; refine Kd.R_append_rows (Kd.int .u8) (w0 := w) w.heap.size rfl (.tmp 80) (.tmp 81) 25 5 (.int .u8 0) 1 rfl Try.underlying25 info5 rfl (by decide) (by omega) v153 y152 x10_3 _ _ _ (fun k_ => some k_ ≠ (u5 : Value).ownBlock ∧ some k_ ≠ (.slice Ao48 x10_3.length co48 : Value).ownBlock) (fun _ => False) rfl rfl ?aO ?aR (fun _ _ h => h) (fun _ h => h.elim) ?aF ?aB ?aS ?aL ?_; (case aR => repeat (first | exact (Kd.R_reads' HO_10.out).2.2 | (with_reducible refine Kd.C_alloc ?_ _) | (with_reducible refine Kd.C_drewN ?_ _) | (with_reducible refine Kd.C_drew ?_))); (case aB => exact (by repeat (first | (with_reducible first | exact HB.out | apply below_alloc | apply pw_below_drewN | apply below_drew1 | refine below_set ?_ GE128.out) | exact HB.out))); (case aF => exact (fun k_ hk => ⟨Kd.fresh' (Kd.R_lt (by (with_reducible repeat (first | apply Kd.R_alloc | apply Kd.R_drewN | apply Kd.R_drew)); exact HO_5.out)) k_ hk, Kd.fresh' (Kd.R_lt (by (with_reducible repeat (first | apply Kd.R_alloc | apply Kd.R_drewN | apply Kd.R_drew)); exact HO_10.out)) k_ hk⟩)); (case aO => exact (by (with_reducible repeat (first | apply Kd.R_alloc | apply Kd.R_drewN | apply Kd.R_drew)); exact Kd.R_mono HO154.out (fun _ hk => ⟨hk.1.2, hk.2⟩))); (case aS => exact (below_size (by repeat (first | (with_reducible first | exact HB.out | apply below_alloc | apply pw_below_drewN | apply below_drew1 | refine below_set ?_ GE128.out) | exact HB.out)))); (case aL => have := LMc44.out; omega); intro v156 w47 ho hb hg hat; rw [← Ny155.out] at ho; have n0_ := Aside0.mk (Kd.R_after (ok := (fun k_ => some k_ ≠ (.slice Ao48 x10_3.length co48 : Value).ownBlock)) (by (with_reducible repeat (first | apply Kd.R_alloc | apply Kd.R_drewN | apply Kd.R_drew)); exact HO_5.out) hg hat); have n1_ := Aside0.mk (Kd.R_after (ok := (fun k_ => some k_ ≠ (u5 : Value).ownBlock)) (by (with_reducible repeat (first | apply Kd.R_alloc | apply Kd.R_drewN | apply Kd.R_drew)); exact HO_10.out) hg hat); have n2_ := Aside0.mk (blk_grown (g := gb128) (o := .cells #[.int .i64 a0_0, .int .i64 a0_1, .bool a0_2, .slice A0_3 l0_3.length c0_3] 100 (0, 0)) (by (with_reducible repeat (first | refine blk_drewN ?_ _ | refine blk_drew ?_ | refine blk_alloc ?_ _)); exact BK128.out) hg (Kd.R_ne HO154.out BK128.out (by decide))); have n3_ := Aside0.mk (hb); have n4_ := Aside0.mk (ho); clear HO_5; clear HO_10; clear BK128; clear HB; clear HO154; have HO_5 := n0_; have HO_10 := n1_; have BK128 := n2_; have HB := n3_; have HO157 := n4_; clear n0_ n1_ n2_ n3_ n4_; clear ho hb hg hat))
                    go_roundg k3
                    case measure => have := HJ1.out; have := HJ5.out; have := HK3.out; omega
                    case rel => exact ⟨(x9_3 / 256), (y155), (by first | rfl | (simp; done) | (simp [*]; done)), H', ⟨by have := HJ1.out; have := HJ5.out; have := HK3.out; omega⟩, ⟨by (with_reducible repeat (first | apply Kd.R_alloc | apply Kd.R_drewN | apply Kd.R_drew)); exact Kd.R_mono HO_5.out (fun _ hk => hk.2)⟩, ⟨by (with_reducible repeat (first | apply Kd.R_alloc | apply Kd.R_drewN | apply Kd.R_drew)); exact Kd.R_mono HO157.out (fun _ hk => hk.1)⟩, ⟨by (with_reducible repeat (first | refine blk_drewN ?_ _ | refine blk_drew ?_ | refine blk_alloc ?_ _)); exact BK128.out⟩, ⟨by repeat (first | (with_reducible first | exact HB.out | apply below_alloc | apply pw_below_drewN | apply below_drew1 | refine below_set ?_ GE128.out) | exact HB.out)⟩⟩
                  · rw [if_neg c44] at H
                    exact absurd H (by simp)
                · rw [if_neg c43] at H
                  have c43b0 : decide (0 < x9_3) = false := decide_eq_false c43
                  clear c43
                  by_cases c49 : x5_5.length < 140737488355328
                  · rw [if_pos c49] at H
                    have LMc49 := Aside0.mk c49
                    clear c49
                    obtain ⟨y158, hy158⟩ : ∃ y_ : List Int, y_ = (x5_5 ++ [Go.bits .or .u8 128 (((x10_3.length : Int)) % 256)]) := ⟨_, rfl⟩
                    replace H : (if y158.length + x10_3.length < 140737488355328 then ((some (y158 ++ x10_3 : List Int)).bind fun y161 => (if y161.length + l0_3.length < 140737488355328 then (some ((y161 ++ l0_3), none)) else (none))) else (none)) = some (r1, r2) := by first | (rw [hy158]; with_reducible exact H) | (have H2_ := (Option.bind_some _ _).symm.trans H; rw [hy158]; with_reducible exact H2_) | (have H2_ := (Option.bind_some _ _).symm.trans H; with_reducible exact H2_) | with_reducible exact H | (rw [hy158]; exact H) | exact H
                    have Ny158 := Aside0.mk hy158
                    clear hy158
                    by_cases c50 : y158.length + x10_3.length < 140737488355328
                    · rw [if_pos c50] at H
                      have LMc50 := Aside0.mk c50
                      clear c50
                      obtain ⟨y161, hy161⟩ : ∃ y_ : List Int, y_ = (y158 ++ x10_3) := ⟨_, rfl⟩
                      replace H : (if y161.length + l0_3.length < 140737488355328 then (some ((y161 ++ l0_3), none)) else (none)) = some (r1, r2) := by first | (rw [hy161]; with_reducible exact H) | (have H2_ := (Option.bind_some _ _).symm.trans H; rw [hy161]; with_reducible exact H2_) | (have H2_ := (Option.bind_some _ _).symm.trans H; with_reducible exact H2_) | with_reducible exact H | (rw [hy161]; exact H) | exact H
                      have Ny161 := Aside0.mk hy161
                      clear hy161
                      by_cases c51 : y161.length + l0_3.length < 140737488355328
                      · rw [if_pos c51] at H
                        have LMc51 := Aside0.mk c51
                        clear c51
                        obtain ⟨y164, hy164⟩ : ∃ y_ : List Int, y_ = (y161 ++ l0_3) := ⟨_, rfl⟩
                        replace H : (some (y164, none)) = some (r1, r2) := by first | (rw [hy164]; with_reducible exact H) | (have H2_ := (Option.bind_some _ _).symm.trans H; rw [hy164]; with_reducible exact H2_) | (have H2_ := (Option.bind_some _ _).symm.trans H; with_reducible exact H2_) | with_reducible exact H | (rw [hy164]; exact H) | exact H
                        have Ny164 := Aside0.mk hy164
                        clear hy164
                        simp only [Option.some.injEq, Prod.mk.injEq] at H
                        obtain ⟨rfl, rfl⟩ := H
                        obtain ⟨Ao52, co52, eo52⟩ := Kd.R_slice HO_10.out
                        subst eo52
                        go_wp2_with (first | ((with_reducible refine gate_builtin (b := .append) (xs := #[.tmp 83, .tmp 88]) rfl ?_); at_builtin; refine Kd.R_append (Kd.int .u8) (w0 := w) w.heap.size rfl (.tmp 83) (.tmp 88) 25 5 (.int .u8 0) 1 rfl Try.underlying25 info5 rfl (by decide) (by omega) u5 x5_5 (Go.bits .or .u8 128 (((x10_3.length : Int)) % 256)) [.int .u8 (Go.bits .or .u8 128 (((x10_3.length : Int)) % 256))] (fun k_ => some k_ ≠ (.slice Ao52 x10_3.length co52 : Value).ownBlock) (fun _ => False) rfl rfl ?aP (fun _ hk => hk.elim) ?aF ?aO ?aB ?aS ?aL ?_; (case aP => exact rfl); (case aB => exact (by repeat (first | (with_reducible first | exact HB.out | apply below_alloc | apply pw_below_drewN | apply below_drew1 | refine below_set ?_ GE128.out) | exact HB.out))); (case aF => exact (fun k_ hk => Kd.fresh' (Kd.R_lt (by (with_reducible repeat (first | apply Kd.R_alloc | apply Kd.R_drewN | apply Kd.R_drew)); exact HO_10.out)) k_ hk)); (case aO => exact (by (with_reducible repeat (first | apply Kd.R_alloc | apply Kd.R_drewN | apply Kd.R_drew)); exact HO_5.out)); (case aS => exact (below_size (by repeat (first | (with_reducible first | exact HB.out | apply below_alloc | apply pw_below_drewN | apply below_drew1 | refine below_set ?_ GE128.out) | exact HB.out)))); (case aL => have := LMc49.out; omega); intro v159 w53 ho hb hg hat; rw [← Ny158.out] at ho; have n0_ := Aside0.mk (Kd.R_after (ok := (fun _ => True)) (by (with_reducible repeat (first | apply Kd.R_alloc | apply Kd.R_drewN | apply Kd.R_drew)); exact Kd.R_mono HO_10.out (fun _ hk => ⟨trivial, hk⟩)) hg hat); have n1_ := Aside0.mk (blk_grown (g := gb128) (o := .cells #[.int .i64 a0_0, .int .i64 a0_1, .bool a0_2, .slice A0_3 l0_3.length c0_3] 100 (0, 0)) (by (with_reducible repeat (first | refine blk_drewN ?_ _ | refine blk_drew ?_ | refine blk_alloc ?_ _)); exact BK128.out) hg (Kd.R_ne HO_5.out BK128.out (by decide))); have n2_ := Aside0.mk (hb); have n3_ := Aside0.mk (ho); clear HO_10; clear BK128; clear HB; clear HO_5; have HO_10 := n0_; have BK128 := n1_; have HB := n2_; have HO160 := n3_; clear n0_ n1_ n2_ n3_; clear ho hb hg hat) | ((with_reducible refine gate_builtin (b := .append) (xs := #[.tmp 89, .tmp 90]) rfl ?_); at_builtin; refine Kd.R_append_rows (Kd.int .u8) (w0 := w) w.heap.size rfl (.tmp 89) (.tmp 90) 25 5 (.int .u8 0) 1 rfl Try.underlying25 info5 rfl (by decide) (by omega) v159 y158 x10_3 _ _ _ (fun k_ => some k_ ≠ (.slice Ao52 x10_3.length co52 : Value).ownBlock) (fun _ => False) rfl rfl ?aO ?aR (fun _ _ h => h) (fun _ h => h.elim) ?aF ?aB ?aS ?aL ?_; (case aR => repeat (first | exact (Kd.R_reads' HO_10.out).2.2 | (with_reducible refine Kd.C_alloc ?_ _) | (with_reducible refine Kd.C_drewN ?_ _) | (with_reducible refine Kd.C_drew ?_))); (case aB => exact (by repeat (first | (with_reducible first | exact HB.out | apply below_alloc | apply pw_below_drewN | apply below_drew1 | refine below_set ?_ GE128.out) | exact HB.out))); (case aF => exact (fun k_ hk => Kd.fresh' (Kd.R_lt (by (with_reducible repeat (first | apply Kd.R_alloc | apply Kd.R_drewN | apply Kd.R_drew)); exact HO_10.out)) k_ hk)); (case aO => exact (by (with_reducible repeat (first | apply Kd.R_alloc | apply Kd.R_drewN | apply Kd.R_drew)); exact HO160.out)); (case aS => exact (below_size (by repeat (first | (with_reducible first | exact HB.out | apply below_alloc | apply pw_below_drewN | apply below_drew1 | refine below_set ?_ GE128.out) | exact HB.out)))); (case aL => have := LMc50.out; omega); intro v162 w54 ho hb hg hat; rw [← Ny161.out] at ho; have n0_ := Aside0.mk (Kd.R_after (ok := (fun _ => True)) (by (with_reducible repeat (first | apply Kd.R_alloc | apply Kd.R_drewN | apply Kd.R_drew)); exact HO_10.out) hg hat); have n1_ := Aside0.mk (blk_grown (g := gb128) (o := .cells #[.int .i64 a0_0, .int .i64 a0_1, .bool a0_2, .slice A0_3 l0_3.length c0_3] 100 (0, 0)) (by (with_reducible repeat (first | refine blk_drewN ?_ _ | refine blk_drew ?_ | refine blk_alloc ?_ _)); exact BK128.out) hg (Kd.R_ne HO160.out BK128.out (by decide))); have n2_ := Aside0.mk (hb); have n3_ := Aside0.mk (ho); clear HO_10; clear BK128; clear HB; clear HO160; have HO_10 := n0_; have BK128 := n1_; have HB := n2_; have HO163 := n3_; clear n0_ n1_ n2_ n3_; clear ho hb hg hat; have hcz55_0 : w54.cell? ⟨gb128, 0, none⟩ = some (.int .i64 a0_0) := (blk_cell BK128.out 0).trans rfl; have hcz55_1 : w54.cell? ⟨gb128, 1, none⟩ = some (.int .i64 a0_1) := (blk_cell BK128.out 1).trans rfl; have hcz55_2 : w54.cell? ⟨gb128, 2, none⟩ = some (.bool a0_2) := (blk_cell BK128.out 2).trans rfl; have hcz55_3 : w54.cell? ⟨gb128, 3, none⟩ = some (.slice A0_3 l0_3.length c0_3) := (blk_cell BK128.out 3).trans rfl; have hfz55_0 := blk_frozen BK128.out 0; have hfz55_1 := blk_frozen BK128.out 1; have hfz55_2 := blk_frozen BK128.out 2; have hfz55_3 := blk_frozen BK128.out 3) | ((with_reducible refine gate_builtin (b := .append) (xs := #[.tmp 92, .tmp 94]) rfl ?_); at_builtin; refine Kd.R_append_rows (Kd.int .u8) (w0 := w) w.heap.size rfl (.tmp 92) (.tmp 94) 25 5 (.int .u8 0) 1 rfl Try.underlying25 info5 rfl (by decide) (by omega) v162 y161 l0_3 _ _ _ (fun k_ => some k_ ≠ (.slice Ao52 x10_3.length co52 : Value).ownBlock) (fun _ => False) rfl rfl ?aO ?aR (fun _ _ h => h) (fun _ h => h.elim) ?aF ?aB ?aS ?aL ?_; (case aR => repeat (first | exact (Kd.C_below HR0_3.out HB.out) | (with_reducible refine Kd.C_alloc ?_ _) | (with_reducible refine Kd.C_drewN ?_ _) | (with_reducible refine Kd.C_drew ?_))); (case aB => exact (by repeat (first | (with_reducible first | exact HB.out | apply below_alloc | apply pw_below_drewN | apply below_drew1 | refine below_set ?_ GE128.out) | exact HB.out))); (case aF => exact (fun k_ hk => Kd.fresh' (Kd.R_lt (by (with_reducible repeat (first | apply Kd.R_alloc | apply Kd.R_drewN | apply Kd.R_drew)); exact HO_10.out)) k_ hk)); (case aO => exact (by (with_reducible repeat (first | apply Kd.R_alloc | apply Kd.R_drewN | apply Kd.R_drew)); exact HO163.out)); (case aS => exact (below_size (by repeat (first | (with_reducible first | exact HB.out | apply below_alloc | apply pw_below_drewN | apply below_drew1 | refine below_set ?_ GE128.out) | exact HB.out)))); (case aL => have := LMc51.out; omega); intro v165 w56 ho hb hg hat; rw [← Ny164.out] at ho; have n0_ := Aside0.mk (Kd.R_after (ok := (fun _ => True)) (by (with_reducible repeat (first | apply Kd.R_alloc | apply Kd.R_drewN | apply Kd.R_drew)); exact HO_10.out) hg hat); have n1_ := Aside0.mk (blk_grown (g := gb128) (o := .cells #[.int .i64 a0_0, .int .i64 a0_1, .bool a0_2, .slice A0_3 l0_3.length c0_3] 100 (0, 0)) (by (with_reducible repeat (first | refine blk_drewN ?_ _ | refine blk_drew ?_ | refine blk_alloc ?_ _)); exact BK128.out) hg (Kd.R_ne HO163.out BK128.out (by decide))); have n2_ := Aside0.mk (hb); have n3_ := Aside0.mk (ho); clear HO_10; clear BK128; clear HB; clear HO163; have HO_10 := n0_; have BK128 := n1_; have HB := n2_; have HO166 := n3_; clear n0_ n1_ n2_ n3_; clear ho hb hg hat))
                        go_ret2
                        exact ⟨_, by first | rfl | (simp [errW_none, errW_some] <;> rfl) | (simp [*, errW_none, errW_some] <;> rfl), by (with_reducible repeat (first | apply Kd.R_alloc | apply Kd.R_drewN | apply Kd.R_drew)); exact Kd.R_mono HO166.out (fun _ hk => trivial), by repeat (first | (with_reducible first | exact HB.out | apply below_alloc | apply pw_below_drewN | apply below_drew1 | refine below_set ?_ GE128.out) | exact HB.out)⟩
                      · rw [if_neg c51] at H
                        exact absurd H (by simp)
                    · rw [if_neg c50] at H
                      exact absurd H (by simp)
                  · rw [if_neg c49] at H
                    exact absurd H (by simp)

end Go.Proofs.Ythgcpicflmigjaa.Q

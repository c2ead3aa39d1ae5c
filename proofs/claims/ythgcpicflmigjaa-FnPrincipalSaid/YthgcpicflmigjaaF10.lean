/- Go functions of this seat come to the answers of the Lean functions that stand here ('.calls'), under what each theorem states and nothing else. Written by pw.py, a program of this session, with texts of its own. -/
import Derived.Test.YthgcpicflmigjaaF0
import Derived.Test.YthgcpicflmigjaaF5
namespace Go.Proofs.Ythgcpicflmigjaa.F
open Go.RowKit Go.Proofs.YthgcpicflmigjaaW.PrintWords Go.Proofs.YthgcpicflmigjaaW.PrintLast Go.Proofs.YthgcpicflmigjaaW.PrintMore
attribute [local go_sem] max2_int min2_int max_two min_two max_three min_three max_four min_four   -- for this text's walks alone
set_option linter.unusedVariables false
set_option linter.unusedSimpArgs false
set_option maxRecDepth 100000

/-! ### impl_PrincipalOf: function 35 -/
def impl_PrincipalOf.f (k : Nat) (a0 : Int) (a1 : ByteArray) : Option (Int × List ByteArray) := (types_NewPrincipalName.f k a0 a1).bind fun bt214 => (some (bt214.1, bt214.2))
set_option maxRecDepth 100000 in
theorem impl_PrincipalOf.mono : ∀ a0 a1 k, LeO (impl_PrincipalOf.f k a0 a1) (impl_PrincipalOf.f (k + 1) a0 a1) := by
  intro a0 a1 k
  unfold impl_PrincipalOf.f
  repeat' first
      | (with_reducible exact types_NewPrincipalName.mono _ _ _)
      | (with_reducible exact LeO.refl _)
      | (with_reducible exact LeO.none _)
      | (with_reducible refine LeO.ite ?_ ?_)
      | (with_reducible refine LeO.bind ?_ (fun _ => ?_))
      | exact types_NewPrincipalName.mono _ _ _
      | exact LeO.none _
      | refine LeO.ite ?_ ?_
      | refine LeO.bind ?_ (fun _ => ?_)
set_option maxHeartbeats 8000000 in
set_option maxRecDepth 100000 in
theorem impl_PrincipalOf.calls (k : Nat) (a0 : Int) (a1 : ByteArray) (r1 : Int) (r2 : List ByteArray) (w : World) (h : impl_PrincipalOf.f k a0 a1 = some (r1, r2)) :
    Calls Try.prog 35 #[.int .i32 a0, .string a1] w fun e w' => ∃ v1_ : Value, e = .returned (.agg #[.int .i32 r1, v1_]) ∧ Kd.R Kd.string 9 w' w.heap.size (fun _ => True) v1_ r2 ∧ Below w.heap.size w w' := by
  have hu53 := Try.underlying53
  have hu88 := Try.underlying88
  have HB := Aside0.mk (Below.refl w.heap.size w)
  have H : ((types_NewPrincipalName.f k a0 a1).bind fun bt214 => (some (bt214.1, bt214.2))) = some (r1, r2) := h
  clear h
  replace H := Option.bind_eq_some_iff.mp H
  obtain ⟨⟨t214, t215⟩, A30, H⟩ := H
  replace H : (some (t214, t215)) = some (r1, r2) := H
  have A3 := Aside0.mk A30
  clear A30
  simp only [Option.some.injEq, Prod.mk.injEq] at H
  obtain ⟨rfl, rfl⟩ := H
  go_enter Try.func35, Try.ntmps35
  go_wp2_with (first | ((with_reducible refine gate_dst (N := 4) rfl ?_); refine box_event ?hg (N := 4) ?hd (cs := #[.int .i32 0, .slice none 0 0]) (t := 53) ?hr ?_; (case hd => rfl); (case hg => rfl); (case hr => first | (go_simp; done) | (go_simp; rfl)); intro gb213 hg w4 hbox hb; have n0_ := Aside0.mk (below_step (by repeat (first | (with_reducible first | exact HB.out | apply below_alloc | apply pw_below_drewN | apply below_drew1) | exact HB.out)) hb); have n1_ := Aside0.mk (hbox); have n2_ := Aside0.mk ((by rw [hg]; exact (below_size (by repeat (first | (with_reducible first | exact HB.out | apply below_alloc | apply pw_below_drewN | apply below_drew1) | exact HB.out))) : w.heap.size ≤ gb213)); have n3_ := Aside0.mk ((by rw [hg]; exact (below_size (by repeat (first | (with_reducible first | exact HB.out | apply below_alloc | apply pw_below_drewN | apply below_drew1) | exact HB.out))) : w.heap.size ≤ gb213)); clear HB; have HB := n0_; have BK213 := n1_; have GW213 := n2_; have GE213 := n3_; clear n0_ n1_ n2_ n3_; clear hb hbox hg) | ((with_reducible refine gate_callee (f := 60) rfl ?_); refine goesL_ (some 8) rfl rfl Try.func60 (by kernel_rfl) rfl #[.int .i32 a0, .string a1] rfl (by (try simp only [List.map_toArray, List.map_cons, List.map_nil]); first | done | rfl | (simp only [List.length_drop, List.length_take]; rfl)) ?_; (with_reducible refine (types_NewPrincipalName.calls k a0 a1 t214 t215 _ A3.out).mono ?_); rintro e w5 ⟨v216, rfl, ho0, hb⟩; refine ⟨_, rfl, ?_⟩; have n0_ := Aside0.mk (Kd.R_lower ho0 (below_size (by repeat (first | (with_reducible first | exact HB.out | apply below_alloc | apply pw_below_drewN | apply below_drew1 | refine below_set ?_ GE213.out) | exact HB.out)))); have n1_ := Aside0.mk (blk_below (g := gb213) (o := .cells #[.int .i32 0, .slice none 0 0] 53 (0, 0)) (by (with_reducible repeat (first | refine blk_drewN ?_ _ | refine blk_drew ?_ | refine blk_alloc ?_ _)); exact BK213.out) hb); have n2_ := Aside0.mk (below_step (by repeat (first | (with_reducible first | exact HB.out | apply below_alloc | apply pw_below_drewN | apply below_drew1 | refine below_set ?_ GE213.out) | exact HB.out)) hb); clear BK213; clear HB; have HO217 := n0_; have BK213 := n1_; have HB := n2_; clear n0_ n1_ n2_; (try clear hb); (try clear hb2); (try clear hk); (try clear hi); (try clear ho0)) | ((with_reducible refine gate_dst (N := 5) rfl ?_); refine box_event ?hg (N := 5) ?hd (cs := #[.int .i32 0, .slice none 0 0]) (t := 88) ?hr ?_; (case hd => rfl); (case hg => rfl); (case hr => first | (go_simp; done) | (go_simp; rfl)); intro gb218 hg w6 hbox hb; have n0_ := Aside0.mk (Kd.R_below (by (with_reducible repeat (first | apply Kd.R_alloc | apply Kd.R_drewN | apply Kd.R_drew)); exact HO217.out) hb); have n1_ := Aside0.mk (blk_below (g := gb213) (o := .cells #[.int .i32 0, .slice none 0 0] 53 (0, 0)) (by (with_reducible repeat (first | refine blk_drewN ?_ _ | refine blk_drew ?_ | refine blk_alloc ?_ _)); exact BK213.out) hb); have n2_ := Aside0.mk (below_step (by repeat (first | (with_reducible first | exact HB.out | apply below_alloc | apply pw_below_drewN | apply below_drew1 | refine below_set ?_ GE213.out) | exact HB.out)) hb); have n3_ := Aside0.mk (hbox); have n4_ := Aside0.mk ((by rw [hg]; exact (below_size (by repeat (first | (with_reducible first | exact HB.out | apply below_alloc | apply pw_below_drewN | apply below_drew1 | refine below_set ?_ GE213.out) | exact HB.out))) : w.heap.size ≤ gb218)); have n5_ := Aside0.mk ((by rw [hg]; exact (below_size (by repeat (first | (with_reducible first | exact HB.out | apply below_alloc | apply pw_below_drewN | apply below_drew1 | refine below_set ?_ GE213.out) | exact HB.out))) : w.heap.size ≤ gb218)); have n6_ := Aside0.mk ((by rw [hg]; exact Nat.ne_of_lt (blk_lt (g := gb213) (o := .cells #[.int .i32 0, .slice none 0 0] 53 (0, 0)) (by (with_reducible repeat (first | refine blk_drewN ?_ _ | refine blk_drew ?_ | refine blk_alloc ?_ _)); exact BK213.out)) : gb213 ≠ gb218)); have n7_ := Aside0.mk ((by rw [hg]; exact Nat.ne_of_gt (blk_lt (g := gb213) (o := .cells #[.int .i32 0, .slice none 0 0] 53 (0, 0)) (by (with_reducible repeat (first | refine blk_drewN ?_ _ | refine blk_drew ?_ | refine blk_alloc ?_ _)); exact BK213.out)) : gb218 ≠ gb213)); clear HO217; clear BK213; clear HB; have HO217 := n0_; have BK213 := n1_; have HB := n2_; have BK218 := n3_; have GW218 := n4_; have GE218 := n5_; have NB213_218 := n6_; have NB218_213 := n7_; clear n0_ n1_ n2_ n3_ n4_ n5_ n6_ n7_; clear hb hbox hg; have hnb7 := NB218_213.out; have hnc7 := NB213_218.out; have hcz8_0 : w6.cell? ⟨gb218, 0, none⟩ = some (.int .i32 0) := (blk_cell BK218.out 0).trans rfl; have hcz8_1 : w6.cell? ⟨gb218, 1, none⟩ = some (.slice none 0 0) := (blk_cell BK218.out 1).trans rfl; have hfz8_0 := blk_frozen BK218.out 0; have hfz8_1 := blk_frozen BK218.out 1; obtain ⟨Ao9, co9, eo9⟩ := Kd.R_slice HO217.out; subst eo9; have hcz10_0 : w6.cell? ⟨gb213, 0, none⟩ = some (.int .i32 0) := (blk_cell BK213.out 0).trans rfl; have hcz10_1 : w6.cell? ⟨gb213, 1, none⟩ = some (.slice none 0 0) := (blk_cell BK213.out 1).trans rfl; have hfz10_0 := blk_frozen BK213.out 0; have hfz10_1 := blk_frozen BK213.out 1))
  refine bodyPost_ret (results_cell_row rfl _ _ gb213 53 #[.int .i32 t214, .slice Ao9 t215.length co9] (0, 0) _ rfl (by (with_reducible repeat (first | refine blk_drewN ?_ _ | refine blk_drew ?_ | refine blk_alloc ?_ _)); refine blk_put (cs := #[.int .i32 t214, .slice none 0 0]) ?_ 1 _ rfl; (with_reducible repeat (first | refine blk_drewN ?_ _ | refine blk_drew ?_ | refine blk_alloc ?_ _)); refine blk_put (cs := #[.int .i32 0, .slice none 0 0]) ?_ 0 _ rfl; (with_reducible repeat (first | refine blk_drewN ?_ _ | refine blk_drew ?_ | refine blk_alloc ?_ _)); refine blk_far ?_ NB213_218.out _; (with_reducible repeat (first | refine blk_drewN ?_ _ | refine blk_drew ?_ | refine blk_alloc ?_ _)); refine blk_far ?_ NB213_218.out _; (with_reducible repeat (first | refine blk_drewN ?_ _ | refine blk_drew ?_ | refine blk_alloc ?_ _)); exact BK213.out) Try.underlying53 rfl (by kernel_rfl)) rfl ?_
  exact ⟨_, by first | rfl | (simp [errW_none, errW_some] <;> rfl) | (simp [*, errW_none, errW_some] <;> rfl), by (with_reducible repeat (first | apply Kd.R_alloc | apply Kd.R_drewN | apply Kd.R_drew)); exact Kd.R_mono (Kd.R_far (p := ⟨gb213, 1, none⟩) (Kd.R_far (p := ⟨gb213, 0, none⟩) (Kd.R_far (p := ⟨gb218, 1, none⟩) (Kd.R_far (p := ⟨gb218, 0, none⟩) (Kd.R_types (Kd.R_types HO217.out BK218.out (by decide)) BK213.out (by decide)) (fun _ hk => hk.1.2) (.int .i32 t214)) (fun _ hk => hk.1.2) (.slice Ao9 t215.length co9)) (fun _ hk => hk.2) (.int .i32 t214)) (fun _ hk => hk.2) (.slice Ao9 t215.length co9)) (fun _ hk => trivial), by repeat (first | (with_reducible first | exact HB.out | apply below_alloc | apply pw_below_drewN | apply below_drew1 | refine below_set ?_ GE213.out | refine below_set ?_ GE218.out) | exact HB.out)⟩

end Go.Proofs.Ythgcpicflmigjaa.F

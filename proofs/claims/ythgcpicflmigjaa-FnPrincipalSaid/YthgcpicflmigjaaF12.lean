/- Go functions of this seat come to the answers of the Lean functions that stand here ('.calls'), under what each theorem states and nothing else. Written by pw.py, a program of this session, with texts of its own. -/
import Derived.Test.YthgcpicflmigjaaF0
import Derived.Test.YthgcpicflmigjaaF8
import Derived.Test.YthgcpicflmigjaaF11
namespace Go.Proofs.Ythgcpicflmigjaa.F
open Go.RowKit Go.Proofs.YthgcpicflmigjaaW.PrintWords Go.Proofs.YthgcpicflmigjaaW.PrintLast Go.Proofs.YthgcpicflmigjaaW.PrintMore
attribute [local go_sem] max2_int min2_int max_two min_two max_three min_three max_four min_four   -- for this text's walks alone
set_option linter.unusedVariables false
set_option linter.unusedSimpArgs false
set_option maxRecDepth 100000

/-! ### types_PrincipalName_PrincipalNameString: function 61 -/
def types_PrincipalName_PrincipalNameString.f (a0_0 : Int) (l0_1 : List ByteArray) : Option (ByteArray) := (strings_Join.f l0_1 (⟨#[47]⟩ : ByteArray)).bind fun t220 => (some t220)
set_option maxHeartbeats 8000000 in
set_option maxRecDepth 100000 in
theorem types_PrincipalName_PrincipalNameString.calls (a0_0 : Int) (A0_1 : Option Addr) (c0_1 : Nat) (l0_1 : List ByteArray) (r : ByteArray) (w : World) (hr0_1 : Kd.C Kd.string w A0_1 l0_1.length l0_1) (hc0_1 : l0_1.length ≤ c0_1) (h : types_PrincipalName_PrincipalNameString.f a0_0 l0_1 = some r) :
    Calls Try.prog 61 #[.agg #[.int .i32 a0_0, .slice A0_1 l0_1.length c0_1]] w fun e w' => e = .returned (.string r) ∧ Below w.heap.size w w' := by
  have hu88 := Try.underlying88
  have HR0_1 := Aside0.mk hr0_1
  have HC0_1 := Aside0.mk hc0_1
  clear hr0_1 hc0_1
  have HB := Aside0.mk (Below.refl w.heap.size w)
  have H : ((strings_Join.f l0_1 (⟨#[47]⟩ : ByteArray)).bind fun t220 => (some t220)) = some r := h
  clear h
  replace H := Option.bind_eq_some_iff.mp H
  obtain ⟨t220, A20, H⟩ := H
  replace H : (some t220) = some r := H
  have A2 := Aside0.mk A20
  clear A20
  obtain rfl := Option.some.inj H
  go_enter Try.func61, Try.ntmps61
  go_wp2_with (first | ((with_reducible refine gate_dst (N := 1) rfl ?_); refine box_event ?hg (N := 1) ?hd (cs := #[.int .i32 a0_0, .slice A0_1 l0_1.length c0_1]) (t := 88) ?hr ?_; (case hd => rfl); (case hg => rfl); (case hr => first | (go_simp; done) | (go_simp; rfl)); intro gb219 hg w3 hbox hb; have n0_ := Aside0.mk (below_step (by repeat (first | (with_reducible first | exact HB.out | apply below_alloc | apply pw_below_drewN | apply below_drew1) | exact HB.out)) hb); have n1_ := Aside0.mk (hbox); have n2_ := Aside0.mk ((by rw [hg]; exact (below_size (by repeat (first | (with_reducible first | exact HB.out | apply below_alloc | apply pw_below_drewN | apply below_drew1) | exact HB.out))) : w.heap.size ≤ gb219)); have n3_ := Aside0.mk ((by rw [hg]; exact (below_size (by repeat (first | (with_reducible first | exact HB.out | apply below_alloc | apply pw_below_drewN | apply below_drew1) | exact HB.out))) : w.heap.size ≤ gb219)); clear HB; have HB := n0_; have BK219 := n1_; have GW219 := n2_; have GE219 := n3_; clear n0_ n1_ n2_ n3_; clear hb hbox hg; have hcz4_0 : w3.cell? ⟨gb219, 0, none⟩ = some (.int .i32 a0_0) := (blk_cell BK219.out 0).trans rfl; have hcz4_1 : w3.cell? ⟨gb219, 1, none⟩ = some (.slice A0_1 l0_1.length c0_1) := (blk_cell BK219.out 1).trans rfl; have hfz4_0 := blk_frozen BK219.out 0; have hfz4_1 := blk_frozen BK219.out 1) | ((with_reducible refine gate_callee (f := 67) rfl ?_); refine goesL_ (some 5) rfl rfl Try.func67 (by kernel_rfl) rfl #[.slice A0_1 l0_1.length c0_1, .string (⟨#[47]⟩ : ByteArray)] rfl (by (try simp only [List.map_toArray, List.map_cons, List.map_nil]); first | done | rfl | (simp only [List.length_drop, List.length_take]; rfl)) ?_; (with_reducible refine (strings_Join.calls _ _ l0_1 (⟨#[47]⟩ : ByteArray) t220 _ ?side1 ?side2 A2.out).mono ?_); (case side1 => repeat (first | exact (Kd.C_below HR0_1.out HB.out) | (with_reducible refine Kd.C_alloc ?_ _) | (with_reducible refine Kd.C_drewN ?_ _) | (with_reducible refine Kd.C_drew ?_))); (case side2 => exact HC0_1.out); rintro e w5 ⟨rfl, hb⟩; refine ⟨_, rfl, ?_⟩; have n0_ := Aside0.mk (blk_below (g := gb219) (o := .cells #[.int .i32 a0_0, .slice A0_1 l0_1.length c0_1] 88 (0, 0)) (by (with_reducible repeat (first | refine blk_drewN ?_ _ | refine blk_drew ?_ | refine blk_alloc ?_ _)); exact BK219.out) hb); have n1_ := Aside0.mk (below_step (by repeat (first | (with_reducible first | exact HB.out | apply below_alloc | apply pw_below_drewN | apply below_drew1 | refine below_set ?_ GE219.out) | exact HB.out)) hb); clear BK219; clear HB; have BK219 := n0_; have HB := n1_; clear n0_ n1_; (try clear hb); (try clear hb2); (try clear hk); (try clear hi)))
  go_ret
  exact ⟨by first | rfl | (simp [errW_none, errW_some] <;> rfl) | (simp [*, errW_none, errW_some] <;> rfl), by repeat (first | (with_reducible first | exact HB.out | apply below_alloc | apply pw_below_drewN | apply below_drew1 | refine below_set ?_ GE219.out) | exact HB.out)⟩

/-! ### impl_PrincipalText: function 36 -/
def impl_PrincipalText.f (a0_0 : Int) (l0_1 : List ByteArray) : Option (ByteArray) := (impl_principal.f a0_0 l0_1).bind fun bt222 => ((types_PrincipalName_PrincipalNameString.f bt222.1 bt222.2).bind fun t226 => (some t226))
set_option maxHeartbeats 8000000 in
set_option maxRecDepth 100000 in
theorem impl_PrincipalText.calls (a0_0 : Int) (A0_1 : Option Addr) (c0_1 : Nat) (l0_1 : List ByteArray) (r : ByteArray) (w : World) (hr0_1 : Kd.C Kd.string w A0_1 l0_1.length l0_1) (hc0_1 : l0_1.length ≤ c0_1) (h : impl_PrincipalText.f a0_0 l0_1 = some r) :
    Calls Try.prog 36 #[.agg #[.int .i32 a0_0, .slice A0_1 l0_1.length c0_1]] w fun e w' => e = .returned (.string r) ∧ Below w.heap.size w w' := by
  have hu53 := Try.underlying53
  have HR0_1 := Aside0.mk hr0_1
  have HC0_1 := Aside0.mk hc0_1
  clear hr0_1 hc0_1
  have HB := Aside0.mk (Below.refl w.heap.size w)
  have H : ((impl_principal.f a0_0 l0_1).bind fun bt222 => ((types_PrincipalName_PrincipalNameString.f bt222.1 bt222.2).bind fun t226 => (some t226))) = some r := h
  clear h
  replace H := Option.bind_eq_some_iff.mp H
  obtain ⟨⟨t222, t223⟩, A20, H⟩ := H
  replace H : ((types_PrincipalName_PrincipalNameString.f t222 t223).bind fun t226 => (some t226)) = some r := H
  have A2 := Aside0.mk A20
  clear A20
  replace H := Option.bind_eq_some_iff.mp H
  obtain ⟨t226, A30, H⟩ := H
  replace H : (some t226) = some r := H
  have A3 := Aside0.mk A30
  clear A30
  obtain rfl := Option.some.inj H
  go_enter Try.func36, Try.ntmps36
  go_wp2_with (first | ((with_reducible refine gate_dst (N := 1) rfl ?_); refine box_event ?hg (N := 1) ?hd (cs := #[.int .i32 a0_0, .slice A0_1 l0_1.length c0_1]) (t := 53) ?hr ?_; (case hd => rfl); (case hg => rfl); (case hr => first | (go_simp; done) | (go_simp; rfl)); intro gb221 hg w4 hbox hb; have n0_ := Aside0.mk (below_step (by repeat (first | (with_reducible first | exact HB.out | apply below_alloc | apply pw_below_drewN | apply below_drew1) | exact HB.out)) hb); have n1_ := Aside0.mk (hbox); have n2_ := Aside0.mk ((by rw [hg]; exact (below_size (by repeat (first | (with_reducible first | exact HB.out | apply below_alloc | apply pw_below_drewN | apply below_drew1) | exact HB.out))) : w.heap.size ≤ gb221)); have n3_ := Aside0.mk ((by rw [hg]; exact (below_size (by repeat (first | (with_reducible first | exact HB.out | apply below_alloc | apply pw_below_drewN | apply below_drew1) | exact HB.out))) : w.heap.size ≤ gb221)); clear HB; have HB := n0_; have BK221 := n1_; have GW221 := n2_; have GE221 := n3_; clear n0_ n1_ n2_ n3_; clear hb hbox hg; have hcz5_0 : w4.cell? ⟨gb221, 0, none⟩ = some (.int .i32 a0_0) := (blk_cell BK221.out 0).trans rfl; have hcz5_1 : w4.cell? ⟨gb221, 1, none⟩ = some (.slice A0_1 l0_1.length c0_1) := (blk_cell BK221.out 1).trans rfl; have hfz5_0 := blk_frozen BK221.out 0; have hfz5_1 := blk_frozen BK221.out 1) | ((with_reducible refine gate_callee (f := 58) rfl ?_); refine goesL_ (some 4) rfl rfl Try.func58 (by kernel_rfl) rfl #[.agg #[.int .i32 a0_0, .slice A0_1 l0_1.length c0_1]] rfl (by (try simp only [List.map_toArray, List.map_cons, List.map_nil]); first | done | rfl | (simp only [List.length_drop, List.length_take]; rfl)) ?_; (with_reducible refine (impl_principal.calls a0_0 (fun k_ => k_ < w.heap.size) _ _ l0_1 t222 t223 _ ?side1 A2.out).mono ?_); (case side1 => exact Kd.V_mk HC0_1.out (Kd.F_below (Kd.C_F Kd.heap_string HR0_1.out) (by repeat (first | (with_reducible first | exact HB.out | apply below_alloc | apply pw_below_drewN | apply below_drew1 | refine below_set ?_ GE221.out) | exact HB.out)))); rintro e w6 ⟨v224, rfl, ho0, hb⟩; refine ⟨_, rfl, ?_⟩; have n0_ := Aside0.mk (Kd.V_lower (Kd.V_mono (ok' := fun k_ => k_ ≠ gb221) ho0 (fun k_ hk_ => Or.elim hk_ (fun hs_ => fun e_ => Nat.not_le.2 hs_ (by rw [e_]; exact GW221.out)) (fun hn_ => (Kd.freshB (g := gb221) (o := .cells #[.int .i32 a0_0, .slice A0_1 l0_1.length c0_1] 53 (0, 0)) (by (with_reducible repeat (first | refine blk_drewN ?_ _ | refine blk_drew ?_ | refine blk_alloc ?_ _)); exact BK221.out) k_ hn_)))) (below_size (by repeat (first | (with_reducible first | exact HB.out | apply below_alloc | apply pw_below_drewN | apply below_drew1 | refine below_set ?_ GE221.out) | exact HB.out)))); have n1_ := Aside0.mk (blk_below (g := gb221) (o := .cells #[.int .i32 a0_0, .slice A0_1 l0_1.length c0_1] 53 (0, 0)) (by (with_reducible repeat (first | refine blk_drewN ?_ _ | refine blk_drew ?_ | refine blk_alloc ?_ _)); exact BK221.out) hb); have n2_ := Aside0.mk (below_step (by repeat (first | (with_reducible first | exact HB.out | apply below_alloc | apply pw_below_drewN | apply below_drew1 | refine below_set ?_ GE221.out) | exact HB.out)) hb); clear BK221; clear HB; have HO225 := n0_; have BK221 := n1_; have HB := n2_; clear n0_ n1_ n2_; (try clear hb); (try clear hb2); (try clear hk); (try clear hi); (try clear ho0); obtain ⟨Ao7, co7, eo7⟩ := Kd.V_slice HO225.out; subst eo7) | ((with_reducible refine gate_callee (f := 61) rfl ?_); refine goesL_ (some 5) rfl rfl Try.func61 (by kernel_rfl) rfl #[.agg #[.int .i32 t222, .slice Ao7 t223.length co7]] rfl (by (try simp only [List.map_toArray, List.map_cons, List.map_nil]); first | done | rfl | (simp only [List.length_drop, List.length_take]; rfl)) ?_; (with_reducible refine (types_PrincipalName_PrincipalNameString.calls t222 _ _ t223 t226 _ ?side1 ?side2 A3.out).mono ?_); (case side1 => repeat (first | exact (Kd.V_reads' HO225.out).2.2 | (with_reducible refine Kd.C_alloc ?_ _) | (with_reducible refine Kd.C_drewN ?_ _) | (with_reducible refine Kd.C_drew ?_))); (case side2 => exact (Kd.V_reads' HO225.out).2.1); rintro e w8 ⟨rfl, hb⟩; refine ⟨_, rfl, ?_⟩; have n0_ := Aside0.mk (Kd.V_below (by (with_reducible repeat (first | apply Kd.V_alloc | apply Kd.V_drewN | apply Kd.V_drew)); exact HO225.out) hb); have n1_ := Aside0.mk (blk_below (g := gb221) (o := .cells #[.int .i32 a0_0, .slice A0_1 l0_1.length c0_1] 53 (0, 0)) (by (with_reducible repeat (first | refine blk_drewN ?_ _ | refine blk_drew ?_ | refine blk_alloc ?_ _)); exact BK221.out) hb); have n2_ := Aside0.mk (below_step (by repeat (first | (with_reducible first | exact HB.out | apply below_alloc | apply pw_below_drewN | apply below_drew1 | refine below_set ?_ GE221.out) | exact HB.out)) hb); clear HO225; clear BK221; clear HB; have HO225 := n0_; have BK221 := n1_; have HB := n2_; clear n0_ n1_ n2_; (try clear hb); (try clear hb2); (try clear hk); (try clear hi)))
  go_ret
  exact ⟨by first | rfl | (simp [errW_none, errW_some] <;> rfl) | (simp [*, errW_none, errW_some] <;> rfl), by repeat (first | (with_reducible first | exact HB.out | apply below_alloc | apply pw_below_drewN | apply below_drew1 | refine below_set ?_ GE221.out) | exact HB.out)⟩

/-! ### types_PrincipalName_GetSalt: function 62 -/
def types_PrincipalName_GetSalt.l0 : Nat → List Int → List ByteArray → Int → Int → Option (ByteArray)
  | 0, _, _, _, _ => none
  | k + 1, x5, x12, x13, x14 => if x14 < x13 then (if 0 ≤ x14 then (if x14 < (x12.length : Int) then (if x5.length + (rdOf ByteArray.empty x12 x14).size < 140737488355328 then (types_PrincipalName_GetSalt.l0 k (x5 ++ bytesOf (rdOf ByteArray.empty x12 x14)) x12 x13 (wrap64 (x14 + 1))) else (none)) else (none)) else (none)) else (some (strOfNums x5))
def types_PrincipalName_GetSalt.f (k : Nat) (a0_0 : Int) (l0_1 : List ByteArray) (a1 : ByteArray) : Option (ByteArray) := if ([] : List Int).length + a1.size < 140737488355328 then (types_PrincipalName_GetSalt.l0 k (([] : List Int) ++ bytesOf a1) l0_1 (l0_1.length : Int) 0) else (none)
set_option maxRecDepth 100000 in
theorem types_PrincipalName_GetSalt.mono_l : ∀ k, (∀ y0 y1 y2 y3, LeO (types_PrincipalName_GetSalt.l0 k y0 y1 y2 y3) (types_PrincipalName_GetSalt.l0 (k + 1) y0 y1 y2 y3))
  | 0 => fun _ _ _ _ r h => by simp [types_PrincipalName_GetSalt.l0] at h
  | k + 1 => by
    have ih0 := types_PrincipalName_GetSalt.mono_l k
    · intro y0 y1 y2 y3
      unfold types_PrincipalName_GetSalt.l0
      repeat' first
      | (with_reducible exact ih0 _ _ _ _)
      | (with_reducible exact LeO.refl _)
      | (with_reducible exact LeO.none _)
      | (with_reducible refine LeO.ite ?_ ?_)
      | (with_reducible refine LeO.bind ?_ (fun _ => ?_))
      | exact ih0 _ _ _ _
      | exact LeO.none _
      | refine LeO.ite ?_ ?_
      | refine LeO.bind ?_ (fun _ => ?_)
set_option maxRecDepth 100000 in
theorem types_PrincipalName_GetSalt.mono : ∀ a0 a1 a2 k, LeO (types_PrincipalName_GetSalt.f k a0 a1 a2) (types_PrincipalName_GetSalt.f (k + 1) a0 a1 a2) := by
  intro a0 a1 a2 k
  have ih0 := types_PrincipalName_GetSalt.mono_l k
  unfold types_PrincipalName_GetSalt.f
  repeat' first
      | (with_reducible exact ih0 _ _ _ _)
      | (with_reducible exact LeO.refl _)
      | (with_reducible exact LeO.none _)
      | (with_reducible refine LeO.ite ?_ ?_)
      | (with_reducible refine LeO.bind ?_ (fun _ => ?_))
      | exact ih0 _ _ _ _
      | exact LeO.none _
      | refine LeO.ite ?_ ?_
      | refine LeO.bind ?_ (fun _ => ?_)
set_option maxHeartbeats 8000000 in
set_option maxRecDepth 100000 in
theorem types_PrincipalName_GetSalt.calls (k : Nat) (a0_0 : Int) (A0_1 : Option Addr) (c0_1 : Nat) (l0_1 : List ByteArray) (a1 : ByteArray) (r : ByteArray) (w : World) (hr0_1 : Kd.C Kd.string w A0_1 l0_1.length l0_1) (hc0_1 : l0_1.length ≤ c0_1) (h : types_PrincipalName_GetSalt.f k a0_0 l0_1 a1 = some r) :
    Calls Try.prog 62 #[.agg #[.int .i32 a0_0, .slice A0_1 l0_1.length c0_1], .string a1] w fun e w' => e = .returned (.string r) ∧ Below w.heap.size w w' := by
  have hu88 := Try.underlying88
  have HR0_1 := Aside0.mk hr0_1
  have HC0_1 := Aside0.mk hc0_1
  clear hr0_1 hc0_1
  have HB := Aside0.mk (Below.refl w.heap.size w)
  have H : (if ([] : List Int).length + a1.size < 140737488355328 then (types_PrincipalName_GetSalt.l0 k (([] : List Int) ++ bytesOf a1) l0_1 (l0_1.length : Int) 0) else (none)) = some r := h
  clear h
  by_cases c3 : ([] : List Int).length + a1.size < 140737488355328
  · rw [if_pos c3] at H
    have LMc3 := Aside0.mk c3
    clear c3
    obtain ⟨y228, hy228⟩ : ∃ y_ : List Int, y_ = (([] : List Int) ++ bytesOf a1) := ⟨_, rfl⟩
    replace H : (types_PrincipalName_GetSalt.l0 k y228 l0_1 (l0_1.length : Int) 0) = some r := by first | (rw [hy228]; with_reducible exact H) | (have H2_ := (Option.bind_some _ _).symm.trans H; rw [hy228]; with_reducible exact H2_) | (have H2_ := (Option.bind_some _ _).symm.trans H; with_reducible exact H2_) | with_reducible exact H | (rw [hy228]; exact H) | exact H
    have Ny228 := Aside0.mk hy228
    clear hy228
    have H' := Aside0.mk H
    clear H
    go_enter Try.func62, Try.ntmps62
    go_wp2_with (first | ((with_reducible refine gate_dst (N := 2) rfl ?_); refine box_event ?hg (N := 2) ?hd (cs := #[.int .i32 a0_0, .slice A0_1 l0_1.length c0_1]) (t := 88) ?hr ?_; (case hd => rfl); (case hg => rfl); (case hr => first | (go_simp; done) | (go_simp; rfl)); intro gb227 hg w4 hbox hb; have n0_ := Aside0.mk (below_step (by repeat (first | (with_reducible first | exact HB.out | apply below_alloc | apply pw_below_drewN | apply below_drew1) | exact HB.out)) hb); have n1_ := Aside0.mk (hbox); have n2_ := Aside0.mk ((by rw [hg]; exact (below_size (by repeat (first | (with_reducible first | exact HB.out | apply below_alloc | apply pw_below_drewN | apply below_drew1) | exact HB.out))) : w.heap.size ≤ gb227)); have n3_ := Aside0.mk ((by rw [hg]; exact (below_size (by repeat (first | (with_reducible first | exact HB.out | apply below_alloc | apply pw_below_drewN | apply below_drew1) | exact HB.out))) : w.heap.size ≤ gb227)); clear HB; have HB := n0_; have BK227 := n1_; have GW227 := n2_; have GE227 := n3_; clear n0_ n1_ n2_ n3_; clear hb hbox hg) | (at_builtin; refine print_append_str (w0 := w) w.heap.size rfl (.tmp 8) _ 25 9 5 rfl Try.underlying25 Try.underlying9 info5 (.slice none 0 0) ([] : List Int) a1 rfl rfl ?aO ?aB ?aS ?aL ?_; (case aB => exact (by repeat (first | (with_reducible first | exact HB.out | apply below_alloc | apply pw_below_drewN | apply below_drew1 | refine below_set ?_ GE227.out) | exact HB.out))); (case aO => exact (Kd.own_of_R (h1 := fun _ => rfl) ((Kd.R_nil _ _ _ _ (fun _ => True))))); (case aS => exact (below_size (by repeat (first | (with_reducible first | exact HB.out | apply below_alloc | apply pw_below_drewN | apply below_drew1 | refine below_set ?_ GE227.out) | exact HB.out)))); (case aL => have := LMc3.out; omega); intro v229 w5 ho0 hb hg; have ho := Kd.R_of_own (h1 := fun _ => rfl) (ok := fun _ => True) ho0 (fun _ _ => trivial); clear ho0; have hat := True.intro; rw [← Ny228.out] at ho; change Kd.R (Kd.int .u8) 5 w5 w.heap.size (fun _ => True) v229 y228 at ho; have n0_ := Aside0.mk (blk_grown (g := gb227) (o := .cells #[.int .i32 a0_0, .slice A0_1 l0_1.length c0_1] 88 (0, 0)) (by (with_reducible repeat (first | refine blk_drewN ?_ _ | refine blk_drew ?_ | refine blk_alloc ?_ _)); exact BK227.out) hg (by simp [Value.ownBlock])); have n1_ := Aside0.mk (hb); have n2_ := Aside0.mk (ho); clear BK227; clear HB; have BK227 := n0_; have HB := n1_; have HO230 := n2_; clear n0_ n1_ n2_; clear ho hb hg hat; have hcz6_0 : w5.cell? ⟨gb227, 0, none⟩ = some (.int .i32 a0_0) := (blk_cell BK227.out 0).trans rfl; have hcz6_1 : w5.cell? ⟨gb227, 1, none⟩ = some (.slice A0_1 l0_1.length c0_1) := (blk_cell BK227.out 1).trans rfl; have hfz6_0 := blk_frozen BK227.out 0; have hfz6_1 := blk_frozen BK227.out 1))
    go_loopg [5, 14] k (fun kq v5 v14 w' => ∃ (x5_1 : List Int) (x14_1 : Int), v14 = .int .i64 x14_1 ∧ Aside0 (types_PrincipalName_GetSalt.l0 kq x5_1 l0_1 (l0_1.length : Int) x14_1 = some r) ∧ Aside0 (kq ≤ k) ∧ Aside0 (Kd.R (Kd.int .u8) 5 w' w.heap.size (fun _ => True) v5 x5_1) ∧ Aside0 (w'.heap[gb227]? = some (.cells #[.int .i32 a0_0, (.slice A0_1 l0_1.length c0_1)] 88 (0, 0))) ∧ Aside0 (Below w.heap.size w w'))
    case atStart => exact ⟨(y228), (0), (by first | rfl | (simp; done) | (simp [*]; done)), H', ⟨Nat.le_refl _⟩, ⟨by (with_reducible repeat (first | apply Kd.R_alloc | apply Kd.R_drewN | apply Kd.R_drew)); exact HO230.out⟩, ⟨by (with_reducible repeat (first | refine blk_drewN ?_ _ | refine blk_drew ?_ | refine blk_alloc ?_ _)); exact BK227.out⟩, ⟨by repeat (first | (with_reducible first | exact HB.out | apply below_alloc | apply pw_below_drewN | apply below_drew1 | refine below_set ?_ GE227.out) | exact HB.out)⟩⟩
    case round =>
      clear H'
      try clear p2
      try clear c3
      try clear c6
      try clear hcz6_0
      try clear hcz6_1
      try clear hfz6_0
      try clear hfz6_1
      obtain ⟨x5_1, x14_1, rfl, HA, HK1, HO_5, BK227, HB⟩ := hrel
      cases gk with
      | zero => exact absurd HA.out (by simp [types_PrincipalName_GetSalt.l0])
      | succ k1 =>
        have H := HA.out
        clear HA
        simp only [types_PrincipalName_GetSalt.l0] at H
        by_cases c7 : x14_1 < (l0_1.length : Int)
        · rw [if_pos c7] at H
          have c7b0 : decide (x14_1 < (l0_1.length : Int)) = true := decide_eq_true c7
          clear c7
          by_cases c8 : 0 ≤ x14_1
          · rw [if_pos c8] at H
            have c8b0 : decide (0 ≤ x14_1) = true := decide_eq_true c8
            clear c8
            by_cases c9 : x14_1 < (l0_1.length : Int)
            · rw [if_pos c9] at H
              have c9b0 : decide (x14_1 < (l0_1.length : Int)) = true := decide_eq_true c9
              clear c9
              by_cases c10 : x5_1.length + (rdOf ByteArray.empty l0_1 x14_1).size < 140737488355328
              · rw [if_pos c10] at H
                have LMc10 := Aside0.mk c10
                clear c10
                obtain ⟨y232, hy232⟩ : ∃ y_ : List Int, y_ = (x5_1 ++ bytesOf (rdOf ByteArray.empty l0_1 x14_1)) := ⟨_, rfl⟩
                replace H : (types_PrincipalName_GetSalt.l0 k1 y232 l0_1 (l0_1.length : Int) (wrap64 (x14_1 + 1))) = some r := by first | (rw [hy232]; with_reducible exact H) | (have H2_ := (Option.bind_some _ _).symm.trans H; rw [hy232]; with_reducible exact H2_) | (have H2_ := (Option.bind_some _ _).symm.trans H; with_reducible exact H2_) | with_reducible exact H | (rw [hy232]; exact H) | exact H
                have Ny232 := Aside0.mk hy232
                clear hy232
                have H' := Aside0.mk H
                clear H
                have p231 : 0 ≤ (x14_1 : Int) := of_decide_eq_true (by first | (with_reducible assumption) | assumption)
                have q231 : x14_1 < (l0_1.length : Int) := of_decide_eq_true (by first | (with_reducible assumption) | assumption)
                obtain ⟨ad231, e231, hx231_0⟩ := Kd.at_string HR0_1.out x14_1 p231 q231
                cases e231
                replace hx231_0 := (HB.out.cell (World.block_lt_of_cell? w _ hx231_0)).trans hx231_0
                replace p231 := eq_true p231
                replace q231 := eq_true q231
                go_wp2_with (first | (at_builtin; refine print_append_str (w0 := w) w.heap.size rfl (.tmp 18) _ 25 9 5 rfl Try.underlying25 Try.underlying9 info5 u5 x5_1 (rdOf ByteArray.empty l0_1 x14_1) rfl rfl ?aO ?aB ?aS ?aL ?_; (case aB => exact (by repeat (first | (with_reducible first | exact HB.out | apply below_alloc | apply pw_below_drewN | apply below_drew1 | refine below_set ?_ GE227.out) | exact HB.out))); (case aO => exact (Kd.own_of_R (by (with_reducible repeat (first | apply Kd.R_alloc | apply Kd.R_drewN | apply Kd.R_drew)); exact HO_5.out))); (case aS => exact (below_size (by repeat (first | (with_reducible first | exact HB.out | apply below_alloc | apply pw_below_drewN | apply below_drew1 | refine below_set ?_ GE227.out) | exact HB.out)))); (case aL => have := LMc10.out; omega); intro v233 w11 ho0 hb hg; have ho := Kd.R_of_own (h1 := fun _ => rfl) (ok := fun _ => True) ho0 (fun _ _ => trivial); clear ho0; have hat := True.intro; rw [← Ny232.out] at ho; change Kd.R (Kd.int .u8) 5 w11 w.heap.size (fun _ => True) v233 y232 at ho; have n0_ := Aside0.mk (blk_grown (g := gb227) (o := .cells #[.int .i32 a0_0, .slice (some ad231) l0_1.length c0_1] 88 (0, 0)) (by (with_reducible repeat (first | refine blk_drewN ?_ _ | refine blk_drew ?_ | refine blk_alloc ?_ _)); exact BK227.out) hg (Kd.R_ne HO_5.out BK227.out (by decide))); have n1_ := Aside0.mk (hb); have n2_ := Aside0.mk (ho); clear BK227; clear HB; clear HO_5; have BK227 := n0_; have HB := n1_; have HO234 := n2_; clear n0_ n1_ n2_; clear ho hb hg hat))
                go_roundg k1
                case measure => have := HK1.out; omega
                case rel => exact ⟨(y232), (wrap64 (x14_1 + 1)), (by first | rfl | (simp; done) | (simp [*]; done)), H', ⟨by have := HK1.out; omega⟩, ⟨by (with_reducible repeat (first | apply Kd.R_alloc | apply Kd.R_drewN | apply Kd.R_drew)); exact HO234.out⟩, ⟨by (with_reducible repeat (first | refine blk_drewN ?_ _ | refine blk_drew ?_ | refine blk_alloc ?_ _)); exact BK227.out⟩, ⟨by repeat (first | (with_reducible first | exact HB.out | apply below_alloc | apply pw_below_drewN | apply below_drew1 | refine below_set ?_ GE227.out) | exact HB.out)⟩⟩
              · rw [if_neg c10] at H
                exact absurd H (by simp)
            · rw [if_neg c9] at H
              exact absurd H (by simp)
          · rw [if_neg c8] at H
            exact absurd H (by simp)
        · rw [if_neg c7] at H
          have c7b0 : decide (x14_1 < (l0_1.length : Int)) = false := decide_eq_false c7
          clear c7
          obtain rfl := Option.some.inj H
          have hcv12 := own_string (P := Try.prog) Try.underlying25 Try.underlying5 Try.underlying9 (Kd.own_of_R HO_5.out)
          go_wp2
          go_ret
          exact ⟨by first | rfl | (simp [errW_none, errW_some] <;> rfl) | (simp [*, errW_none, errW_some] <;> rfl), by repeat (first | (with_reducible first | exact HB.out | apply below_alloc | apply pw_below_drewN | apply below_drew1 | refine below_set ?_ GE227.out) | exact HB.out)⟩
  · rw [if_neg c3] at H
    exact absurd H (by simp)

/-! ### impl_PrincipalSalt: function 37 -/
def impl_PrincipalSalt.f (k : Nat) (a0_0 : Int) (l0_1 : List ByteArray) (a1 : ByteArray) : Option (ByteArray) := (impl_principal.f a0_0 l0_1).bind fun bt236 => ((types_PrincipalName_GetSalt.f k bt236.1 bt236.2 a1).bind fun t240 => (some t240))
set_option maxRecDepth 100000 in
theorem impl_PrincipalSalt.mono : ∀ a0 a1 a2 k, LeO (impl_PrincipalSalt.f k a0 a1 a2) (impl_PrincipalSalt.f (k + 1) a0 a1 a2) := by
  intro a0 a1 a2 k
  unfold impl_PrincipalSalt.f
  repeat' first
      | (with_reducible exact types_PrincipalName_GetSalt.mono _ _ _ _)
      | (with_reducible exact LeO.refl _)
      | (with_reducible exact LeO.none _)
      | (with_reducible refine LeO.ite ?_ ?_)
      | (with_reducible refine LeO.bind ?_ (fun _ => ?_))
      | exact types_PrincipalName_GetSalt.mono _ _ _ _
      | exact LeO.none _
      | refine LeO.ite ?_ ?_
      | refine LeO.bind ?_ (fun _ => ?_)
set_option maxHeartbeats 8000000 in
set_option maxRecDepth 100000 in
theorem impl_PrincipalSalt.calls (k : Nat) (a0_0 : Int) (A0_1 : Option Addr) (c0_1 : Nat) (l0_1 : List ByteArray) (a1 : ByteArray) (r : ByteArray) (w : World) (hr0_1 : Kd.C Kd.string w A0_1 l0_1.length l0_1) (hc0_1 : l0_1.length ≤ c0_1) (h : impl_PrincipalSalt.f k a0_0 l0_1 a1 = some r) :
    Calls Try.prog 37 #[.agg #[.int .i32 a0_0, .slice A0_1 l0_1.length c0_1], .string a1] w fun e w' => e = .returned (.string r) ∧ Below w.heap.size w w' := by
  have hu53 := Try.underlying53
  have HR0_1 := Aside0.mk hr0_1
  have HC0_1 := Aside0.mk hc0_1
  clear hr0_1 hc0_1
  have HB := Aside0.mk (Below.refl w.heap.size w)
  have H : ((impl_principal.f a0_0 l0_1).bind fun bt236 => ((types_PrincipalName_GetSalt.f k bt236.1 bt236.2 a1).bind fun t240 => (some t240))) = some r := h
  clear h
  replace H := Option.bind_eq_some_iff.mp H
  obtain ⟨⟨t236, t237⟩, A30, H⟩ := H
  replace H : ((types_PrincipalName_GetSalt.f k t236 t237 a1).bind fun t240 => (some t240)) = some r := H
  have A3 := Aside0.mk A30
  clear A30
  replace H := Option.bind_eq_some_iff.mp H
  obtain ⟨t240, A40, H⟩ := H
  replace H : (some t240) = some r := H
  have A4 := Aside0.mk A40
  clear A40
  obtain rfl := Option.some.inj H
  go_enter Try.func37, Try.ntmps37
  go_wp2_with (first | ((with_reducible refine gate_dst (N := 2) rfl ?_); refine box_event ?hg (N := 2) ?hd (cs := #[.int .i32 a0_0, .slice A0_1 l0_1.length c0_1]) (t := 53) ?hr ?_; (case hd => rfl); (case hg => rfl); (case hr => first | (go_simp; done) | (go_simp; rfl)); intro gb235 hg w5 hbox hb; have n0_ := Aside0.mk (below_step (by repeat (first | (with_reducible first | exact HB.out | apply below_alloc | apply pw_below_drewN | apply below_drew1) | exact HB.out)) hb); have n1_ := Aside0.mk (hbox); have n2_ := Aside0.mk ((by rw [hg]; exact (below_size (by repeat (first | (with_reducible first | exact HB.out | apply below_alloc | apply pw_below_drewN | apply below_drew1) | exact HB.out))) : w.heap.size ≤ gb235)); have n3_ := Aside0.mk ((by rw [hg]; exact (below_size (by repeat (first | (with_reducible first | exact HB.out | apply below_alloc | apply pw_below_drewN | apply below_drew1) | exact HB.out))) : w.heap.size ≤ gb235)); clear HB; have HB := n0_; have BK235 := n1_; have GW235 := n2_; have GE235 := n3_; clear n0_ n1_ n2_ n3_; clear hb hbox hg; have hcz6_0 : w5.cell? ⟨gb235, 0, none⟩ = some (.int .i32 a0_0) := (blk_cell BK235.out 0).trans rfl; have hcz6_1 : w5.cell? ⟨gb235, 1, none⟩ = some (.slice A0_1 l0_1.length c0_1) := (blk_cell BK235.out 1).trans rfl; have hfz6_0 := blk_frozen BK235.out 0; have hfz6_1 := blk_frozen BK235.out 1) | ((with_reducible refine gate_callee (f := 58) rfl ?_); refine goesL_ (some 6) rfl rfl Try.func58 (by kernel_rfl) rfl #[.agg #[.int .i32 a0_0, .slice A0_1 l0_1.length c0_1]] rfl (by (try simp only [List.map_toArray, List.map_cons, List.map_nil]); first | done | rfl | (simp only [List.length_drop, List.length_take]; rfl)) ?_; (with_reducible refine (impl_principal.calls a0_0 (fun k_ => k_ < w.heap.size) _ _ l0_1 t236 t237 _ ?side1 A3.out).mono ?_); (case side1 => exact Kd.V_mk HC0_1.out (Kd.F_below (Kd.C_F Kd.heap_string HR0_1.out) (by repeat (first | (with_reducible first | exact HB.out | apply below_alloc | apply pw_below_drewN | apply below_drew1 | refine below_set ?_ GE235.out) | exact HB.out)))); rintro e w7 ⟨v238, rfl, ho0, hb⟩; refine ⟨_, rfl, ?_⟩; have n0_ := Aside0.mk (Kd.V_lower (Kd.V_mono (ok' := fun k_ => k_ ≠ gb235) ho0 (fun k_ hk_ => Or.elim hk_ (fun hs_ => fun e_ => Nat.not_le.2 hs_ (by rw [e_]; exact GW235.out)) (fun hn_ => (Kd.freshB (g := gb235) (o := .cells #[.int .i32 a0_0, .slice A0_1 l0_1.length c0_1] 53 (0, 0)) (by (with_reducible repeat (first | refine blk_drewN ?_ _ | refine blk_drew ?_ | refine blk_alloc ?_ _)); exact BK235.out) k_ hn_)))) (below_size (by repeat (first | (with_reducible first | exact HB.out | apply below_alloc | apply pw_below_drewN | apply below_drew1 | refine below_set ?_ GE235.out) | exact HB.out)))); have n1_ := Aside0.mk (blk_below (g := gb235) (o := .cells #[.int .i32 a0_0, .slice A0_1 l0_1.length c0_1] 53 (0, 0)) (by (with_reducible repeat (first | refine blk_drewN ?_ _ | refine blk_drew ?_ | refine blk_alloc ?_ _)); exact BK235.out) hb); have n2_ := Aside0.mk (below_step (by repeat (first | (with_reducible first | exact HB.out | apply below_alloc | apply pw_below_drewN | apply below_drew1 | refine below_set ?_ GE235.out) | exact HB.out)) hb); clear BK235; clear HB; have HO239 := n0_; have BK235 := n1_; have HB := n2_; clear n0_ n1_ n2_; (try clear hb); (try clear hb2); (try clear hk); (try clear hi); (try clear ho0); obtain ⟨Ao8, co8, eo8⟩ := Kd.V_slice HO239.out; subst eo8) | ((with_reducible refine gate_callee (f := 62) rfl ?_); refine goesL_ (some 8) rfl rfl Try.func62 (by kernel_rfl) rfl #[.agg #[.int .i32 t236, .slice Ao8 t237.length co8], .string a1] rfl (by (try simp only [List.map_toArray, List.map_cons, List.map_nil]); first | done | rfl | (simp only [List.length_drop, List.length_take]; rfl)) ?_; (with_reducible refine (types_PrincipalName_GetSalt.calls k t236 _ _ t237 a1 t240 _ ?side1 ?side2 A4.out).mono ?_); (case side1 => repeat (first | exact (Kd.V_reads' HO239.out).2.2 | (with_reducible refine Kd.C_alloc ?_ _) | (with_reducible refine Kd.C_drewN ?_ _) | (with_reducible refine Kd.C_drew ?_))); (case side2 => exact (Kd.V_reads' HO239.out).2.1); rintro e w9 ⟨rfl, hb⟩; refine ⟨_, rfl, ?_⟩; have n0_ := Aside0.mk (Kd.V_below (by (with_reducible repeat (first | apply Kd.V_alloc | apply Kd.V_drewN | apply Kd.V_drew)); exact HO239.out) hb); have n1_ := Aside0.mk (blk_below (g := gb235) (o := .cells #[.int .i32 a0_0, .slice A0_1 l0_1.length c0_1] 53 (0, 0)) (by (with_reducible repeat (first | refine blk_drewN ?_ _ | refine blk_drew ?_ | refine blk_alloc ?_ _)); exact BK235.out) hb); have n2_ := Aside0.mk (below_step (by repeat (first | (with_reducible first | exact HB.out | apply below_alloc | apply pw_below_drewN | apply below_drew1 | refine below_set ?_ GE235.out) | exact HB.out)) hb); clear HO239; clear BK235; clear HB; have HO239 := n0_; have BK235 := n1_; have HB := n2_; clear n0_ n1_ n2_; (try clear hb); (try clear hb2); (try clear hk); (try clear hi)))
  go_ret
  exact ⟨by first | rfl | (simp [errW_none, errW_some] <;> rfl) | (simp [*, errW_none, errW_some] <;> rfl), by repeat (first | (with_reducible first | exact HB.out | apply below_alloc | apply pw_below_drewN | apply below_drew1 | refine below_set ?_ GE235.out) | exact HB.out)⟩

end Go.Proofs.Ythgcpicflmigjaa.F

/- Go functions of this seat come to the answers of the Lean functions that stand here ('.calls'), under what each theorem states and nothing else. Written by pw.py, a program of this session, with texts of its own. -/
import Derived.Test.YtnipcocllhfaoaaA0
import Derived.Test.YtnipcocllhfaoaaA9
import Derived.Test.YtnipcocllhfaoaaA10
import Derived.Test.YtnipcocllhfaoaaB12
namespace Go.Proofs.Ytnipcocllhfaoaa.A
open Go.RowKit Go.Proofs.YtnipcocllhfaoaaW.PrintWords Go.Proofs.YtnipcocllhfaoaaW.PrintLast
open Go.Proofs.Ytnipcocllhfaoaa.B (gate_callee gate_builtin)
set_option linter.unusedVariables false
set_option linter.unusedSimpArgs false
set_option maxRecDepth 100000

/-! ### laws_credsSame_1: function 38 -/
-- EXT rounds=0 making=1
-- NEEDS 16 17
set_option maxHeartbeats 16000000 in
/-- A credential and what it is told as are told to be the same. -/
theorem laws_credsSame_1.same (x : S47) (X1 : Option Addr) (cX1 : Nat) (X4 : Option Addr) (cX4 : Nat) (X14 : Option Addr) (cX14 : Nat) (X15 : Option Addr) (cX15 : Nat) (Y1 : Option Addr) (cY1 : Nat) (Y4 : Option Addr) (cY4 : Nat) (Y14 : Option Addr) (cY14 : Nat) (Y15 : Option Addr) (cY15 : Nat) (w : World) (hX1 : Kd.C Kd.string w X1 x.f0.f1.length x.f0.f1) (hX4 : Kd.C Kd.string w X4 x.f1.f1.length x.f1.f1) (hX14 : Kd.C k101 w X14 x.f10.length x.f10) (hX15 : Kd.C k101 w X15 x.f11.length x.f11) (hY1 : Kd.C Kd.string w Y1 (laws_ofCred.of x).f0.f1.length (laws_ofCred.of x).f0.f1) (hY4 : Kd.C Kd.string w Y4 (laws_ofCred.of x).f1.f1.length (laws_ofCred.of x).f1.f1) (hY14 : Kd.C k63 w Y14 (laws_ofCred.of x).f10.length (laws_ofCred.of x).f10) (hY15 : Kd.C k63 w Y15 (laws_ofCred.of x).f11.length (laws_ofCred.of x).f11) (hl : x.f10.length ≤ 1000000 ∧ x.f11.length ≤ 1000000) :
    Calls Try.prog 38 #[.agg #[Value.string x.f0.f0, .slice X1 x.f0.f1.length cX1, .int .i32 x.f0.f2, .string x.f1.f0, .slice X4 x.f1.f1.length cX4, .int .i32 x.f1.f2, .int .i32 x.f2, .string x.f3, .int .i64 x.f4, .int .i64 x.f5, .int .i64 x.f6, .int .i64 x.f7, .bool x.f8, .int .u32 x.f9, .slice X14 x.f10.length cX14, .slice X15 x.f11.length cX15, .string x.f12, .string x.f13], .agg #[Value.string (laws_ofCred.of x).f0.f0, .slice Y1 (laws_ofCred.of x).f0.f1.length cY1, .int .i32 (laws_ofCred.of x).f0.f2, .string (laws_ofCred.of x).f1.f0, .slice Y4 (laws_ofCred.of x).f1.f1.length cY4, .int .i32 (laws_ofCred.of x).f1.f2, .int .i32 (laws_ofCred.of x).f2, .string (laws_ofCred.of x).f3, .int .i64 (laws_ofCred.of x).f4, .int .i64 (laws_ofCred.of x).f5, .int .i64 (laws_ofCred.of x).f6, .int .i64 (laws_ofCred.of x).f7, .bool (laws_ofCred.of x).f8, .int .u32 (laws_ofCred.of x).f9, .slice Y14 (laws_ofCred.of x).f10.length cY14, .slice Y15 (laws_ofCred.of x).f11.length cY15, .string (laws_ofCred.of x).f12, .string (laws_ofCred.of x).f13]] w fun e w' => e = .returned (.bool true) ∧ Below w.heap.size w w' := by
  have HX1 := Aside0.mk hX1
  have HX4 := Aside0.mk hX4
  have HX14 := Aside0.mk hX14
  have HX15 := Aside0.mk hX15
  have HY1 := Aside0.mk hY1
  have HY4 := Aside0.mk hY4
  have HY14 := Aside0.mk hY14
  have HY15 := Aside0.mk hY15
  have HL := Aside0.mk hl
  clear hl hX1 hX4 hX14 hX15 hY1 hY4 hY14 hY15
  obtain ⟨cx, hx⟩ : ∃ z : Array Value, z = #[Value.string x.f0.f0, .slice X1 x.f0.f1.length cX1, .int .i32 x.f0.f2, .string x.f1.f0, .slice X4 x.f1.f1.length cX4, .int .i32 x.f1.f2, .int .i32 x.f2, .string x.f3, .int .i64 x.f4, .int .i64 x.f5, .int .i64 x.f6, .int .i64 x.f7, .bool x.f8, .int .u32 x.f9, .slice X14 x.f10.length cX14, .slice X15 x.f11.length cX15, .string x.f12, .string x.f13] := ⟨_, rfl⟩
  rw [← hx]
  have HVX := Aside0.mk hx
  clear hx
  obtain ⟨cy, hy⟩ : ∃ z : Array Value, z = #[Value.string (laws_ofCred.of x).f0.f0, .slice Y1 (laws_ofCred.of x).f0.f1.length cY1, .int .i32 (laws_ofCred.of x).f0.f2, .string (laws_ofCred.of x).f1.f0, .slice Y4 (laws_ofCred.of x).f1.f1.length cY4, .int .i32 (laws_ofCred.of x).f1.f2, .int .i32 (laws_ofCred.of x).f2, .string (laws_ofCred.of x).f3, .int .i64 (laws_ofCred.of x).f4, .int .i64 (laws_ofCred.of x).f5, .int .i64 (laws_ofCred.of x).f6, .int .i64 (laws_ofCred.of x).f7, .bool (laws_ofCred.of x).f8, .int .u32 (laws_ofCred.of x).f9, .slice Y14 (laws_ofCred.of x).f10.length cY14, .slice Y15 (laws_ofCred.of x).f11.length cY15, .string (laws_ofCred.of x).f12, .string (laws_ofCred.of x).f13] := ⟨_, rfl⟩
  rw [← hy]
  have HVY := Aside0.mk hy
  clear hy
  have HSX := Aside0.mk (show cx.size = 18 from by rw [HVX.out]; rfl)
  have HSY := Aside0.mk (show cy.size = 18 from by rw [HVY.out]; rfl)
  go_enter Try.func38, Try.ntmps38
  go_upto_region 1 with (first
    | ((with_reducible refine gate_dst (N := 2) rfl ?_); refine box_event ?hg (N := 2) ?hd (cs := cx) (t := 47) ?hr ?_; (case hd => rfl); (case hg => rfl); (case hr => first | (go_simp; done) | (go_simp; rfl)); intro gx hgb w1 hbox hb; have HX1 := Aside0.mk hbox; have BL1 := Aside0.mk hb; clear hbox hb hgb)
    | ((with_reducible refine gate_dst (N := 3) rfl ?_); refine box_event ?hg (N := 3) ?hd (cs := cy) (t := 36) ?hr ?_; (case hd => rfl); (case hg => rfl); (case hr => first | (go_simp; done) | (go_simp; rfl)); intro gy hgb w2 hbox hb; have HX2 := Aside0.mk (blk_below HX1.out hb); have HY2 := Aside0.mk hbox; have BL2 := Aside0.mk (below_step BL1.out hb); clear hbox hb hgb)
    | fail)
  clear HX1 BL1
  obtain ⟨wx, hwx⟩ : ∃ z, z = w2.drew := ⟨_, rfl⟩
  have hbd : Below w2.heap.size w2 wx := hwx ▸ below_drew (Below.refl _ _)
  have HXx := Aside0.mk (blk_below HX2.out hbd)
  have HYx := Aside0.mk (blk_below HY2.out hbd)
  have BLx := Aside0.mk (below_step BL2.out hbd)
  have HWX := Aside0.mk hwx
  clear hbd hwx HX2 HY2 BL2
  refine start_ (n := 5) (S := fun w' => w'.heap[gx]? = some (.cells cx 47 (0, 0)) ∧ w'.heap[gy]? = some (.cells cy 36 (0, 0))) (ds := []) #[false, false, false, false, false] (by kernel_rfl) rfl rfl ⟨(HWX.out ▸ (show _ from HXx.out)), (HWX.out ▸ (show _ from HYx.out))⟩ (fun hHeld => ?_)
  rw [← HWX.out] at hHeld ⊢
  clear HWX
  refine take_ (i := 0) (N := some 5) (v := ?_) (a' := ?_) #[true, false, false, false, false] rfl rfl (by kernel_rfl) (fun _ _ _ h => h) (Or.inl ⟨by rfl, ?_⟩) hHeld ?_ ?_
  rotate_left
  · rintro w' ⟨s0, s1⟩
    refine B.row_run 47 (.tmp 2) gx 47 cx _ ?ho ?hx s0 ?hq Try.underlying47 ?hi; (case ho => rfl); (case hx => rfl); (case hq => rfl); (case hi => exact pw_size47.trans (congrArg some HSX.out.symm))
  rotate_left
  · simp only [Act.put, List.setIfInBounds_toArray, List.set_cons_zero, List.set_cons_succ, i64_w, i32_w]
    rfl
  refine take_ (i := 2) (N := some 7) (v := ?_) (a' := ?_) #[true, false, true, false, false] rfl rfl (by kernel_rfl) (fun _ _ _ h => h) (Or.inl ⟨by rfl, ?_⟩) hHeld ?_ ?_
  rotate_left
  · rintro w' ⟨s0, s1⟩
    refine B.row_run 36 (.tmp 3) gy 36 cy _ ?ho ?hx s1 ?hq Try.underlying36 ?hi; (case ho => rfl); (case hx => rfl); (case hq => rfl); (case hi => exact pw_size36.trans (congrArg some HSY.out.symm))
  rotate_left
  · simp only [Act.put, List.setIfInBounds_toArray, List.set_cons_zero, List.set_cons_succ, i64_w, i32_w]
    rfl
  refine one_ (i := 1) (N := some 6) #[true, true, true, false, false] rfl rfl (by kernel_rfl) (by decide) (fun K hK => ?_)
  have hcall := laws_ofCred.any x X1 cX1 X4 cX4 X14 cX14 X15 cX15 wx (Kd.C_below HX14.out BLx.out) (Kd.C_below HX15.out BLx.out) HL.out
  rw [← HVX.out] at hcall
  refine goes_ Try.func17 (by kernel_rfl) rfl #[.agg cx] (by rfl) rfl rfl (by simp only [List.map_toArray, List.map_cons, List.map_nil]; rfl) ?_
  with_reducible refine (hcall).mono ?_
  rintro e wy ⟨A14, d14, A15, d15, rfl, hz1, hz2, hz3, hz4, hb_⟩
  refine ⟨_, rfl, ?_⟩
  have HC14 := Aside0.mk hz2
  have HC15 := Aside0.mk hz4
  have HXy := Aside0.mk (blk_below HXx.out hb_)
  have HYy := Aside0.mk (blk_below HYx.out hb_)
  have BLy := Aside0.mk (below_step BLx.out hb_)
  have HBxy := Aside0.mk hb_
  clear hb_ hz1 hz2 hz3 hz4 hcall
  refine hK.out _ _ ⟨HXy.out, HYy.out⟩ (fun hHeld => ?_)
  clear hK K
  refine norm_ (a' := ?_) ?_ ?_
  rotate_left
  · show Act.put _ (some 6) _ = _
    simp only [Act.put, List.setIfInBounds_toArray, List.set_cons_zero, List.set_cons_succ, i64_w, i32_w]
    rfl
  refine one_ (i := 3) (N := some 8) #[true, true, true, true, false] rfl rfl (by kernel_rfl) (by decide) (fun K hK => ?_)
  have hcall := spec_CredSame.same (laws_ofCred.of x) X1 cX1 X4 cX4 A14 d14 A15 d15 Y1 cY1 Y4 cY4 Y14 cY14 Y15 cY15 wy (Kd.C_below HX1.out BLy.out) (Kd.C_below HX4.out BLy.out) HC14.out HC15.out (Kd.C_below HY1.out BLy.out) (Kd.C_below HY4.out BLy.out) (Kd.C_below HY14.out BLy.out) (Kd.C_below HY15.out BLy.out)
  rw [← HVY.out] at hcall
  refine goes_ Try.func16 (by kernel_rfl) rfl #[.agg #[Value.string (laws_ofCred.of x).f0.f0, .slice X1 (laws_ofCred.of x).f0.f1.length cX1, .int .i32 (laws_ofCred.of x).f0.f2, .string (laws_ofCred.of x).f1.f0, .slice X4 (laws_ofCred.of x).f1.f1.length cX4, .int .i32 (laws_ofCred.of x).f1.f2, .int .i32 (laws_ofCred.of x).f2, .string (laws_ofCred.of x).f3, .int .i64 (laws_ofCred.of x).f4, .int .i64 (laws_ofCred.of x).f5, .int .i64 (laws_ofCred.of x).f6, .int .i64 (laws_ofCred.of x).f7, .bool (laws_ofCred.of x).f8, .int .u32 (laws_ofCred.of x).f9, .slice A14 (laws_ofCred.of x).f10.length d14, .slice A15 (laws_ofCred.of x).f11.length d15, .string (laws_ofCred.of x).f12, .string (laws_ofCred.of x).f13], .agg cy] (by rfl) rfl rfl (by simp only [List.map_toArray, List.map_cons, List.map_nil]; rfl) ?_
  with_reducible refine (hcall).mono ?_
  rintro e wz ⟨rfl, hb_⟩
  refine ⟨_, rfl, ?_⟩
  have HXz := Aside0.mk (blk_below HXy.out hb_)
  have HYz := Aside0.mk (blk_below HYy.out hb_)
  have BLz := Aside0.mk (below_step BLy.out hb_)
  clear hb_ hcall
  refine hK.out _ _ ⟨HXz.out, HYz.out⟩ (fun hHeld => ?_)
  clear hK K
  refine norm_ (a' := ?_) ?_ ?_
  rotate_left
  · show Act.put _ (some 8) _ = _
    simp only [Act.put, List.setIfInBounds_toArray, List.set_cons_zero, List.set_cons_succ, i64_w, i32_w]
    rfl
  refine pure_ (i := 4) (N := some 4) (v := ?_) (a' := ?_) #[true, true, true, true, true] rfl rfl (by kernel_rfl) (fun _ _ _ h => h) (Or.inl ⟨by rfl, ?_⟩) ?_ ?_
  rotate_left
  · intro w'
    go_simp
    with_reducible rfl
  rotate_left
  · simp only [Act.put, List.setIfInBounds_toArray, List.set_cons_zero, List.set_cons_succ, i64_w, i32_w]
    rfl
  refine done_ (by kernel_rfl) ?_
  
  go_wp2
  go_ret
  exact ⟨rfl, BLz.out⟩

end Go.Proofs.Ytnipcocllhfaoaa.A

/- Go functions of this seat come to the answers of the Lean functions that stand here ('.calls'), under what each theorem states and nothing else. Written by pw.py, a program of this session, with texts of its own. -/
import Derived.Test.YtnipcocllhfaoaaA0
import Derived.Test.YtnipcocllhfaoaaA2
import Derived.Test.YtnipcocllhfaoaaA10
import Derived.Test.YtnipcocllhfaoaaA11
import Derived.Test.YtnipcocllhfaoaaB12
namespace Go.Proofs.Ytnipcocllhfaoaa.A
open Go.RowKit Go.Proofs.YtnipcocllhfaoaaW.PrintWords Go.Proofs.YtnipcocllhfaoaaW.PrintLast
open Go.Proofs.Ytnipcocllhfaoaa.B (gate_callee gate_builtin)
set_option linter.unusedVariables false
set_option linter.unusedSimpArgs false
set_option maxRecDepth 100000

/-! ### spec_Cred: function 37 -/
-- EXT rounds=0 making=1
-- NEEDS 38
set_option maxHeartbeats 16000000 in
theorem spec_Cred.same (xs : List S47) (A1 A2 : Option Addr) (c1 c2 : Nat) (w : World) (h1 : Kd.C k47 w A1 xs.length xs) (h2 : Kd.C k36 w A2 xs.length (xs.map laws_ofCred.of)) (hl : ∀ x ∈ xs, x.f10.length ≤ 1000000 ∧ x.f11.length ≤ 1000000) :
    Calls Try.prog 37 #[.slice A1 xs.length c1, .slice A2 xs.length c2, .func (.func 38) #[] #[]] w fun e w' => e = .returned (.bool true) ∧ Below w.heap.size w w' := by
  have hmx : (xs.length : Int) ≤ 9223372036854775807 := by have := Kd.C_max h1; omega
  have H1 := Aside0.mk h1
  have H2 := Aside0.mk h2
  have HL := Aside0.mk hl
  clear h1 h2 hl
  go_enter Try.func37, Try.ntmps37
  go_wp2
  go_loopw [17] (fun i wr => ∃ (j : Nat), j ≤ xs.length ∧ i = .int .i64 j ∧ Aside0 (Below w.heap.size w wr)) (fun i _ => xs.length - (intOf i).toNat)
  case atStart => exact ⟨0, Nat.zero_le _, rfl, ⟨Below.refl _ _⟩⟩
  obtain ⟨j, hj, rfl, BL⟩ := hrel
  by_cases hlt : j < xs.length
  case neg =>
    obtain rfl : j = xs.length := by omega
    have hnl : ¬ ((xs.length : Int) < (xs.length : Int)) := by omega
    go_wp2
    go_ret
    exact ⟨rfl, BL.out⟩
  have hlt' : (j : Int) < (xs.length : Int) := by omega
  have hj0 : (0 : Int) ≤ (j : Int) := by omega
  obtain ⟨ad, X1, cX1, X4, cX4, X14, cX14, X15, cX15, rfl, hce, m1, g1, m4, g4, m14, g14, m15, g15⟩ := pw_row47 (Kd.C_below H1.out BL.out) j hlt
  obtain ⟨ae, Y1, cY1, Y4, cY4, Y14, cY14, Y15, cY15, rfl, hcf, n1, k1, n4, k4, n14, k14, n15, k15⟩ := pw_row36 (Kd.C_below H2.out BL.out) j hlt
  have hmem : xs.getD j z47 ∈ xs := by rw [List.getD_eq_getElem?_getD, List.getElem?_eq_getElem hlt]; exact List.getElem_mem hlt
  have hlx := HL.out _ hmem
  rw [pw_drop47 xs j hlt] at hcf k1 k4 k14 k15
  generalize xs.getD j z47 = x at *
  clear m1 m4 m14 m15 n1 n4 n14 n15 hmem
  have GX1 := Aside0.mk g1
  have GX4 := Aside0.mk g4
  have GX14 := Aside0.mk g14
  have GX15 := Aside0.mk g15
  have GY1 := Aside0.mk k1
  have GY4 := Aside0.mk k4
  have GY14 := Aside0.mk k14
  have GY15 := Aside0.mk k15
  have HLX := Aside0.mk hlx
  clear g1 g4 g14 g15 k1 k4 k14 k15 hlx
  obtain ⟨cx, hx⟩ : ∃ z : Array Value, z = #[Value.string x.f0.f0, .slice X1 x.f0.f1.length cX1, .int .i32 x.f0.f2, .string x.f1.f0, .slice X4 x.f1.f1.length cX4, .int .i32 x.f1.f2, .int .i32 x.f2, .string x.f3, .int .i64 x.f4, .int .i64 x.f5, .int .i64 x.f6, .int .i64 x.f7, .bool x.f8, .int .u32 x.f9, .slice X14 x.f10.length cX14, .slice X15 x.f11.length cX15, .string x.f12, .string x.f13] := ⟨_, rfl⟩
  obtain ⟨cy, hy⟩ : ∃ z : Array Value, z = #[Value.string (laws_ofCred.of x).f0.f0, .slice Y1 (laws_ofCred.of x).f0.f1.length cY1, .int .i32 (laws_ofCred.of x).f0.f2, .string (laws_ofCred.of x).f1.f0, .slice Y4 (laws_ofCred.of x).f1.f1.length cY4, .int .i32 (laws_ofCred.of x).f1.f2, .int .i32 (laws_ofCred.of x).f2, .string (laws_ofCred.of x).f3, .int .i64 (laws_ofCred.of x).f4, .int .i64 (laws_ofCred.of x).f5, .int .i64 (laws_ofCred.of x).f6, .int .i64 (laws_ofCred.of x).f7, .bool (laws_ofCred.of x).f8, .int .u32 (laws_ofCred.of x).f9, .slice Y14 (laws_ofCred.of x).f10.length cY14, .slice Y15 (laws_ofCred.of x).f11.length cY15, .string (laws_ofCred.of x).f12, .string (laws_ofCred.of x).f13] := ⟨_, rfl⟩
  have HSX := Aside0.mk (show cx.size = 18 ∧ cx.all (·.oneCell') = true from by subst hx; exact ⟨rfl, by simp [Value.oneCell']⟩)
  have HSY := Aside0.mk (show cy.size = 18 ∧ cy.all (·.oneCell') = true from by subst hy; exact ⟨rfl, by simp [Value.oneCell']⟩)
  have HCX := Aside0.mk (show (∀ i u, cx.toList[i]? = some u → wr.cell? ((ad.add (j * 18)).add i) = some u) ∧ cx.toList.length = 18 from by subst hx; exact ⟨hce, rfl⟩)
  have HCY := Aside0.mk (show (∀ i u, cy.toList[i]? = some u → wr.cell? ((ae.add (j * 18)).add i) = some u) ∧ cy.toList.length = 18 from by subst hy; exact ⟨hcf, rfl⟩)
  have HVX := Aside0.mk hx
  have HVY := Aside0.mk hy
  clear hx hy hce hcf
  go_wp2_with (first
    | ((with_reducible refine gate_dst (N := 21) rfl ?_); refine B.load_cells_event ?hg (N := 21) ?hd 47 (.tmp 20) (ad.add (j * 18)) cx.toList _ ?ho ?hx HCX.out.1 Try.underlying47 ?hq ?hi ?_; (case hg => rfl); (case hd => rfl); (case ho => rfl); (case hx => first | rfl | (go_simp; done)); (case hq => rfl); (case hi => exact pw_size47.trans (congrArg some HCX.out.2.symm)))
    | ((with_reducible refine gate_dst (N := 8) rfl ?_); refine box_event ?hg (N := 8) ?hd (cs := pw_zero36) (t := 47) ?hr ?_; (case hd => rfl); (case hg => rfl); (case hr => first | (go_simp; done) | (go_simp; rfl)); intro ga hgb w1 hbox hb; have HX1 := Aside0.mk hbox; have BB1 := Aside0.mk hb; have HGA := Aside0.mk (show wr.heap.size ≤ ga from by rw [hgb]; exact Nat.le_refl _); clear hbox hb hgb)
    | ((with_reducible refine gate_store (t := 47) (p := 8) (v := .tmp 21) rfl ?_); refine B.store_event ?hg 47 (.tmp 8) (.tmp 21) ?ho ga cx ?hx ?hy 47 _ HX1.out ?hi ?hl HSX.out.2 ?_; (case hg => rfl); (case ho => rfl); (case hx => first | rfl | (go_simp; done)); (case hy => first | (simp only [Array.toArray_toList]; rfl) | (go_simp; done)); (case hi => exact pw_size47.trans (congrArg some HSX.out.1.symm)); (case hl => exact HSX.out.1.symm); intro w2 hb2 hbl2 hsz2 hot2; have HX2 := Aside0.mk hb2; have BB2 := Aside0.mk (hbl2 wr BB1.out HGA.out); have HCY2 := Aside0.mk (show ∀ i u, cy.toList[i]? = some u → w2.cell? ((ae.add (j * 18)).add i) = some u from fun i u hu => pw_cell_below (hbl2 wr BB1.out HGA.out) (HCY.out.1 i u hu)); clear hb2 hbl2 hsz2 hot2)
    | ((with_reducible refine gate_dst (N := 25) rfl ?_); refine B.load_cells_event ?hg (N := 25) ?hd 36 (.tmp 24) (ae.add (j * 18)) cy.toList _ ?ho ?hx HCY2.out Try.underlying36 ?hq ?hi ?_; (case hg => rfl); (case hd => rfl); (case ho => rfl); (case hx => first | rfl | (go_simp; done)); (case hq => rfl); (case hi => exact pw_size36.trans (congrArg some HCY.out.2.symm)))
    | ((with_reducible refine gate_dst (N := 9) rfl ?_); refine box_event ?hg (N := 9) ?hd (cs := pw_zero36) (t := 36) ?hr ?_; (case hd => rfl); (case hg => rfl); (case hr => first | (go_simp; done) | (go_simp; rfl)); intro gb hgb w3 hbox hb; have HY3 := Aside0.mk hbox; have HX3 := Aside0.mk (blk_below HX2.out hb); have BB3 := Aside0.mk (below_step BB2.out hb); have HGB := Aside0.mk (show wr.heap.size ≤ gb ∧ ga ≠ gb from ⟨by rw [hgb]; exact BB2.out.size, by rw [hgb]; exact Nat.ne_of_lt (blk_lt HX2.out)⟩); clear hbox hb hgb)
    | ((with_reducible refine gate_store (t := 36) (p := 9) (v := .tmp 25) rfl ?_); refine B.store_event ?hg 36 (.tmp 9) (.tmp 25) ?ho gb cy ?hx ?hy 36 _ HY3.out ?hi ?hl HSY.out.2 ?_; (case hg => rfl); (case ho => rfl); (case hx => first | rfl | (go_simp; done)); (case hy => first | (simp only [Array.toArray_toList]; rfl) | (go_simp; done)); (case hi => exact pw_size36.trans (congrArg some HSY.out.1.symm)); (case hl => exact HSY.out.1.symm); intro w4 hb2 hbl2 hsz2 hot2; have HY4 := Aside0.mk hb2; have BB4 := Aside0.mk (hbl2 wr BB3.out HGB.out.1); have HX4 := Aside0.mk ((hot2 ga HGB.out.2).trans HX3.out); clear hb2 hbl2 hsz2 hot2)
    | ((with_reducible refine gate_dst (N := 27) rfl ?_); refine B.row_event ?hg (N := 27) ?hd 47 (.tmp 8) ga 47 cx _ ?ho ?hx HX4.out Try.underlying47 ?hq ?hi ?_; (case hg => rfl); (case hd => rfl); (case ho => rfl); (case hx => first | rfl | (go_simp; done)); (case hq => rfl); (case hi => exact pw_size47.trans (congrArg some HSX.out.1.symm)))
    | ((with_reducible refine gate_dst (N := 28) rfl ?_); refine B.row_event ?hg (N := 28) ?hd 36 (.tmp 9) gb 36 cy _ ?ho ?hx HY4.out Try.underlying36 ?hq ?hi ?_; (case hg => rfl); (case hd => rfl); (case ho => rfl); (case hx => first | rfl | (go_simp; done)); (case hq => rfl); (case hi => exact pw_size36.trans (congrArg some HSY.out.1.symm)))
    | fail)
  have hcall := laws_credsSame_1.same x X1 cX1 X4 cX4 X14 cX14 X15 cX15 Y1 cY1 Y4 cY4 Y14 cY14 Y15 cY15 w4 (Kd.C_below GX1.out BB4.out) (Kd.C_below GX4.out BB4.out) (Kd.C_below GX14.out BB4.out) (Kd.C_below GX15.out BB4.out) (Kd.C_below GY1.out BB4.out) (Kd.C_below GY4.out BB4.out) (Kd.C_below GY14.out BB4.out) (Kd.C_below GY15.out BB4.out) HLX.out
  rw [← HVX.out, ← HVY.out] at hcall
  refine hcall.mono ?_
  clear hcall
  rintro e w5 ⟨rfl, hb⟩
  have BQ := Aside0.mk (below_step BL.out (below_step BB4.out hb))
  clear hb BB4 HX4 HY4 BB3 BB2 BB1 HX1 HX2 HX3 HY3 HCY2
  go_wp2
  go_roundw
  case rel => exact ⟨j + 1, by omega, by go_num, BQ⟩
  case measure => simp [intOf]; omega

end Go.Proofs.Ytnipcocllhfaoaa.A

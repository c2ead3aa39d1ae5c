/- Go functions of this seat come to the answers of the Lean functions that stand here ('.calls'), under what each theorem states and nothing else. Written by pw.py, a program of this session, with texts of its own. -/
import Derived.Test.YtnipcocllhfaoaaA0
import Derived.Test.YtnipcocllhfaoaaA2
import Derived.Test.YtnipcocllhfaoaaB12
namespace Go.Proofs.Ytnipcocllhfaoaa.A
open Go.RowKit Go.Proofs.YtnipcocllhfaoaaW.PrintWords Go.Proofs.YtnipcocllhfaoaaW.PrintLast
open Go.Proofs.Ytnipcocllhfaoaa.B (gate_callee gate_builtin)
set_option linter.unusedVariables false
set_option linter.unusedSimpArgs false
set_option maxRecDepth 100000

/-! ### laws_ofCred: function 17 -/
-- EXT rounds=0 making=1
-- NEEDS 8
-- KIND st:47
-- INFO 63
def laws_ofCred.to (p : S101) : S63 := ⟨p.f0, p.f1⟩
def laws_ofCred.of (x : S47) : S36 := ⟨⟨x.f0.f0, x.f0.f1, x.f0.f2⟩, ⟨x.f1.f0, x.f1.f1, x.f1.f2⟩, x.f2, x.f3, x.f4, x.f5, x.f6, x.f7, x.f8, x.f9, x.f10.map laws_ofCred.to, x.f11.map laws_ofCred.to, x.f12, x.f13⟩
def laws_ofCred.Post (x : S47) (X1 : Option Addr) (c1 : Nat) (X4 : Option Addr) (c4 : Nat) (w : World) (e : Ending) (w' : World) : Prop := ∃ (A14 : Option Addr) (d14 : Nat) (A15 : Option Addr) (d15 : Nat), e = .returned (.agg #[Value.string (laws_ofCred.of x).f0.f0, .slice X1 (laws_ofCred.of x).f0.f1.length c1, .int .i32 (laws_ofCred.of x).f0.f2, .string (laws_ofCred.of x).f1.f0, .slice X4 (laws_ofCred.of x).f1.f1.length c4, .int .i32 (laws_ofCred.of x).f1.f2, .int .i32 (laws_ofCred.of x).f2, .string (laws_ofCred.of x).f3, .int .i64 (laws_ofCred.of x).f4, .int .i64 (laws_ofCred.of x).f5, .int .i64 (laws_ofCred.of x).f6, .int .i64 (laws_ofCred.of x).f7, .bool (laws_ofCred.of x).f8, .int .u32 (laws_ofCred.of x).f9, .slice A14 (laws_ofCred.of x).f10.length d14, .slice A15 (laws_ofCred.of x).f11.length d15, .string (laws_ofCred.of x).f12, .string (laws_ofCred.of x).f13]) ∧
  (laws_ofCred.of x).f10.length ≤ d14 ∧ k63.C w' A14 (laws_ofCred.of x).f10.length (laws_ofCred.of x).f10 ∧ (laws_ofCred.of x).f11.length ≤ d15 ∧ k63.C w' A15 (laws_ofCred.of x).f11.length (laws_ofCred.of x).f11 ∧ Below w.heap.size w w'
theorem pw_size47 : (Try.prog.info? 47).map (·.size) = some 18 := by kernel_rfl
theorem pw_size101 : (Try.prog.info? 101).map (·.size) = some 2 := by kernel_rfl
theorem pw_drop101 (l : List S101) (j : Nat) (h : j < l.length) : (l.take j).map laws_ofCred.to ++ [laws_ofCred.to (l.getD j z101)] = (l.take (j + 1)).map laws_ofCred.to := by
  rw [List.take_add_one, List.getD_eq_getElem?_getD, List.getElem?_eq_getElem h, List.map_append]
  rfl
/-- A part of a row that was read: its cells. -/
theorem pw_row101 {w : World} {A : Option Addr} {n : Nat} {xs : List S101} (h : Kd.C k101 w A n xs) (j : Nat) (hj : j < n) : ∃ ad : Addr, A = some ad ∧ ∀ i u, [Value.int .i32 (xs.getD j z101).f0, .string (xs.getD j z101).f1][i]? = some u → w.cell? ((ad.add (j * 2)).add i) = some u := by
  obtain ⟨ad, c, e, _, hK, hc⟩ := Kd.C_get h z101 (j : Int) (by omega) (by omega)
  rw [Int.toNat_natCast] at hK hc
  obtain rfl := k101_open hK
  exact ⟨ad, e, fun i u hu => by rw [add_add]; exact hc i u hu⟩
set_option maxHeartbeats 16000000 in
theorem laws_ofCred.any (x : S47) (X1 : Option Addr) (c1 : Nat) (X4 : Option Addr) (c4 : Nat) (X14 : Option Addr) (c14 : Nat) (X15 : Option Addr) (c15 : Nat) (w : World) (h14 : Kd.C k101 w X14 x.f10.length x.f10) (h15 : Kd.C k101 w X15 x.f11.length x.f11) (hl : x.f10.length ≤ 1000000 ∧ x.f11.length ≤ 1000000) :
    Calls Try.prog 17 #[.agg #[Value.string x.f0.f0, .slice X1 x.f0.f1.length c1, .int .i32 x.f0.f2, .string x.f1.f0, .slice X4 x.f1.f1.length c4, .int .i32 x.f1.f2, .int .i32 x.f2, .string x.f3, .int .i64 x.f4, .int .i64 x.f5, .int .i64 x.f6, .int .i64 x.f7, .bool x.f8, .int .u32 x.f9, .slice X14 x.f10.length c14, .slice X15 x.f11.length c15, .string x.f12, .string x.f13]] w (laws_ofCred.Post x X1 c1 X4 c4 w) := by
  have H14 := Aside0.mk h14
  have H15 := Aside0.mk h15
  have HL := Aside0.mk hl
  clear h14 h15 hl
  obtain ⟨cv, hcv⟩ : ∃ z : Array Value, z = #[Value.string x.f0.f0, .slice X1 x.f0.f1.length c1, .int .i32 x.f0.f2, .string x.f1.f0, .slice X4 x.f1.f1.length c4, .int .i32 x.f1.f2, .int .i32 x.f2, .string x.f3, .int .i64 x.f4, .int .i64 x.f5, .int .i64 x.f6, .int .i64 x.f7, .bool x.f8, .int .u32 x.f9, .slice X14 x.f10.length c14, .slice X15 x.f11.length c15, .string x.f12, .string x.f13] := ⟨_, rfl⟩
  rw [← hcv]
  have HCV := Aside0.mk hcv
  clear hcv
  have hu37 := Try.underlying37
  have hu36 := Try.underlying36
  go_enter Try.func17, Try.ntmps17
  go_upto_region 1 with (first
    | ((with_reducible refine gate_dst (N := 1) rfl ?_); refine box_event ?hg (N := 1) ?hd (cs := cv) (t := 47) ?hr ?_; (case hd => rfl); (case hg => rfl); (case hr => first | (go_simp; done) | (go_simp; rfl)); intro g1 hgb w1 hbox hb; have HB1 := Aside0.mk hbox; have BL1 := Aside0.mk hb; have HG1 := Aside0.mk (show w.heap.size ≤ g1 from by rw [hgb]; exact Nat.le_refl _); clear hbox hb hgb)
    | ((with_reducible refine gate_dst (N := 2) rfl ?_); refine box_event ?hg (N := 2) ?hd (cs := pw_zero36) (t := 36) ?hr ?_; (case hd => rfl); (case hg => rfl); (case hr => first | (go_simp; done) | (go_simp; rfl)); intro g2 hgb w2 hbox hb; have HB2 := Aside0.mk (blk_below HB1.out hb); have HR2 := Aside0.mk hbox; have BL2 := Aside0.mk (below_step BL1.out hb); have HG2 := Aside0.mk (show w.heap.size ≤ g2 from by rw [hgb]; exact BL1.out.size); clear hbox hb hgb)
    | fail)
  clear HB1 BL1
  have hb2 := HB2.out
  rw [HCV.out] at hb2
  clear HB2 HCV
  have HB2 := Aside0.mk hb2
  clear hb2
  have q0 : w2.cell? ⟨g1, 0, none⟩ = some (.string x.f0.f0) := (blk_cell HB2.out 0).trans rfl
  have q1 : w2.cell? ⟨g1, 1, none⟩ = some (.slice X1 x.f0.f1.length c1) := (blk_cell HB2.out 1).trans rfl
  have q2 : w2.cell? ⟨g1, 2, none⟩ = some (.int .i32 x.f0.f2) := (blk_cell HB2.out 2).trans rfl
  have q3 : w2.cell? ⟨g1, 3, none⟩ = some (.string x.f1.f0) := (blk_cell HB2.out 3).trans rfl
  have q4 : w2.cell? ⟨g1, 4, none⟩ = some (.slice X4 x.f1.f1.length c4) := (blk_cell HB2.out 4).trans rfl
  have q5 : w2.cell? ⟨g1, 5, none⟩ = some (.int .i32 x.f1.f2) := (blk_cell HB2.out 5).trans rfl
  have q6 : w2.cell? ⟨g1, 6, none⟩ = some (.int .i32 x.f2) := (blk_cell HB2.out 6).trans rfl
  have q7 : w2.cell? ⟨g1, 7, none⟩ = some (.string x.f3) := (blk_cell HB2.out 7).trans rfl
  have q8 : w2.cell? ⟨g1, 8, none⟩ = some (.int .i64 x.f4) := (blk_cell HB2.out 8).trans rfl
  have q9 : w2.cell? ⟨g1, 9, none⟩ = some (.int .i64 x.f5) := (blk_cell HB2.out 9).trans rfl
  have q10 : w2.cell? ⟨g1, 10, none⟩ = some (.int .i64 x.f6) := (blk_cell HB2.out 10).trans rfl
  have q11 : w2.cell? ⟨g1, 11, none⟩ = some (.int .i64 x.f7) := (blk_cell HB2.out 11).trans rfl
  have q12 : w2.cell? ⟨g1, 12, none⟩ = some (.bool x.f8) := (blk_cell HB2.out 12).trans rfl
  have q13 : w2.cell? ⟨g1, 13, none⟩ = some (.int .u32 x.f9) := (blk_cell HB2.out 13).trans rfl
  have q14 : w2.cell? ⟨g1, 14, none⟩ = some (.slice X14 x.f10.length c14) := (blk_cell HB2.out 14).trans rfl
  have q15 : w2.cell? ⟨g1, 15, none⟩ = some (.slice X15 x.f11.length c15) := (blk_cell HB2.out 15).trans rfl
  have q16 : w2.cell? ⟨g1, 16, none⟩ = some (.string x.f12) := (blk_cell HB2.out 16).trans rfl
  have q17 : w2.cell? ⟨g1, 17, none⟩ = some (.string x.f13) := (blk_cell HB2.out 17).trans rfl
  obtain ⟨ca, hca⟩ : ∃ z : Array Value, z = #[Value.string x.f0.f0, .slice X1 x.f0.f1.length c1, .int .i32 x.f0.f2, .string x.f1.f0, .slice X4 x.f1.f1.length c4, .int .i32 x.f1.f2, .int .i32 x.f2, .string x.f3, .int .i64 x.f4, .int .i64 x.f5, .int .i64 x.f6, .int .i64 x.f7, .bool x.f8, .int .u32 x.f9, .slice none 0 0, .slice none 0 0, .string x.f12, .string x.f13] := ⟨_, rfl⟩
  have HS := Aside0.mk (show ca.size = 18 ∧ ca.all (·.oneCell') = true from by subst hca; exact ⟨rfl, by simp [Value.oneCell']⟩)
  have HCA := Aside0.mk hca
  clear hca
  go_upto_region 2 with (first
    | ((with_reducible refine gate_dst (N := 3) rfl ?_); refine box_event ?hg (N := 3) ?hd (cs := pw_zero36) (t := 36) ?hr ?_; (case hd => rfl); (case hg => rfl); (case hr => first | (go_simp; done) | (go_simp; rfl)); intro g3 hgb w3 hbox hb; have HX := Aside0.mk hbox; have HB3 := Aside0.mk (blk_below HB2.out hb); have HR3 := Aside0.mk (blk_below HR2.out hb); have BL3 := Aside0.mk (below_step BL2.out hb); have HG3 := Aside0.mk (show w.heap.size ≤ g3 ∧ g1 ≠ g3 ∧ g2 ≠ g3 from ⟨by rw [hgb]; exact BL2.out.size, by rw [hgb]; exact Nat.ne_of_lt (blk_lt HB2.out), by rw [hgb]; exact Nat.ne_of_lt (blk_lt HR2.out)⟩); clear hbox hb hgb)
    | ((with_reducible refine gate_store (t := 36) (p := 3) (v := .tmp 32) rfl ?_); refine B.store_event ?hg 36 (.tmp 3) (.tmp 32) ?ho g3 ca ?hx ?hy 36 _ HX.out ?hi ?hl HS.out.2 ?_; (case hg => rfl); (case ho => rfl); (case hx => first | rfl | (go_simp; done)); (case hy => rw [HCA.out]; first | rfl | (go_simp; done)); (case hi => exact pw_size36.trans (congrArg some HS.out.1.symm)); (case hl => exact HS.out.1.symm); intro w4 hb2 hbl2 hsz2 hot2; have HC4 := Aside0.mk hb2; have BL4 := Aside0.mk (hbl2 w BL3.out HG3.out.1); have HB4 := Aside0.mk ((hot2 g1 HG3.out.2.1).trans HB3.out); have HR4 := Aside0.mk ((hot2 g2 HG3.out.2.2).trans HR3.out); clear hb2 hbl2 hsz2 hot2)
    | fail)
  clear q0 q1 q2 q3 q4 q5 q6 q7 q8 q9 q10 q11 q12 q13 q14 q15 q16 q17 HB2 HR2 BL2 HX HB3 HR3 BL3
  have hc4 := HC4.out
  rw [HCA.out] at hc4
  clear HC4 HCA HS
  have HC4 := Aside0.mk hc4
  clear hc4
  have HG2w := Aside0.mk HG2.out
  clear HG1 HG2
  have HGN := Aside0.mk (show g1 ≠ g3 ∧ g2 ≠ g3 ∧ w.heap.size ≤ g3 from ⟨HG3.out.2.1, HG3.out.2.2, HG3.out.1⟩)
  clear HG3
  have q_ : w4.cell? ⟨g1, 14, none⟩ = some (.slice X14 x.f10.length c14) := (blk_cell HB4.out 14).trans rfl
  go_upto_block 0 with fail
  clear q_
  have hln := HL.out.1
  go_cut [] (fun wc => ∃ (Ap : Option Addr) (cp : Nat), Aside0 (wc.heap[g1]? = some (.cells #[Value.string x.f0.f0, .slice X1 x.f0.f1.length c1, .int .i32 x.f0.f2, .string x.f1.f0, .slice X4 x.f1.f1.length c4, .int .i32 x.f1.f2, .int .i32 x.f2, .string x.f3, .int .i64 x.f4, .int .i64 x.f5, .int .i64 x.f6, .int .i64 x.f7, .bool x.f8, .int .u32 x.f9, .slice X14 x.f10.length c14, .slice X15 x.f11.length c15, .string x.f12, .string x.f13] 47 (0, 0))) ∧ Aside0 (wc.heap[g2]? = some (.cells pw_zero36 36 (0, 0))) ∧ Aside0 (wc.heap[g3]? = some (.cells #[Value.string x.f0.f0, .slice X1 x.f0.f1.length c1, .int .i32 x.f0.f2, .string x.f1.f0, .slice X4 x.f1.f1.length c4, .int .i32 x.f1.f2, .int .i32 x.f2, .string x.f3, .int .i64 x.f4, .int .i64 x.f5, .int .i64 x.f6, .int .i64 x.f7, .bool x.f8, .int .u32 x.f9, .slice Ap x.f10.length cp, .slice none 0 0, .string x.f12, .string x.f13] 36 (0, 0))) ∧ Aside0 (k63.R 63 wc w.heap.size (fun _ => True) (.slice Ap x.f10.length cp) (x.f10.map laws_ofCred.to)) ∧ Aside0 (Below w.heap.size w wc))
  case first =>
    go_wp2_with fail
    go_loopw [36] (fun i wr => ∃ (j : Nat) (Aq : Option Addr) (cq : Nat), j ≤ x.f10.length ∧ i = .int .i64 j ∧ Aside0 (wr.heap[g1]? = some (.cells #[Value.string x.f0.f0, .slice X1 x.f0.f1.length c1, .int .i32 x.f0.f2, .string x.f1.f0, .slice X4 x.f1.f1.length c4, .int .i32 x.f1.f2, .int .i32 x.f2, .string x.f3, .int .i64 x.f4, .int .i64 x.f5, .int .i64 x.f6, .int .i64 x.f7, .bool x.f8, .int .u32 x.f9, .slice X14 x.f10.length c14, .slice X15 x.f11.length c15, .string x.f12, .string x.f13] 47 (0, 0))) ∧ Aside0 (wr.heap[g2]? = some (.cells pw_zero36 36 (0, 0))) ∧ Aside0 (wr.heap[g3]? = some (.cells #[Value.string x.f0.f0, .slice X1 x.f0.f1.length c1, .int .i32 x.f0.f2, .string x.f1.f0, .slice X4 x.f1.f1.length c4, .int .i32 x.f1.f2, .int .i32 x.f2, .string x.f3, .int .i64 x.f4, .int .i64 x.f5, .int .i64 x.f6, .int .i64 x.f7, .bool x.f8, .int .u32 x.f9, .slice Aq j cq, .slice none 0 0, .string x.f12, .string x.f13] 36 (0, 0))) ∧ Aside0 (k63.R 63 wr w.heap.size (fun _ => True) (.slice Aq j cq) ((x.f10.take j).map laws_ofCred.to)) ∧ Aside0 (Below w.heap.size w wr)) (fun i _ => x.f10.length - (intOf i).toNat)
    case atStart => exact ⟨0, none, 0, Nat.zero_le _, rfl, HB4, HR4, HC4, ⟨Kd.R_nil _ _ _ _ _⟩, BL4⟩
    clear HB4 HR4 HC4 BL4
    obtain ⟨j, Aq, cq, hj, rfl, HB, HR, HC, RQ, BL⟩ := hrel
    by_cases hlt : j < x.f10.length
    case neg =>
      obtain rfl : j = x.f10.length := by omega
      have hnl : ¬ ((x.f10.length : Int) < (x.f10.length : Int)) := by omega
      have RQ2 := Aside0.mk (List.take_length (l := x.f10) ▸ RQ.out)
      clear RQ hj hlt
      go_wp2_with fail
      go_meet
      case rel => exact ⟨Aq, cq, HB, HR, HC, RQ2, BL⟩
    have hlt' : (j : Int) < (x.f10.length : Int) := by omega
    have hj0 : (0 : Int) ≤ (j : Int) := by omega
    obtain ⟨ad, rfl, hce⟩ := pw_row101 (Kd.C_below H14.out BL.out) j hlt
    have HCE := Aside0.mk hce
    have HNX := Aside0.mk (pw_drop101 x.f10 j hlt)
    generalize x.f10.getD j z101 = y at *
    have HLN := Aside0.mk (show ((x.f10.take (j + 1)).map laws_ofCred.to).length = j + 1 from by rw [List.length_map, List.length_take]; omega)
    have HZZ := Aside0.mk (show (((x.f10.take j).map laws_ofCred.to).length + 1) * 24 ≤ 140737488355328 from by rw [List.length_map, List.length_take]; omega)
    clear hce
    go_upto_region 5 with (first
      | ((with_reducible refine gate_dst (N := 39) rfl ?_); refine B.load_cells_event ?hg (N := 39) ?hd 101 (.tmp 38) (ad.add (j * 2)) [Value.int .i32 y.f0, .string y.f1] _ ?ho ?hx HCE.out Try.underlying101 ?hq ?hi ?_; (case hg => rfl); (case hd => rfl); (case ho => rfl); (case hx => first | rfl | (go_simp; done)); (case hq => rfl); (case hi => exact pw_size101))
      | ((with_reducible refine gate_dst (N := 5) rfl ?_); refine box_event ?hg (N := 5) ?hd (cs := #[.int .i32 0, .string ⟨#[]⟩]) (t := 101) ?hr ?_; (case hd => rfl); (case hg => rfl); (case hr => first | (go_simp; done) | (go_simp; rfl)); intro gp hgb wa hbox hb; have HY := Aside0.mk hbox; have BA := Aside0.mk hb; have HGP := Aside0.mk (show wr.heap.size ≤ gp from by rw [hgb]; exact Nat.le_refl _); clear hbox hb hgb)
      | ((with_reducible refine gate_store (t := 101) (p := 5) (v := .tmp 39) rfl ?_); refine B.store_event ?hg 101 (.tmp 5) (.tmp 39) ?ho gp #[.int .i32 y.f0, .string y.f1] ?hx ?hy 101 _ HY.out ?hi ?hl (by simp [Value.oneCell']) ?_; (case hg => rfl); (case ho => rfl); (case hx => first | rfl | (go_simp; done)); (case hy => first | rfl | (go_simp; done)); (case hi => exact pw_size101); (case hl => rfl); intro wb hb2 hbl2 hsz2 hot2; have HP := Aside0.mk hb2; have BB := Aside0.mk (hbl2 wr BA.out HGP.out); clear hb2 hbl2 hsz2 hot2)
      | fail)
    have HB5 := Aside0.mk (blk_below HB.out BB.out)
    have HR5 := Aside0.mk (blk_below HR.out BB.out)
    have HC5 := Aside0.mk (blk_below HC.out BB.out)
    have RQ5 := Aside0.mk (Kd.R_below RQ.out BB.out)
    have BL5 := Aside0.mk (below_step BL.out BB.out)
    clear HB HR HC RQ BL BA BB HGP HY HCE
    have ea : wb.cell? ⟨gp, 0, none⟩ = some (.int .i32 y.f0) := (blk_cell HP.out 0).trans rfl
    have eb : wb.cell? ⟨gp, 1, none⟩ = some (.string y.f1) := (blk_cell HP.out 1).trans rfl
    have ed : wb.cell? ⟨g3, 14, none⟩ = some (.slice Aq j cq) := (blk_cell HC5.out 14).trans rfl
    have HSL := Aside0.mk (show w.heap.size ≤ wb.heap.size from BL5.out.size)
    have HSB := Aside0.mk (B.below_low (Below.refl _ wb) HSL.out)
    go_wp2_with ((with_reducible refine gate_builtin (b := .append) (xs := #[.tmp 41, .tmp 43]) rfl ?_); at_builtin; refine Kd.R_append k63 (w0 := wb) w.heap.size rfl (.tmp 41) (.tmp 43) 34 63 (.agg #[.int .i32 0, .string ⟨#[]⟩]) 24 rfl Try.underlying34 info63 rfl (by decide) (by decide) (.slice Aq j cq) ((x.f10.take j).map laws_ofCred.to) (laws_ofCred.to y) [.int .i32 y.f0, .string y.f1] (fun _ => True) (fun k_ => True ∧ some k_ ≠ (Value.slice Aq j cq).ownBlock) rfl rfl (k63_mkM _ _ _ (laws_ofCred.to y)) (fun _ h => h) (fun _ _ => trivial) RQ5.out HSB.out HSL.out HZZ.out ?_; intro v6 w6 hv6 hb6 hg6 hat6; rw [HNX.out] at hv6; obtain ⟨Aq6, cq6, ev6⟩ := Kd.R_slice hv6; rw [HLN.out] at ev6; subst ev6; have RQ6 := Aside0.mk hv6; have HB6 := Aside0.mk (B.Box.row HB5.out RQ5.out (by decide) hg6); have HR6 := Aside0.mk (B.Box.row HR5.out RQ5.out (by decide) hg6); have HC6 := Aside0.mk (B.Box.row HC5.out RQ5.out (by decide) hg6); have BL6 := Aside0.mk (B.below_row BL5.out RQ5.out hg6); have e6 := B.Box.cell HC6.out 14 (.slice Aq j cq) rfl; have f6 := B.Box.free HC6.out 14; clear hv6 hb6 hg6 hat6 ed ea eb)
    have HB7 := Aside0.mk (B.Box.far HB6.out HGN.out.1 14 (.slice Aq6 (j + 1) cq6))
    have HR7 := Aside0.mk (B.Box.far HR6.out HGN.out.2.1 14 (.slice Aq6 (j + 1) cq6))
    have RQ7 := Aside0.mk (B.row_set RQ6.out HC6.out (by decide) 14 (.slice Aq6 (j + 1) cq6))
    have HC7 := Aside0.mk (B.Box.puts (cs' := #[Value.string x.f0.f0, .slice X1 x.f0.f1.length c1, .int .i32 x.f0.f2, .string x.f1.f0, .slice X4 x.f1.f1.length c4, .int .i32 x.f1.f2, .int .i32 x.f2, .string x.f3, .int .i64 x.f4, .int .i64 x.f5, .int .i64 x.f6, .int .i64 x.f7, .bool x.f8, .int .u32 x.f9, .slice Aq6 (j + 1) cq6, .slice none 0 0, .string x.f12, .string x.f13]) HC6.out 14 (.slice Aq6 (j + 1) cq6) rfl)
    have BL7 := Aside0.mk (below_set (j := 14) (v := .slice Aq6 (j + 1) cq6) BL6.out HGN.out.2.2)
    clear HB6 HR6 HC6 RQ6 BL6 e6 f6 HB5 HR5 HC5 RQ5 BL5 HSL HSB HP
    go_roundw
    case rel => exact ⟨j + 1, Aq6, cq6, by omega, by go_num, HB7, HR7, HC7, RQ7, BL7⟩
    case measure => simp [intOf]; omega
  case rest =>
  clear HB4 HR4 HC4 BL4
  obtain ⟨Ap, cp, HB4, HR4, HC4, RA0, BL4⟩ := hcut
  obtain ⟨T_, hT⟩ : ∃ T_, T_ = wc.heap.size := ⟨_, rfl⟩
  have RA4 := Aside0.mk (show k63.R 63 wc w.heap.size (fun b => b < T_) (.slice Ap x.f10.length cp) (x.f10.map laws_ofCred.to) from Kd.R_mono (Kd.R_bound RA0.out) (fun k_ hk_ => by have := hk_.2.2.1; omega))
  have HTW := Aside0.mk (show w.heap.size ≤ T_ from by rw [hT]; exact BL4.out.size)
  clear RA0 hln
  generalize wc = w4 at *
  have q_ : w4.cell? ⟨g1, 15, none⟩ = some (.slice X15 x.f11.length c15) := (blk_cell HB4.out 15).trans rfl
  go_upto_block 2 with fail
  clear q_
  have hln := HL.out.2
  go_cut [] (fun wc => ∃ (Ap : Option Addr) (cp : Nat) (Ap0 : Option Addr) (cp0 : Nat), Aside0 (wc.heap[g1]? = some (.cells #[Value.string x.f0.f0, .slice X1 x.f0.f1.length c1, .int .i32 x.f0.f2, .string x.f1.f0, .slice X4 x.f1.f1.length c4, .int .i32 x.f1.f2, .int .i32 x.f2, .string x.f3, .int .i64 x.f4, .int .i64 x.f5, .int .i64 x.f6, .int .i64 x.f7, .bool x.f8, .int .u32 x.f9, .slice X14 x.f10.length c14, .slice X15 x.f11.length c15, .string x.f12, .string x.f13] 47 (0, 0))) ∧ Aside0 (wc.heap[g2]? = some (.cells pw_zero36 36 (0, 0))) ∧ Aside0 (wc.heap[g3]? = some (.cells #[Value.string x.f0.f0, .slice X1 x.f0.f1.length c1, .int .i32 x.f0.f2, .string x.f1.f0, .slice X4 x.f1.f1.length c4, .int .i32 x.f1.f2, .int .i32 x.f2, .string x.f3, .int .i64 x.f4, .int .i64 x.f5, .int .i64 x.f6, .int .i64 x.f7, .bool x.f8, .int .u32 x.f9, .slice Ap0 x.f10.length cp0, .slice Ap x.f11.length cp, .string x.f12, .string x.f13] 36 (0, 0))) ∧ Aside0 (k63.R 63 wc w.heap.size (fun _ => True) (.slice Ap x.f11.length cp) (x.f11.map laws_ofCred.to)) ∧ Aside0 (k63.R 63 wc w.heap.size (fun _ => True) (.slice Ap0 x.f10.length cp0) (x.f10.map laws_ofCred.to)) ∧ Aside0 (Below w.heap.size w wc))
  case first =>
    go_wp2_with fail
    go_loopw [50] (fun i wr => ∃ (j : Nat) (Aq : Option Addr) (cq : Nat), j ≤ x.f11.length ∧ i = .int .i64 j ∧ Aside0 (wr.heap[g1]? = some (.cells #[Value.string x.f0.f0, .slice X1 x.f0.f1.length c1, .int .i32 x.f0.f2, .string x.f1.f0, .slice X4 x.f1.f1.length c4, .int .i32 x.f1.f2, .int .i32 x.f2, .string x.f3, .int .i64 x.f4, .int .i64 x.f5, .int .i64 x.f6, .int .i64 x.f7, .bool x.f8, .int .u32 x.f9, .slice X14 x.f10.length c14, .slice X15 x.f11.length c15, .string x.f12, .string x.f13] 47 (0, 0))) ∧ Aside0 (wr.heap[g2]? = some (.cells pw_zero36 36 (0, 0))) ∧ Aside0 (wr.heap[g3]? = some (.cells #[Value.string x.f0.f0, .slice X1 x.f0.f1.length c1, .int .i32 x.f0.f2, .string x.f1.f0, .slice X4 x.f1.f1.length c4, .int .i32 x.f1.f2, .int .i32 x.f2, .string x.f3, .int .i64 x.f4, .int .i64 x.f5, .int .i64 x.f6, .int .i64 x.f7, .bool x.f8, .int .u32 x.f9, .slice Ap x.f10.length cp, .slice Aq j cq, .string x.f12, .string x.f13] 36 (0, 0))) ∧ Aside0 (k63.R 63 wr T_ (fun _ => True) (.slice Aq j cq) ((x.f11.take j).map laws_ofCred.to)) ∧ Aside0 (Below w.heap.size w wr) ∧ Aside0 (k63.R 63 wr w.heap.size (fun b => b < T_) (.slice Ap x.f10.length cp) (x.f10.map laws_ofCred.to)) ∧ Aside0 (T_ ≤ wr.heap.size)) (fun i _ => x.f11.length - (intOf i).toNat)
    case atStart => exact ⟨0, none, 0, Nat.zero_le _, rfl, HB4, HR4, HC4, ⟨Kd.R_nil _ _ _ _ _⟩, BL4, RA4, ⟨Nat.le_of_eq hT⟩⟩
    clear HB4 HR4 HC4 BL4 RA4
    obtain ⟨j, Aq, cq, hj, rfl, HB, HR, HC, RQ, BL, RA, HT⟩ := hrel
    by_cases hlt : j < x.f11.length
    case neg =>
      obtain rfl : j = x.f11.length := by omega
      have hnl : ¬ ((x.f11.length : Int) < (x.f11.length : Int)) := by omega
      have RQ2 := Aside0.mk (List.take_length (l := x.f11) ▸ RQ.out)
      clear RQ hj hlt
      go_wp2_with fail
      go_meet
      case rel => exact ⟨Aq, cq, Ap, cp, HB, HR, HC, ⟨Kd.R_lower RQ2.out HTW.out⟩, ⟨Kd.R_mono RA.out (fun _ _ => trivial)⟩, BL⟩
    have hlt' : (j : Int) < (x.f11.length : Int) := by omega
    have hj0 : (0 : Int) ≤ (j : Int) := by omega
    obtain ⟨ad, rfl, hce⟩ := pw_row101 (Kd.C_below H15.out BL.out) j hlt
    have HCE := Aside0.mk hce
    have HNX := Aside0.mk (pw_drop101 x.f11 j hlt)
    generalize x.f11.getD j z101 = y at *
    have HLN := Aside0.mk (show ((x.f11.take (j + 1)).map laws_ofCred.to).length = j + 1 from by rw [List.length_map, List.length_take]; omega)
    have HZZ := Aside0.mk (show (((x.f11.take j).map laws_ofCred.to).length + 1) * 24 ≤ 140737488355328 from by rw [List.length_map, List.length_take]; omega)
    clear hce
    go_upto_region 10 with (first
      | ((with_reducible refine gate_dst (N := 53) rfl ?_); refine B.load_cells_event ?hg (N := 53) ?hd 101 (.tmp 52) (ad.add (j * 2)) [Value.int .i32 y.f0, .string y.f1] _ ?ho ?hx HCE.out Try.underlying101 ?hq ?hi ?_; (case hg => rfl); (case hd => rfl); (case ho => rfl); (case hx => first | rfl | (go_simp; done)); (case hq => rfl); (case hi => exact pw_size101))
      | ((with_reducible refine gate_dst (N := 7) rfl ?_); refine box_event ?hg (N := 7) ?hd (cs := #[.int .i32 0, .string ⟨#[]⟩]) (t := 101) ?hr ?_; (case hd => rfl); (case hg => rfl); (case hr => first | (go_simp; done) | (go_simp; rfl)); intro gp hgb wa hbox hb; have HY := Aside0.mk hbox; have BA := Aside0.mk hb; have HGP := Aside0.mk (show wr.heap.size ≤ gp from by rw [hgb]; exact Nat.le_refl _); clear hbox hb hgb)
      | ((with_reducible refine gate_store (t := 101) (p := 7) (v := .tmp 53) rfl ?_); refine B.store_event ?hg 101 (.tmp 7) (.tmp 53) ?ho gp #[.int .i32 y.f0, .string y.f1] ?hx ?hy 101 _ HY.out ?hi ?hl (by simp [Value.oneCell']) ?_; (case hg => rfl); (case ho => rfl); (case hx => first | rfl | (go_simp; done)); (case hy => first | rfl | (go_simp; done)); (case hi => exact pw_size101); (case hl => rfl); intro wb hb2 hbl2 hsz2 hot2; have HP := Aside0.mk hb2; have BB := Aside0.mk (hbl2 wr BA.out HGP.out); clear hb2 hbl2 hsz2 hot2)
      | fail)
    have HB5 := Aside0.mk (blk_below HB.out BB.out)
    have HR5 := Aside0.mk (blk_below HR.out BB.out)
    have HC5 := Aside0.mk (blk_below HC.out BB.out)
    have RQ5 := Aside0.mk (Kd.R_below RQ.out BB.out)
    have BL5 := Aside0.mk (below_step BL.out BB.out)
    have RA5 := Aside0.mk (Kd.R_below RA.out BB.out)
    have HT5 := Aside0.mk (Nat.le_trans HT.out BB.out.size)
    clear RA HT
    clear HB HR HC RQ BL BA BB HGP HY HCE
    have ea : wb.cell? ⟨gp, 0, none⟩ = some (.int .i32 y.f0) := (blk_cell HP.out 0).trans rfl
    have eb : wb.cell? ⟨gp, 1, none⟩ = some (.string y.f1) := (blk_cell HP.out 1).trans rfl
    have ed : wb.cell? ⟨g3, 15, none⟩ = some (.slice Aq j cq) := (blk_cell HC5.out 15).trans rfl
    have HSL := Aside0.mk (show T_ ≤ wb.heap.size from HT5.out)
    have HSB := Aside0.mk (B.below_low (Below.refl _ wb) HSL.out)
    go_wp2_with ((with_reducible refine gate_builtin (b := .append) (xs := #[.tmp 55, .tmp 57]) rfl ?_); at_builtin; refine Kd.R_append k63 (w0 := wb) T_ rfl (.tmp 55) (.tmp 57) 34 63 (.agg #[.int .i32 0, .string ⟨#[]⟩]) 24 rfl Try.underlying34 info63 rfl (by decide) (by decide) (.slice Aq j cq) ((x.f11.take j).map laws_ofCred.to) (laws_ofCred.to y) [.int .i32 y.f0, .string y.f1] (fun _ => True) (fun k_ => True ∧ some k_ ≠ (Value.slice Aq j cq).ownBlock) rfl rfl (k63_mkM _ _ _ (laws_ofCred.to y)) (fun _ h => h) (fun _ _ => trivial) RQ5.out HSB.out HSL.out HZZ.out ?_; intro v6 w6 hv6 hb6 hg6 hat6; rw [HNX.out] at hv6; obtain ⟨Aq6, cq6, ev6⟩ := Kd.R_slice hv6; rw [HLN.out] at ev6; subst ev6; have RQ6 := Aside0.mk hv6; have HB6 := Aside0.mk (B.Box.row HB5.out RQ5.out (by decide) hg6); have HR6 := Aside0.mk (B.Box.row HR5.out RQ5.out (by decide) hg6); have HC6 := Aside0.mk (B.Box.row HC5.out RQ5.out (by decide) hg6); have BL6 := Aside0.mk (B.below_row BL5.out (Kd.R_lower RQ5.out HTW.out) hg6); have RA6 := Aside0.mk (Kd.R_grown RA5.out hg6 (fun k_ hk_ e_ => by have := Kd.R_base RQ5.out k_ e_.symm; omega)); have HT6 := Aside0.mk (Nat.le_trans HT5.out hg6.size); have e6 := B.Box.cell HC6.out 15 (.slice Aq j cq) rfl; have f6 := B.Box.free HC6.out 15; clear hv6 hb6 hg6 hat6 ed ea eb)
    have HB7 := Aside0.mk (B.Box.far HB6.out HGN.out.1 15 (.slice Aq6 (j + 1) cq6))
    have HR7 := Aside0.mk (B.Box.far HR6.out HGN.out.2.1 15 (.slice Aq6 (j + 1) cq6))
    have RQ7 := Aside0.mk (B.row_set RQ6.out HC6.out (by decide) 15 (.slice Aq6 (j + 1) cq6))
    have HC7 := Aside0.mk (B.Box.puts (cs' := #[Value.string x.f0.f0, .slice X1 x.f0.f1.length c1, .int .i32 x.f0.f2, .string x.f1.f0, .slice X4 x.f1.f1.length c4, .int .i32 x.f1.f2, .int .i32 x.f2, .string x.f3, .int .i64 x.f4, .int .i64 x.f5, .int .i64 x.f6, .int .i64 x.f7, .bool x.f8, .int .u32 x.f9, .slice Ap x.f10.length cp, .slice Aq6 (j + 1) cq6, .string x.f12, .string x.f13]) HC6.out 15 (.slice Aq6 (j + 1) cq6) rfl)
    have BL7 := Aside0.mk (below_set (j := 15) (v := .slice Aq6 (j + 1) cq6) BL6.out HGN.out.2.2)
    have RA7 := Aside0.mk (Kd.R_set RA6.out HC6.out (by decide) 15 (.slice Aq6 (j + 1) cq6))
    have HT7 := Aside0.mk (show T_ ≤ (w6.setCell ⟨g3, 15, none⟩ (.slice Aq6 (j + 1) cq6)).heap.size from by simpa using HT6.out)
    clear RA5 RA6 HT5 HT6
    clear HB6 HR6 HC6 RQ6 BL6 e6 f6 HB5 HR5 HC5 RQ5 BL5 HSL HSB HP
    go_roundw
    case rel => exact ⟨j + 1, Aq6, cq6, by omega, by go_num, HB7, HR7, HC7, RQ7, BL7, RA7, HT7⟩
    case measure => simp [intOf]; omega
  case rest =>
  clear HB4 HR4 HC4 BL4 RA4 HTW
  obtain ⟨Au, cu, Ap, cp, HB, HR, HC, RU, RA, BL⟩ := hcut
  obtain ⟨cf, hcf⟩ : ∃ z : Array Value, z = #[Value.string x.f0.f0, .slice X1 x.f0.f1.length c1, .int .i32 x.f0.f2, .string x.f1.f0, .slice X4 x.f1.f1.length c4, .int .i32 x.f1.f2, .int .i32 x.f2, .string x.f3, .int .i64 x.f4, .int .i64 x.f5, .int .i64 x.f6, .int .i64 x.f7, .bool x.f8, .int .u32 x.f9, .slice Ap x.f10.length cp, .slice Au x.f11.length cu, .string x.f12, .string x.f13] := ⟨_, rfl⟩
  have HS := Aside0.mk (show cf.size = 18 ∧ cf.all (·.oneCell') = true from by subst hcf; exact ⟨rfl, by simp [Value.oneCell']⟩)
  have hc := HC.out
  rw [← hcf] at hc
  clear HC
  have HC := Aside0.mk hc
  have HCF := Aside0.mk hcf
  clear hc hcf
  have HG2 := Aside0.mk (show w.heap.size ≤ g2 from HG2w.out)
  go_wp2_with (first
    | ((with_reducible refine gate_dst (N := 61) rfl ?_); refine B.row_event ?hg (N := 61) ?hd 36 (.tmp 3) g3 36 cf _ ?ho ?hx HC.out Try.underlying36 ?hq ?hi ?_; (case hg => rfl); (case hd => rfl); (case ho => rfl); (case hx => first | rfl | (go_simp; done)); (case hq => rfl); (case hi => exact pw_size36.trans (congrArg some HS.out.1.symm)))
    | ((with_reducible refine gate_store (t := 36) (p := 2) (v := .tmp 61) rfl ?_); refine B.store_event ?hg 36 (.tmp 2) (.tmp 61) ?ho g2 cf ?hx ?hy 36 _ HR.out ?hi ?hl HS.out.2 ?_; (case hg => rfl); (case ho => rfl); (case hx => first | rfl | (go_simp; done)); (case hy => first | rfl | (go_simp; done)); (case hi => exact pw_size36.trans (congrArg some HS.out.1.symm)); (case hl => exact HS.out.1.symm); intro w9 hb2 hbl2 hsz2 hot2; have HF := Aside0.mk hb2; have BF := Aside0.mk (hbl2 w BL.out HG2.out); have HOT := Aside0.mk hot2; clear hb2 hbl2 hsz2 hot2)
    | fail)
  have RA9 := Kd.R_reads' (Kd.R_move (Kd.R_types RA.out HR.out (by decide)) (fun k_ hk_ => HOT.out k_ hk_.2))
  have RU9 := Kd.R_reads' (Kd.R_move (Kd.R_types RU.out HR.out (by decide)) (fun k_ hk_ => HOT.out k_ hk_.2))
  refine bodyPost_ret (v := .agg cf) (results_cell_row (p := 2) (ty := 36) rfl _ _ g2 36 cf (0, 0) _ ?_ HF.out Try.underlying36 rfl (pw_size36.trans (congrArg some HS.out.1.symm))) rfl ?_
  · first | rfl | (simp; rfl) | simp
  exact ⟨Ap, cp, Au, cu, by rw [HCF.out]; simp only [laws_ofCred.of, List.length_map], by have := RA9.2.1; simpa [laws_ofCred.of] using this, RA9.2.2, by have := RU9.2.1; simpa [laws_ofCred.of] using this, RU9.2.2, BF.out⟩
theorem pw_drop47 (l : List S47) (j : Nat) (h : j < l.length) : (l.map laws_ofCred.of).getD j z36 = laws_ofCred.of (l.getD j z47) := by
  rw [List.getD_eq_getElem?_getD, List.getD_eq_getElem?_getD, List.getElem?_map, List.getElem?_eq_getElem h]
  rfl
/-- A credential of a row that was read: its cells. -/
theorem pw_row47 {w : World} {A : Option Addr} {n : Nat} {xs : List S47} (h : Kd.C k47 w A n xs) (j : Nat) (hj : j < n) : ∃ (ad : Addr) (A1 : Option Addr) (c1 : Nat) (A4 : Option Addr) (c4 : Nat) (A14 : Option Addr) (c14 : Nat) (A15 : Option Addr) (c15 : Nat), A = some ad ∧
    (∀ i u, [Value.string (xs.getD j z47).f0.f0, .slice A1 (xs.getD j z47).f0.f1.length c1, .int .i32 (xs.getD j z47).f0.f2, .string (xs.getD j z47).f1.f0, .slice A4 (xs.getD j z47).f1.f1.length c4, .int .i32 (xs.getD j z47).f1.f2, .int .i32 (xs.getD j z47).f2, .string (xs.getD j z47).f3, .int .i64 (xs.getD j z47).f4, .int .i64 (xs.getD j z47).f5, .int .i64 (xs.getD j z47).f6, .int .i64 (xs.getD j z47).f7, .bool (xs.getD j z47).f8, .int .u32 (xs.getD j z47).f9, .slice A14 (xs.getD j z47).f10.length c14, .slice A15 (xs.getD j z47).f11.length c15, .string (xs.getD j z47).f12, .string (xs.getD j z47).f13][i]? = some u → w.cell? ((ad.add (j * 18)).add i) = some u) ∧
    (xs.getD j z47).f0.f1.length ≤ c1 ∧ Kd.string.C w A1 (xs.getD j z47).f0.f1.length (xs.getD j z47).f0.f1 ∧ (xs.getD j z47).f1.f1.length ≤ c4 ∧ Kd.string.C w A4 (xs.getD j z47).f1.f1.length (xs.getD j z47).f1.f1 ∧ (xs.getD j z47).f10.length ≤ c14 ∧ k101.C w A14 (xs.getD j z47).f10.length (xs.getD j z47).f10 ∧ (xs.getD j z47).f11.length ≤ c15 ∧ k101.C w A15 (xs.getD j z47).f11.length (xs.getD j z47).f11 := by
  obtain ⟨ad, c, e, _, hK, hc⟩ := Kd.C_get h z47 (j : Int) (by omega) (by omega)
  rw [Int.toNat_natCast] at hK hc
  obtain ⟨A1, c1, A4, c4, A14, c14, A15, c15, rfl, l1, g1, l4, g4, l14, g14, l15, g15⟩ := k47_open hK
  exact ⟨ad, A1, c1, A4, c4, A14, c14, A15, c15, e, fun i u hu => by rw [add_add]; exact hc i u hu, l1, g1, l4, g4, l14, g14, l15, g15⟩

end Go.Proofs.Ytnipcocllhfaoaa.A

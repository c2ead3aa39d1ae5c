/- Go functions of this seat come to the answers of the Lean functions that stand here ('.calls'), under what each theorem states and nothing else. Written by pw.py, a program of this session, with texts of its own. -/
import Derived.Test.YtnipcocllhfaoaaA0
import Derived.Test.YtnipcocllhfaoaaA6
import Derived.Test.YtnipcocllhfaoaaA7
import Derived.Test.YtnipcocllhfaoaaP2
namespace Go.Proofs.Ytnipcocllhfaoaa.A
open Go.RowKit Go.Proofs.YtnipcocllhfaoaaW.PrintWords Go.Proofs.YtnipcocllhfaoaaW.PrintLast
open Go.Proofs.Ytnipcocllhfaoaa.B (gate_callee gate_builtin)
set_option linter.unusedVariables false
set_option linter.unusedSimpArgs false
set_option maxRecDepth 100000

/-! ### laws_ccAwake: function 11 -/
-- EXT rounds=0 making=1
-- NEEDS 12 15
-- INFO 64
-- INFO 9
set_option maxHeartbeats 8000000 in
theorem laws_ccAwake.any (w : World) : Calls Try.prog 11 #[] w fun e w' => e = .returned (.bool true) ∧ Below w.heap.size w w' := by
  obtain ⟨s, h1, h2, h3⟩ := P.awake
  have H1 := Aside0.mk h1
  have H2 := Aside0.mk h2
  have H3 := Aside0.mk h3
  clear h1 h2 h3
  have hu37 := Try.underlying37
  go_enter Try.func11, Try.ntmps11
  go_wp2_with (first
    | ((with_reducible refine gate_dst (N := 10) rfl ?_); refine Kd.R_lit (Kd.int .u64) _ 64 ?hg (N := 10) ?hd (xs := ([0] : List Int)) (inner := [.int .u64 0]) (ok := fun _ => True) (okp := fun _ => True) ?hr ?hp (fun _ hk => hk) trivial (Below.refl _ _) (Nat.le_refl _) (by simp) ?_; (case hd => rfl); (case hg => rfl); (case hr => first | (go_simp; done) | (go_simp; rfl)); (case hp => exact (Reps.one (show Kd.M (Kd.int .u64) _ _ _ 0 [.int .u64 0] from rfl) (Reps.none _ _))); intro v1 w1 ho1 hb1 hg_ hnew_; clear hg_ hnew_; obtain ⟨A1, c1, rfl, hl1, hc1⟩ := Kd.R_reads ho1; have HC1 := Aside0.mk (And.intro hl1 hc1); have HB1 := Aside0.mk hb1; clear ho1 hb1 hl1 hc1)
    | ((with_reducible refine gate_dst (N := 11) rfl ?_); refine Kd.R_lit Kd.string _ 9 ?hg (N := 11) ?hd (xs := ([(⟨#[97]⟩ : ByteArray)] : List ByteArray)) (inner := [.string (⟨#[97]⟩ : ByteArray)]) (ok := fun _ => True) (okp := fun _ => True) ?hr ?hp (fun _ hk => hk) trivial (Below.refl _ _) (Nat.le_refl _) (by simp) ?_; (case hd => rfl); (case hg => rfl); (case hr => first | (go_simp; done) | (go_simp; rfl)); (case hp => exact (Reps.one (show Kd.M Kd.string _ _ _ (⟨#[97]⟩ : ByteArray) [.string (⟨#[97]⟩ : ByteArray)] from rfl) (Reps.none _ _))); intro v2 w2 ho2 hb2 hg_ hnew_; clear hg_ hnew_; obtain ⟨A2, c2, rfl, hl2, hc2⟩ := Kd.R_reads ho2; have HC2 := Aside0.mk (And.intro hl2 hc2); have HB2 := Aside0.mk hb2; clear ho2 hb2 hl2 hc2)
    | fail)
  have hcall := spec_CacheBytes.calls 30 4 A1 c1 [0] ⟨#[82]⟩ A2 c2 [⟨#[97]⟩] 1 none 0 [] s w2 (Kd.C_below HC1.out.2 HB2.out) HC1.out.1 HC2.out.2 HC2.out.1 (Kd.C_nil _ _) (Nat.le_refl _) H1.out
  rw [show ([] : List S36).length = 0 from rfl] at hcall
  refine hcall.mono ?_
  clear hcall
  rintro e w3 ⟨rfl, hb⟩
  have BL3 := Aside0.mk (below_step (below_step HB1.out HB2.out) hb)
  clear hb HB1 HB2 HC1 HC2
  go_wp2_with fail
  refine (impl_CacheRead.calls s 4 ⟨#[82]⟩ [⟨#[97]⟩] 1 [] true _ H2.out).mono ?_
  rintro e w4 ⟨v1, v3, rfl, hv1, hv3, hb⟩
  obtain ⟨AX, cX, rfl, _, _⟩ := Kd.R_reads hv1
  obtain ⟨AY, cY, rfl, _, _⟩ := Kd.R_reads hv3
  have BL4 := Aside0.mk (below_step BL3.out hb)
  clear hb hv1 hv3 BL3
  go_wp2_with fail
  refine (impl_CacheRead.calls ⟨#[5]⟩ 0 ⟨#[]⟩ [] 0 [] false _ H3.out).mono ?_
  rintro e w5 ⟨v1, v3, rfl, hv1, hv3, hb⟩
  obtain ⟨AX2, cX2, rfl, _, _⟩ := Kd.R_reads hv1
  obtain ⟨AY2, cY2, rfl, _, _⟩ := Kd.R_reads hv3
  have HG := Aside0.mk (blk_below (blk_new _ _) hb)
  have BL5 := Aside0.mk (below_step (below_alloc BL4.out _) hb)
  clear hv1 hv3 hb BL4
  have hsz37 : (Try.prog.info? 37).map (·.size) = some 3 := by kernel_rfl
  have HS := Aside0.mk hsz37
  clear hsz37
  generalize w4.heap.size = gq at *
  go_upto_region 3 with (first
    | ((with_reducible refine gate_dst (N := 6) rfl ?_); refine box_event ?hg (N := 6) ?hd (cs := #[.string ⟨#[]⟩, .slice none 0 0, .int .i32 0]) (t := 37) ?hr ?_; (case hd => rfl); (case hg => rfl); (case hr => first | (go_simp; done) | (go_simp; rfl)); intro gb hgb w6 hbox hb; have HBX := Aside0.mk hbox; have HG6 := Aside0.mk (blk_below HG.out hb); have BL6 := Aside0.mk (below_step BL5.out hb); have HGB := Aside0.mk (show w.heap.size ≤ gb ∧ gq ≠ gb from ⟨by rw [hgb]; exact BL5.out.size, by rw [hgb]; exact Nat.ne_of_lt (blk_lt HG.out)⟩); clear hbox hb hgb)
    | ((with_reducible refine gate_store (t := 37) (p := 6) (v := .tmp 22) rfl ?_); refine B.store_event ?hg 37 (.tmp 6) (.tmp 22) ?ho gb #[.string ⟨#[]⟩, .slice AX2 0 cX2, .int .i32 0] ?hx ?hy 37 _ HBX.out ?hi ?hl (by simp [Value.oneCell']) ?_; (case hg => rfl); (case ho => rfl); (case hx => first | rfl | (go_simp; done)); (case hy => first | rfl | (go_simp; done)); (case hi => exact HS.out); (case hl => rfl); intro w7 hb2 hbl2 hsz2 hot2; have HG7 := Aside0.mk ((hot2 gq HGB.out.2).trans HG6.out); have BL7 := Aside0.mk (hbl2 w BL6.out HGB.out.1); clear hb2 hbl2 hsz2 hot2)
    | fail)
  have c0 : w7.cell? ⟨gq, 0, none⟩ = some (.string ⟨#[82]⟩) := (blk_cell HG7.out 0).trans rfl
  have c1' : w7.cell? ⟨gq, 1, none⟩ = some (.slice AX 1 cX) := (blk_cell HG7.out 1).trans rfl
  have e4 : (⟨#[82]⟩ : ByteArray).toList = [82] := by first | decide | rfl | decide +kernel | simp [ByteArray.toList, ByteArray.toList.loop]
  go_wp2
  go_ret
  exact ⟨rfl, BL7.out⟩
theorem laws_ccAwake.calls (r : Bool) (w : World) (h : some true = some r) : Calls Try.prog 11 #[] w fun e w' => e = .returned (.bool r) ∧ Below w.heap.size w w' := by
  obtain rfl := Option.some.inj h
  exact laws_ccAwake.any w

end Go.Proofs.Ytnipcocllhfaoaa.A

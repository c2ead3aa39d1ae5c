/- Go functions of this seat come to the answers of the Lean functions that stand here ('.calls'), under what each theorem states and nothing else. Written by pw.py, a program of this session, with texts of its own. -/
import Derived.Test.YtnipcocllhfaoaaA0
import Derived.Test.YtnipcocllhfaoaaA1
import Derived.Test.YtnipcocllhfaoaaA2
import Derived.Test.YtnipcocllhfaoaaA3
import Derived.Test.YtnipcocllhfaoaaA5
import Derived.Test.YtnipcocllhfaoaaA6
import Derived.Test.YtnipcocllhfaoaaA7
import Derived.Test.YtnipcocllhfaoaaA8
import Derived.Test.YtnipcocllhfaoaaA9
import Derived.Test.YtnipcocllhfaoaaP2
namespace Go.Proofs.Ytnipcocllhfaoaa.A
open Go.RowKit Go.Proofs.YtnipcocllhfaoaaW.PrintWords Go.Proofs.YtnipcocllhfaoaaW.PrintLast Go.Proofs.YtnipcocllhfaoaaW.PrintMore
attribute [local go_sem] max2_int min2_int max_two min_two max_three min_three max_four min_four   -- for this text's walks alone
set_option linter.unusedVariables false
set_option linter.unusedSimpArgs false
set_option maxRecDepth 100000

/-! ### laws_FnCcCut: function 3 -/
-- EXT rounds=0 making=1
-- NEEDS 7 8 9 10 11 12 13 14 15
theorem laws_FnCcCut.version (a : Int) (h : (Lit.int .u8 a).wf = true) : ∃ v : Nat, (v = 3 ∨ v = 4) ∧ laws_ccVersion.f a = some (v : Int) := by
  have h0 : 0 ≤ a := by simp [Lit.wf, IntKind.min, IntKind.max, IntKind.bits, IntKind.signed] at h; omega
  have e : Int.tmod a 2 = a % 2 := Int.tmod_eq_emod_of_nonneg h0
  unfold laws_ccVersion.f
  rw [e]
  rcases (show a % 2 = 0 ∨ a % 2 = 1 by omega) with h2 | h2
  · exact ⟨3, Or.inl rfl, by rw [h2]; rfl⟩
  · exact ⟨4, Or.inr rfl, by rw [h2]; rfl⟩
set_option maxHeartbeats 16000000 in
theorem laws_FnCcCut.walk (a0 : Int) (a1_0 : ByteArray) (A1_1 : Option Addr) (c1_1 : Nat) (l1_1 : List ByteArray) (a1_2 : Int) (A2 : Option Addr) (c2 : Nat) (l2 : List (S36)) (a3 : Int) (w : World) (hr1_1 : Kd.C Kd.string w A1_1 l1_1.length l1_1) (hc1_1 : l1_1.length ≤ c1_1) (hr2 : Kd.C k36 w A2 l2.length l2) (hc2 : l2.length ≤ c2) (g0 : (Lit.int .u8 a0).wf = true) (g1_0 : a1_0.size ≤ maxLen) (g1_1 : l1_1.length ≤ 9223372036854775807 ∧ ∀ y0_ : ByteArray, y0_ ∈ l1_1 → y0_.size ≤ maxLen) (g1_2 : (Lit.int .i32 a1_2).wf = true) (g2 : l2.length ≤ 9223372036854775807 ∧ ∀ y0_ : S36, y0_ ∈ l2 → ((y0_.f0.f0.size ≤ maxLen) ∧ (y0_.f0.f1.length ≤ 9223372036854775807 ∧ ∀ y1_ : ByteArray, y1_ ∈ y0_.f0.f1 → y1_.size ≤ maxLen) ∧ ((Lit.int .i32 y0_.f0.f2).wf = true)) ∧ ((y0_.f1.f0.size ≤ maxLen) ∧ (y0_.f1.f1.length ≤ 9223372036854775807 ∧ ∀ y1_ : ByteArray, y1_ ∈ y0_.f1.f1 → y1_.size ≤ maxLen) ∧ ((Lit.int .i32 y0_.f1.f2).wf = true)) ∧ ((Lit.int .i32 y0_.f2).wf = true) ∧ (y0_.f3.size ≤ maxLen) ∧ ((Lit.int .i64 y0_.f4).wf = true) ∧ ((Lit.int .i64 y0_.f5).wf = true) ∧ ((Lit.int .i64 y0_.f6).wf = true) ∧ ((Lit.int .i64 y0_.f7).wf = true) ∧ ((Lit.int .u32 y0_.f9).wf = true) ∧ (y0_.f10.length ≤ 9223372036854775807 ∧ ∀ y1_ : S63, y1_ ∈ y0_.f10 → ((Lit.int .i32 y1_.f0).wf = true) ∧ (y1_.f1.size ≤ maxLen)) ∧ (y0_.f11.length ≤ 9223372036854775807 ∧ ∀ y1_ : S63, y1_ ∈ y0_.f11 → ((Lit.int .i32 y1_.f0).wf = true) ∧ (y1_.f1.size ≤ maxLen)) ∧ (y0_.f12.size ≤ maxLen) ∧ (y0_.f13.size ≤ maxLen)) (g3 : (Lit.int .u16 a3).wf = true) :
    Calls Try.prog 3 #[.int .u8 a0, .agg #[.string a1_0, .slice A1_1 l1_1.length c1_1, .int .i32 a1_2], .slice A2 l2.length c2, .int .u16 a3] w fun e w' => e = .returned (.bool true) ∧ Below w.heap.size w w' := by
  have R1 := Aside0.mk hr1_1
  have C1 := Aside0.mk hc1_1
  have R2 := Aside0.mk hr2
  have C2 := Aside0.mk hc2
  have G0 := Aside0.mk g0
  have G12 := Aside0.mk g1_2
  have G2 := Aside0.mk g2
  have G3 := Aside0.mk g3
  clear hr1_1 hc1_1 hr2 hc2 g0 g1_0 g1_1 g1_2 g2 g3
  have hu24 := Try.underlying24
  have hu37 := Try.underlying37
  have hsz24 : (Try.prog.info? 24).map (·.size) = some 3 := by kernel_rfl
  have HS24 := Aside0.mk hsz24
  clear hsz24
  obtain ⟨b1, K1, hb1⟩ := P.fits13 a1_0 l1_1 a1_2
  obtain ⟨b2, K2, hb2⟩ := P.fits14 l2
  have E1 := Aside0.mk (hb1 K1 (Nat.le_refl _))
  have E2 := Aside0.mk (hb2 K2 (Nat.le_refl _))
  clear hb1 hb2
  go_enter Try.func3, Try.ntmps3
  go_wp2_with (first
    | ((with_reducible refine gate_dst (N := 5) rfl ?_); refine box_event ?hg (N := 5) ?hd (cs := #[.string a1_0, .slice A1_1 l1_1.length c1_1, .int .i32 a1_2]) (t := 24) ?hr ?_; (case hd => rfl); (case hg => rfl); (case hr => first | (go_simp; done) | (go_simp; rfl)); intro gb hgb w1 hbox hb; have HBX := Aside0.mk hbox; have HBB := Aside0.mk hb; clear hbox hb hgb)
    | ((with_reducible refine gate_dst (N := 16) rfl ?_); refine B.row_event ?hg (N := 16) ?hd 24 (.tmp 5) gb 24 #[.string a1_0, .slice A1_1 l1_1.length c1_1, .int .i32 a1_2] _ ?ho ?hx HBX.out Try.underlying24 ?hq ?hi ?_; (case hg => rfl); (case hd => rfl); (case ho => rfl); (case hx => first | rfl | (go_simp; done)); (case hq => rfl); (case hi => exact HS24.out))
    | fail)
  refine (laws_zzFits13.calls K1 a1_0 _ _ l1_1 a1_2 b1 _ (Kd.C_below R1.out HBB.out) C1.out E1.out).mono ?_
  rintro e w2 ⟨rfl, hb⟩
  have HB1 := HBX
  have BL1 := HBB
  clear HBX HBB
  have HB2 := Aside0.mk (blk_below HB1.out hb)
  have BL2 := Aside0.mk (below_step BL1.out hb)
  clear hb HB1 BL1
  cases b1 with
  | false =>
    go_wp2
    go_ret
    exact ⟨rfl, BL2.out⟩
  | true =>
  go_wp2_with fail
  refine (laws_zzFits14.calls K2 _ _ l2 b2 _ (Kd.C_below R2.out BL2.out) C2.out E2.out).mono ?_
  rintro e w3 ⟨rfl, hb⟩
  have HB3 := Aside0.mk (blk_below HB2.out hb)
  have BL3 := Aside0.mk (below_step BL2.out hb)
  clear hb HB2 BL2
  cases b2 with
  | false =>
    go_wp2
    go_ret
    exact ⟨rfl, BL3.out⟩
  | true =>
  clear E1 E2
  go_wp2_with (first | ((with_reducible refine gate_dst (N := 24) rfl ?_); refine B.row_event ?hg (N := 24) ?hd 24 (.tmp 5) gb 24 #[.string a1_0, .slice A1_1 l1_1.length c1_1, .int .i32 a1_2] _ ?ho ?hx HB3.out Try.underlying24 ?hq ?hi ?_; (case hg => rfl); (case hd => rfl); (case ho => rfl); (case hx => first | rfl | (go_simp; done)); (case hq => rfl); (case hi => exact HS24.out)) | fail)
  obtain ⟨b3, hb3⟩ : ∃ b, spec_CredsRight.name ⟨a1_0, l1_1, a1_2⟩ = b := ⟨_, rfl⟩
  have n3 := spec_CredsRight.name_any ⟨a1_0, l1_1, a1_2⟩ A1_1 c1_1 w3 (Kd.C_below R1.out BL3.out) C1.out
  rw [hb3] at n3
  have E3 := Aside0.mk hb3
  clear hb3
  refine n3.mono ?_
  clear n3
  rintro e w4 ⟨rfl, hb⟩
  have HB4 := Aside0.mk (blk_below HB3.out hb)
  have BL4 := Aside0.mk (below_step BL3.out hb)
  clear hb HB3 BL3
  cases b3 with
  | false =>
    go_wp2_with fail
    refine (laws_ccAwake.any _).mono ?_
    rintro e wz ⟨rfl, hb⟩
    have BZ := Aside0.mk (below_step BL4.out hb)
    clear hb
    go_wp2
    go_ret
    exact ⟨rfl, BZ.out⟩
  | true =>
  obtain ⟨b4, hb4⟩ : ∃ b, (decide (l2.length ≤ 12) && l2.all spec_CredsRight.cred) = b := ⟨_, rfl⟩
  have hf4 : spec_CredsRight.f l2 = some b4 := congrArg some hb4
  have E4 := Aside0.mk hb4
  have F4 := Aside0.mk hf4
  clear hb4 hf4
  go_wp2_with fail
  refine (spec_CredsRight.calls _ _ l2 b4 _ (Kd.C_below R2.out BL4.out) C2.out F4.out).mono ?_
  rintro e w5 ⟨rfl, hb⟩
  have HB5 := Aside0.mk (blk_below HB4.out hb)
  have BL5 := Aside0.mk (below_step BL4.out hb)
  clear hb HB4 BL4
  cases b4 with
  | false =>
    go_wp2_with fail
    refine (laws_ccAwake.any _).mono ?_
    rintro e wz ⟨rfl, hb⟩
    have BZ := Aside0.mk (below_step BL5.out hb)
    clear hb
    go_wp2
    go_ret
    exact ⟨rfl, BZ.out⟩
  | true =>
  by_cases hl0 : l2 = []
  case pos =>
    subst hl0
    go_wp2_with fail
    refine (laws_ccAwake.any _).mono ?_
    rintro e wz ⟨rfl, hb⟩
    have BZ := Aside0.mk (below_step BL5.out hb)
    clear hb
    go_wp2
    go_ret
    exact ⟨rfl, BZ.out⟩
  have hall : l2.length ≤ 12 ∧ ∀ c ∈ l2, spec_CredsRight.cred c = true := by have := E4.out; simpa using this
  obtain ⟨xs, c, hxc⟩ : ∃ xs c, l2 = xs ++ [c] := ⟨l2.dropLast, l2.getLast hl0, (List.dropLast_concat_getLast hl0).symm⟩
  have OKN := Aside0.mk (P.name_ok E3.out G12.out)
  have OKC := Aside0.mk (show ∀ d ∈ l2, P.OkCred d from fun d hd => P.cred_ok (hall.2 d hd) (G2.out.2 d hd).1.2.2 (G2.out.2 d hd).2.1.2.2 (G2.out.2 d hd).2.2.2.2.2.2.2.2.1)
  have hz0 : 0 < l2.length := List.length_pos_iff.2 hl0
  have hz1 : l2.length ≤ 12 := hall.1
  have XC := Aside0.mk hxc
  clear hall hl0 E4 E3 F4 hxc
  obtain ⟨v, hv, hvf⟩ := laws_FnCcCut.version a0 G0.out
  have HV := Aside0.mk hv
  have HVF := Aside0.mk hvf
  clear hv hvf
  have z0a : decide ((l2.length : Int) = 0) = false := decide_eq_false (by omega)
  have z0b : ((l2.length : Int) == 0) = false := by simpa using z0a
  go_upto_region 5 with fail
  clear z0a z0b
  obtain ⟨data, hda⟩ : ∃ s, s = strOfNums (P.eCache v [] ⟨a1_0, l1_1, a1_2⟩ l2) := ⟨_, rfl⟩
  have CF := Aside0.mk (show spec_CacheBytes.f 30 (v : Int) [] a1_0 l1_1 a1_2 l2 = some data from by rw [hda]; exact P.cache_str HV.out (offs := []) (by simp) (by simp) OKN.out OKC.out hz1 (by omega))
  have HDA := Aside0.mk hda
  clear hda
  obtain ⟨wx, hwwx⟩ : ∃ x, x = w5.drew := ⟨_, rfl⟩
  have hbd : Below w5.heap.size w5 wx := hwwx ▸ below_drew (Below.refl _ _)
  have HBx := Aside0.mk (blk_below HB5.out hbd)
  have BLx := Aside0.mk (below_step BL5.out hbd)
  have HWX := Aside0.mk hwwx
  clear HB5 BL5 hbd hwwx
  refine start_ (n := 6) (S := fun w' => w'.cell? ⟨gb, 0, none⟩ = some (.string a1_0) ∧ w'.cell? ⟨gb, 1, none⟩ = some (.slice A1_1 l1_1.length c1_1) ∧ w'.cell? ⟨gb, 2, none⟩ = some (.int .i32 a1_2)) (ds := []) #[false, false, false, false, false, false] (by kernel_rfl) rfl rfl ⟨(HWX.out ▸ (show _ from (blk_cell HBx.out 0).trans rfl)), (HWX.out ▸ (show _ from (blk_cell HBx.out 1).trans rfl)), (HWX.out ▸ (show _ from (blk_cell HBx.out 2).trans rfl))⟩ (fun hHeld => ?_)
  rw [← HWX.out] at hHeld ⊢
  clear HWX
  refine pure_ (i := 0) (N := some 38) (v := ?_) (a' := ?_) #[true, false, false, false, false, false] rfl rfl (by kernel_rfl) (fun _ _ _ h => h) (Or.inl ⟨by rfl, ?_⟩) ?_ ?_
  rotate_left
  · intro w'
    go_simp
    with_reducible rfl
  rotate_left
  · simp only [Act.put, List.setIfInBounds_toArray, List.set_cons_zero, List.set_cons_succ, i64_w, i32_w]
    rfl
  refine pure_ (i := 3) (N := some 41) (v := ?_) (a' := ?_) #[true, false, false, true, false, false] rfl rfl (by kernel_rfl) (fun _ _ _ h => h) (Or.inl ⟨by rfl, ?_⟩) ?_ ?_
  rotate_left
  · intro w'
    go_simp
    with_reducible rfl
  rotate_left
  · simp only [Act.put, List.setIfInBounds_toArray, List.set_cons_zero, List.set_cons_succ, i64_w, i32_w]
    rfl
  refine take_ (i := 2) (N := some 40) (v := ?_) (a' := ?_) #[true, false, true, true, false, false] rfl rfl (by kernel_rfl) (fun _ _ _ h => h) (Or.inl ⟨by rfl, ?_⟩) hHeld ?_ ?_
  rotate_left
  · rintro w' ⟨s0, s1, s2⟩
    go_simp
    with_reducible rfl
  rotate_left
  · simp only [Act.put, List.setIfInBounds_toArray, List.set_cons_zero, List.set_cons_succ, i64_w, i32_w]
    rfl
  refine one_ (i := 1) (N := some 39) #[true, true, true, true, false, false] rfl rfl (by kernel_rfl) (by decide) (fun K hK => ?_)
  refine goes_ Try.func13 (by kernel_rfl) rfl #[.int .u8 a0] (by rfl) rfl rfl (by simp only [List.map_toArray, List.map_cons, List.map_nil]; rfl) ?_
  with_reducible refine (laws_ccVersion.calls a0 (v : Int) _ HVF.out).mono ?_
  rintro e wy ⟨rfl, hdr_⟩
  refine ⟨_, rfl, ?_⟩
  have hb_ := hdr_.below
  have HBy := Aside0.mk (blk_below HBx.out hb_)
  have BLy := Aside0.mk (below_step BLx.out hb_)
  clear hb_ hdr_
  refine hK.out _ _ ⟨(blk_cell HBy.out 0).trans rfl, (blk_cell HBy.out 1).trans rfl, (blk_cell HBy.out 2).trans rfl⟩ (fun hHeld => ?_)
  clear hK K
  refine norm_ (a' := ?_) ?_ ?_
  rotate_left
  · show Act.put _ (some 39) _ = _
    simp only [Act.put, List.setIfInBounds_toArray, List.set_cons_zero, List.set_cons_succ, i64_w, i32_w]
    rfl
  refine one_ (i := 4) (N := some 42) #[true, true, true, true, true, false] rfl rfl (by kernel_rfl) (by decide) (fun K hK => ?_)
  have hcall := spec_CacheBytes.calls 30 (v : Int) none 0 [] a1_0 A1_1 c1_1 l1_1 a1_2 A2 c2 l2 data wy (Kd.C_nil _ _) (Nat.le_refl _) (Kd.C_below R1.out BLy.out) C1.out (Kd.C_below R2.out BLy.out) C2.out CF.out
  rw [show ([] : List Int).length = 0 from rfl] at hcall
  refine goes_ Try.func12 (by kernel_rfl) rfl #[.int .u8 (v : Int), .slice none 0 0, .agg #[.string a1_0, .slice A1_1 l1_1.length c1_1, .int .i32 a1_2], .slice A2 l2.length c2] (by rfl) rfl rfl (by simp only [List.map_toArray, List.map_cons, List.map_nil]; rfl) ?_
  with_reducible refine (hcall).mono ?_
  rintro e wz ⟨rfl, hb_⟩
  refine ⟨_, rfl, ?_⟩
  clear hcall
  have HBz := Aside0.mk (blk_below HBy.out hb_)
  have BLz := Aside0.mk (below_step BLy.out hb_)
  clear hb_
  refine hK.out _ _ ⟨(blk_cell HBz.out 0).trans rfl, (blk_cell HBz.out 1).trans rfl, (blk_cell HBz.out 2).trans rfl⟩ (fun hHeld => ?_)
  clear hK K
  refine norm_ (a' := ?_) ?_ ?_
  rotate_left
  · show Act.put _ (some 42) _ = _
    simp only [Act.put, List.setIfInBounds_toArray, List.set_cons_zero, List.set_cons_succ, i64_w, i32_w]
    rfl
  refine pure_ (i := 5) (N := some 9) (v := ?_) (a' := ?_) #[true, true, true, true, true, true] rfl rfl (by kernel_rfl) (fun _ _ _ h => h) (Or.inl ⟨by rfl, ?_⟩) ?_ ?_
  rotate_left
  · intro w'
    go_simp
    with_reducible rfl
  rotate_left
  · simp only [Act.put, List.setIfInBounds_toArray, List.set_cons_zero, List.set_cons_succ, i64_w, i32_w]
    rfl
  refine done_ (by kernel_rfl) ?_
  
  clear HBx BLx HBy BLy hHeld
  go_upto_region 6 with fail
  obtain ⟨ad, X1, c1, X4, c4, X14, c14, X15, c15, rfl, hcells, m1, g1, m4, g4, m14, g14, m15, g15⟩ := pw_row36 (Kd.C_below R2.out BLz.out) (l2.length - 1) (by omega)
  have hci : l2.getD (l2.length - 1) z36 = c := by rw [XC.out]; simp [List.getD_eq_getElem?_getD]
  rw [hci] at hcells m1 g1 m4 g4 m14 g14 m15 g15
  clear hci
  obtain ⟨m, hm⟩ : ∃ m, m = l2.length - 1 := ⟨_, rfl⟩
  have hmi : (l2.length : Int) - 1 = (m : Int) := by omega
  have hml : (m : Int) < (l2.length : Int) := by omega
  have hm0 : (0 : Int) ≤ (m : Int) := by omega
  rw [← hm] at hcells
  have HMI := Aside0.mk hmi
  have hwm : IntKind.i64.wrap ((l2.length : Int) - 1) = (m : Int) := by rw [hmi]; exact B.wrap_i64 (by omega) (by omega)
  clear hm hmi
  have HL := Aside0.mk (And.intro m1 (And.intro m4 (And.intro m14 m15)))
  have GG1 := Aside0.mk g1
  have GG4 := Aside0.mk g4
  have GG14 := Aside0.mk g14
  have GG15 := Aside0.mk g15
  clear m1 m4 m14 m15 g1 g4 g14 g15
  obtain ⟨cs, hcs⟩ : ∃ x : Array Value, x = #[Value.string c.f0.f0, .slice X1 c.f0.f1.length c1, .int .i32 c.f0.f2, .string c.f1.f0, .slice X4 c.f1.f1.length c4, .int .i32 c.f1.f2, .int .i32 c.f2, .string c.f3, .int .i64 c.f4, .int .i64 c.f5, .int .i64 c.f6, .int .i64 c.f7, .bool c.f8, .int .u32 c.f9, .slice X14 c.f10.length c14, .slice X15 c.f11.length c15, .string c.f12, .string c.f13] := ⟨_, rfl⟩
  have HC2 := Aside0.mk (show (∀ i u, cs.toList[i]? = some u → wz.cell? ((ad.add (m * 18)).add i) = some u) ∧ cs.toList.length = 18 from by subst hcs; exact ⟨hcells, rfl⟩)
  have HCS := Aside0.mk hcs
  clear hcs hcells
  have OKc := Aside0.mk (OKC.out c (by rw [XC.out]; simp))
  obtain ⟨last, hla⟩ : ∃ s, s = strOfNums (P.eCred v c) := ⟨_, rfl⟩
  have LF := Aside0.mk (show spec_CredBytes.f 30 c.f0.f0 c.f0.f1 c.f0.f2 c.f1.f0 c.f1.f1 c.f1.f2 c.f2 c.f3 c.f4 c.f5 c.f6 c.f7 c.f8 c.f9 c.f10 c.f11 c.f12 c.f13 (v : Int) = some last from by rw [hla]; exact P.cred_str OKc.out v (by omega))
  have HLA := Aside0.mk hla
  clear hla
  obtain ⟨wx, hwwx⟩ : ∃ x, x = wz.drew := ⟨_, rfl⟩
  have hbd : Below wz.heap.size wz wx := hwwx ▸ below_drew (Below.refl _ _)
  have HBx := Aside0.mk (blk_below HBz.out hbd)
  have BLx := Aside0.mk (below_step BLz.out hbd)
  have HWX := Aside0.mk hwwx
  clear HBz BLz hbd hwwx
  have HC3 := Aside0.mk (show ∀ i u, cs.toList[i]? = some u → wx.cell? ((ad.add (m * 18)).add i) = some u from fun i u hu => by have := HC2.out.1 i u hu; rw [HWX.out]; exact this)
  have BZx := Aside0.mk (show Below wz.heap.size wz wx from by rw [HWX.out]; exact below_drew (Below.refl _ _))
  refine start_ (n := 11) (S := fun w' => ∀ i u, cs.toList[i]? = some u → w'.cell? ((ad.add (m * 18)).add i) = some u) (ds := []) #[false, false, false, false, false, false, false, false, false, false, false] (by kernel_rfl) rfl rfl ((HWX.out ▸ (show _ from HC3.out))) (fun hHeld => ?_)
  rw [← HWX.out] at hHeld ⊢
  clear HWX
  refine pure_ (i := 0) (N := some 43) (v := ?_) (a' := ?_) #[true, false, false, false, false, false, false, false, false, false, false] rfl rfl (by kernel_rfl) (fun _ _ _ h => h) (Or.inl ⟨by rfl, ?_⟩) ?_ ?_
  rotate_left
  · intro w'
    go_simp
    with_reducible rfl
  rotate_left
  · simp only [Act.put, List.setIfInBounds_toArray, List.set_cons_zero, List.set_cons_succ, i64_w, i32_w]
    rfl
  refine pure_ (i := 1) (N := some 44) (v := ?_) (a' := ?_) #[true, true, false, false, false, false, false, false, false, false, false] rfl rfl (by kernel_rfl) (fun _ _ _ h => h) (Or.inl ⟨by rfl, ?_⟩) ?_ ?_
  rotate_left
  · intro w'
    go_simp
    with_reducible rfl
  rotate_left
  · simp only [Act.put, List.setIfInBounds_toArray, List.set_cons_zero, List.set_cons_succ, i64_w, i32_w]
    rfl
  refine pure_ (i := 2) (N := some 45) (v := ?_) (a' := ?_) #[true, true, true, false, false, false, false, false, false, false, false] rfl rfl (by kernel_rfl) (fun _ _ _ h => h) (Or.inl ⟨by rfl, ?_⟩) ?_ ?_
  rotate_left
  · intro w'
    go_simp
    with_reducible rfl
  rotate_left
  · simp only [Act.put, List.setIfInBounds_toArray, List.set_cons_zero, List.set_cons_succ, i64_w, i32_w]
    rfl
  refine pure_ (i := 3) (N := some 46) (v := ?_) (a' := ?_) #[true, true, true, true, false, false, false, false, false, false, false] rfl rfl (by kernel_rfl) (fun _ _ _ h => h) (Or.inl ⟨by rfl, ?_⟩) ?_ ?_
  rotate_left
  · intro w'
    go_simp
    with_reducible rfl
  rotate_left
  · simp only [Act.put, List.setIfInBounds_toArray, List.set_cons_zero, List.set_cons_succ, i64_w, i32_w]
    rfl
  refine pure_ (i := 4) (N := some 47) (v := ?_) (a' := ?_) #[true, true, true, true, true, false, false, false, false, false, false] rfl rfl (by kernel_rfl) (fun _ _ _ h => h) (Or.inl ⟨by rfl, ?_⟩) ?_ ?_
  rotate_left
  · intro w'
    go_simp
    with_reducible rfl
  rotate_left
  · simp only [Act.put, List.setIfInBounds_toArray, List.set_cons_zero, List.set_cons_succ, i64_w, i32_w]
    rfl
  refine pure_ (i := 6) (N := some 49) (v := ?_) (a' := ?_) #[true, true, true, true, true, false, true, false, false, false, false] rfl rfl (by kernel_rfl) (fun _ _ _ h => h) (Or.inl ⟨by rfl, ?_⟩) ?_ ?_
  rotate_left
  · intro w'
    go_simp
    with_reducible rfl
  rotate_left
  · simp only [Act.put, List.setIfInBounds_toArray, List.set_cons_zero, List.set_cons_succ, i64_w, i32_w]
    rfl
  refine take_ (i := 5) (N := some 48) (v := ?_) (a' := ?_) #[true, true, true, true, true, true, true, false, false, false, false] rfl rfl (by kernel_rfl) (fun _ _ _ h => h) (Or.inl ⟨by rfl, ?_⟩) hHeld ?_ ?_
  rotate_left
  · intro w' s0
    refine B.load_array_run 36 (.tmp 47) (ad.add (m * 18)) cs _ ?ho ?hx s0 ?hq Try.underlying36 ?hi; (case ho => rfl); (case hx => rfl); (case hq => rfl); (case hi => exact pw_size36.trans (congrArg some (by have := HC2.out.2; rwa [Array.length_toList] at this)).symm)
  rotate_left
  · simp only [Act.put, List.setIfInBounds_toArray, List.set_cons_zero, List.set_cons_succ, i64_w, i32_w]
    rfl
  refine one_ (i := 7) (N := some 50) #[true, true, true, true, true, true, true, true, false, false, false] rfl rfl (by kernel_rfl) (by decide) (fun K hK => ?_)
  refine goes_ Try.func13 (by kernel_rfl) rfl #[.int .u8 a0] (by rfl) rfl rfl (by simp only [List.map_toArray, List.map_cons, List.map_nil]; rfl) ?_
  with_reducible refine (laws_ccVersion.calls a0 (v : Int) _ HVF.out).mono ?_
  rintro e wy ⟨rfl, hdr_⟩
  refine ⟨_, rfl, ?_⟩
  have hb_ := hdr_.below
  have BXy := Aside0.mk hb_
  have BLy := Aside0.mk (below_step BLx.out hb_)
  clear hb_ hdr_
  refine hK.out _ _ ((fun i u hu => pw_cell_below BXy.out (HC3.out i u hu))) (fun hHeld => ?_)
  clear hK K
  refine norm_ (a' := ?_) ?_ ?_
  rotate_left
  · show Act.put _ (some 50) _ = _
    simp only [Act.put, List.setIfInBounds_toArray, List.set_cons_zero, List.set_cons_succ, i64_w, i32_w]
    rfl
  refine one_ (i := 8) (N := some 51) #[true, true, true, true, true, true, true, true, true, false, false] rfl rfl (by kernel_rfl) (by decide) (fun K hK => ?_)
  have hcall := spec_CredBytes.calls 30 c.f0.f0 X1 c1 c.f0.f1 c.f0.f2 c.f1.f0 X4 c4 c.f1.f1 c.f1.f2 c.f2 c.f3 c.f4 c.f5 c.f6 c.f7 c.f8 c.f9 X14 c14 c.f10 X15 c15 c.f11 c.f12 c.f13 (v : Int) last wy (Kd.C_below (Kd.C_below GG1.out BZx.out) BXy.out) HL.out.1 (Kd.C_below (Kd.C_below GG4.out BZx.out) BXy.out) HL.out.2.1 (Kd.C_below (Kd.C_below GG14.out BZx.out) BXy.out) HL.out.2.2.1 (Kd.C_below (Kd.C_below GG15.out BZx.out) BXy.out) HL.out.2.2.2 LF.out
  rw [← HCS.out] at hcall
  refine goes_ Try.func14 (by kernel_rfl) rfl #[.agg cs, .int .u8 (v : Int)] (by rfl) rfl rfl (by simp only [List.map_toArray, List.map_cons, List.map_nil]; rfl) ?_
  with_reducible refine (hcall).mono ?_
  rintro e wq ⟨rfl, hb_⟩
  refine ⟨_, rfl, ?_⟩
  clear hcall
  have BXq := Aside0.mk (below_step BXy.out hb_)
  have BLq := Aside0.mk (below_step BLy.out hb_)
  clear hb_
  refine hK.out _ _ ((fun i u hu => pw_cell_below BXq.out (HC3.out i u hu))) (fun hHeld => ?_)
  clear hK K
  refine norm_ (a' := ?_) ?_ ?_
  rotate_left
  · show Act.put _ (some 51) _ = _
    simp only [Act.put, List.setIfInBounds_toArray, List.set_cons_zero, List.set_cons_succ, i64_w, i32_w]
    rfl
  refine pure_ (i := 9) (N := some 52) (v := ?_) (a' := ?_) #[true, true, true, true, true, true, true, true, true, true, false] rfl rfl (by kernel_rfl) (fun _ _ _ h => h) (Or.inl ⟨by rfl, ?_⟩) ?_ ?_
  rotate_left
  · intro w'
    go_simp
    with_reducible rfl
  rotate_left
  · simp only [Act.put, List.setIfInBounds_toArray, List.set_cons_zero, List.set_cons_succ, i64_w, i32_w]
    rfl
  refine pure_ (i := 10) (N := some 10) (v := ?_) (a' := ?_) #[true, true, true, true, true, true, true, true, true, true, true] rfl rfl (by kernel_rfl) (fun _ _ _ h => h) (Or.inl ⟨by rfl, ?_⟩) ?_ ?_
  rotate_left
  · intro w'
    go_simp
    with_reducible rfl
  rotate_left
  · simp only [Act.put, List.setIfInBounds_toArray, List.set_cons_zero, List.set_cons_succ, i64_w, i32_w]
    rfl
  refine done_ (by kernel_rfl) ?_
  
  clear hHeld BXy BLy HC3 BZx BLx GG1 GG4 GG14 GG15 hwm HCS HC2 HL
  obtain ⟨s0, hs0⟩ : ∃ n, n = last.size := ⟨_, rfl⟩
  obtain ⟨d0, hd0⟩ : ∃ n, n = data.size := ⟨_, rfl⟩
  have z1 : s0 = (P.eCred v c).length := by rw [hs0, HLA.out, P.str_size]
  have z2 : d0 = (P.eCache v [] ⟨a1_0, l1_1, a1_2⟩ l2).length := by rw [hd0, HDA.out, P.str_size]
  have z3 : 5 ≤ s0 ∧ s0 ≤ 8000 := by rw [z1]; exact ⟨P.eCred_pos v c, P.eCred_le OKc.out⟩
  have z4 : d0 ≤ 1000000 := by rw [z2]; exact P.cache_le (by simp) OKN.out OKC.out hz1
  have z5 : s0 ≤ d0 := by rw [z1, z2, XC.out]; unfold P.eCache; simp; omega
  have z6 : 0 ≤ a3 ∧ a3 < 65536 := by have h := G3.out; simp [Lit.wf, IntKind.min, IntKind.max, IntKind.bits, IntKind.signed] at h; omega
  obtain ⟨n, hn⟩ : ∃ n : Nat, (d0 : Int) - 1 - a3 % ((s0 : Int) - 1) = (n : Int) := ⟨((d0 : Int) - 1 - a3 % ((s0 : Int) - 1)).toNat, by have := Int.emod_lt_of_pos a3 (show 0 < (s0 : Int) - 1 by omega); omega⟩
  have z7 : d0 < n + s0 ∧ n < d0 := by have := Int.emod_lt_of_pos a3 (show 0 < (s0 : Int) - 1 by omega); have := Int.emod_nonneg a3 (show (s0 : Int) - 1 ≠ 0 by omega); omega
  have RD := Aside0.mk (show impl_CacheRead.f (data.extract 0 n) = some (0, ⟨#[]⟩, [], 0, [], false) from by have hh := XC.out; rw [HDA.out]; subst hh; exact P.cut_read HV.out OKN.out (fun d hd => OKC.out d (by simp [hd])) OKc.out hz1 (by rw [← z1, ← z2]; exact z7.1) (by rw [← z2]; exact z7.2))
  have hd1 : data.size = d0 := hd0.symm
  have hs1 : last.size = s0 := hs0.symm
  clear z1 z2 hd0 hs0
  have e1 : 5 ≤ (s0 : Int) := by omega
  have e2 : (s0 : Int) ≤ 8000 := by omega
  have e3 : 5 ≤ (d0 : Int) := by omega
  have e4 : (d0 : Int) ≤ 1000000 := by omega
  have e5 : 0 ≤ a3 := by omega
  have e6 : a3 ≤ 65535 := by omega
  have HN := Aside0.mk hn
  have e7 : (n : Int) ≤ (d0 : Int) := by omega
  have e8 : n ≤ data.size := by omega
  clear z3 z4 z5 z6 z7 hn
  rw [hs1]
  go_upto_region 8 with fail
  have hwn : wrap64 ((d0 : Int) - 1 - a3 % ((s0 : Int) - 1)) = (n : Int) := by rw [HN.out]; unfold wrap64; omega
  rw [hwn]
  clear hwn e1 e2 e3 e5 e6
  have hdi : (d0 : Int) = ((data.size : Nat) : Int) := by rw [hd1]
  have e9 : (n : Int) ≤ ((data.size : Nat) : Int) := by omega
  have HD1 := Aside0.mk hd1
  clear hd1 hs1 hdi e7
  go_wp2_with fail
  refine (impl_CacheRead.calls (data.extract 0 n) 0 ⟨#[]⟩ [] 0 [] false _ RD.out).mono ?_
  rintro e wr ⟨v1, v3, rfl, hv1, hv3, hb⟩
  obtain ⟨AX, cX, rfl, _, _⟩ := Kd.R_reads hv1
  clear hv1 hv3
  have BLr := Aside0.mk (below_step BLq.out hb)
  clear hb BLq
  go_wp2_with fail
  refine (laws_ccAwake.any _).mono ?_
  rintro e wz2 ⟨rfl, hb⟩
  have BZ := Aside0.mk (below_step (below_alloc BLr.out _) hb)
  clear hb
  go_wp2
  go_ret
  exact ⟨rfl, BZ.out⟩

end Go.Proofs.Ytnipcocllhfaoaa.A

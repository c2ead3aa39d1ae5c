/- Go functions of this seat come to the answers of the Lean functions that stand here ('.calls'), under what each theorem states and nothing else. Written by pw.py, a program of this session, with texts of its own. -/
import Derived.Test.YtnipcocllhfaoaaA0
import Derived.Test.YtnipcocllhfaoaaA1
import Derived.Test.YtnipcocllhfaoaaA2
import Derived.Test.YtnipcocllhfaoaaA3
import Derived.Test.YtnipcocllhfaoaaA6
import Derived.Test.YtnipcocllhfaoaaA7
import Derived.Test.YtnipcocllhfaoaaA8
import Derived.Test.YtnipcocllhfaoaaA9
import Derived.Test.YtnipcocllhfaoaaA10
import Derived.Test.YtnipcocllhfaoaaP3
namespace Go.Proofs.Ytnipcocllhfaoaa.A
open Go.RowKit Go.Proofs.YtnipcocllhfaoaaW.PrintWords Go.Proofs.YtnipcocllhfaoaaW.PrintLast Go.Proofs.YtnipcocllhfaoaaW.PrintMore
attribute [local go_sem] max2_int min2_int max_two min_two max_three min_three max_four min_four   -- for this text's walks alone
set_option linter.unusedVariables false
set_option linter.unusedSimpArgs false
set_option maxRecDepth 100000

/-! ### laws_FnCcHeader: function 4 -/
-- EXT rounds=0 making=1
-- NEEDS 7 8 9 10 11 12 15 16 17 18
set_option maxHeartbeats 16000000 in
theorem laws_FnCcHeader.walk (A0 : Option Addr) (c0 : Nat) (l0 : List Int) (A1 : Option Addr) (c1 : Nat) (l1 : List Int) (a2_0 : ByteArray) (A2_1 : Option Addr) (c2_1 : Nat) (l2_1 : List ByteArray) (a2_2 : Int) (A3 : Option Addr) (c3 : Nat) (l3 : List (S36)) (w : World) (hr0 : Kd.C (Kd.int .u64) w A0 l0.length l0) (hc0 : l0.length ≤ c0) (hr1 : Kd.C (Kd.int .u64) w A1 l1.length l1) (hc1 : l1.length ≤ c1) (hr2_1 : Kd.C Kd.string w A2_1 l2_1.length l2_1) (hc2_1 : l2_1.length ≤ c2_1) (hr3 : Kd.C k36 w A3 l3.length l3) (hc3 : l3.length ≤ c3) (g0 : l0.length ≤ 9223372036854775807 ∧ ∀ y0_ : Int, y0_ ∈ l0 → (Lit.int .u64 y0_).wf = true) (g1 : l1.length ≤ 9223372036854775807 ∧ ∀ y0_ : Int, y0_ ∈ l1 → (Lit.int .u64 y0_).wf = true) (g2_0 : a2_0.size ≤ maxLen) (g2_1 : l2_1.length ≤ 9223372036854775807 ∧ ∀ y0_ : ByteArray, y0_ ∈ l2_1 → y0_.size ≤ maxLen) (g2_2 : (Lit.int .i32 a2_2).wf = true) (g3 : l3.length ≤ 9223372036854775807 ∧ ∀ y0_ : S36, y0_ ∈ l3 → ((y0_.f0.f0.size ≤ maxLen) ∧ (y0_.f0.f1.length ≤ 9223372036854775807 ∧ ∀ y1_ : ByteArray, y1_ ∈ y0_.f0.f1 → y1_.size ≤ maxLen) ∧ ((Lit.int .i32 y0_.f0.f2).wf = true)) ∧ ((y0_.f1.f0.size ≤ maxLen) ∧ (y0_.f1.f1.length ≤ 9223372036854775807 ∧ ∀ y1_ : ByteArray, y1_ ∈ y0_.f1.f1 → y1_.size ≤ maxLen) ∧ ((Lit.int .i32 y0_.f1.f2).wf = true)) ∧ ((Lit.int .i32 y0_.f2).wf = true) ∧ (y0_.f3.size ≤ maxLen) ∧ ((Lit.int .i64 y0_.f4).wf = true) ∧ ((Lit.int .i64 y0_.f5).wf = true) ∧ ((Lit.int .i64 y0_.f6).wf = true) ∧ ((Lit.int .i64 y0_.f7).wf = true) ∧ ((Lit.int .u32 y0_.f9).wf = true) ∧ (y0_.f10.length ≤ 9223372036854775807 ∧ ∀ y1_ : S63, y1_ ∈ y0_.f10 → ((Lit.int .i32 y1_.f0).wf = true) ∧ (y1_.f1.size ≤ maxLen)) ∧ (y0_.f11.length ≤ 9223372036854775807 ∧ ∀ y1_ : S63, y1_ ∈ y0_.f11 → ((Lit.int .i32 y1_.f0).wf = true) ∧ (y1_.f1.size ≤ maxLen)) ∧ (y0_.f12.size ≤ maxLen) ∧ (y0_.f13.size ≤ maxLen)) :
    Calls Try.prog 4 #[.slice A0 l0.length c0, .slice A1 l1.length c1, .agg #[.string a2_0, .slice A2_1 l2_1.length c2_1, .int .i32 a2_2], .slice A3 l3.length c3] w fun e w' => e = .returned (.bool true) ∧ Below w.heap.size w w' := by
  have R0 := Aside0.mk hr0
  have R1 := Aside0.mk hr1
  have R2 := Aside0.mk hr2_1
  have C2 := Aside0.mk hc2_1
  have R3 := Aside0.mk hr3
  have C3 := Aside0.mk hc3
  have C0 := Aside0.mk hc0
  have C1 := Aside0.mk hc1
  have G22 := Aside0.mk g2_2
  have G3 := Aside0.mk g3
  have G0 := Aside0.mk g0
  have G1 := Aside0.mk g1
  clear hr0 hr1 hr2_1 hc2_1 hr3 hc3 hc0 hc1 g2_2 g3 g0 g1 g2_0 g2_1
  have hu24 := Try.underlying24
  have hu37 := Try.underlying37
  have hsz24 : (Try.prog.info? 24).map (·.size) = some 3 := by kernel_rfl
  have HS24 := Aside0.mk hsz24
  clear hsz24
  have hsz37 : (Try.prog.info? 37).map (·.size) = some 3 := by kernel_rfl
  have HS37 := Aside0.mk hsz37
  clear hsz37
  obtain ⟨b1, K1, hb1⟩ := P.fits13 a2_0 l2_1 a2_2
  obtain ⟨b2, K2, hb2⟩ := P.fits14 l3
  have E1 := Aside0.mk (hb1 K1 (Nat.le_refl _))
  have E2 := Aside0.mk (hb2 K2 (Nat.le_refl _))
  clear hb1 hb2
  go_enter Try.func4, Try.ntmps4
  go_upto_region 1 with (first | ((with_reducible refine gate_dst (N := 6) rfl ?_); refine box_event ?hg (N := 6) ?hd (cs := #[.string a2_0, .slice A2_1 l2_1.length c2_1, .int .i32 a2_2]) (t := 24) ?hr ?_; (case hd => rfl); (case hg => rfl); (case hr => first | (go_simp; done) | (go_simp; rfl)); intro gb hgb w1 hbox hb; have HB1 := Aside0.mk hbox; have BL1 := Aside0.mk hb; clear hbox hb hgb) | fail)
  by_cases z0 : (l0.length : Int) > 2147483647
  case pos =>
    have za : decide (2147483647 < (l0.length : Int)) = true := decide_eq_true z0
    have zb : decide (2147483647 < l0.length) = true := decide_eq_true (by omega)
    clear z0
    go_wp2
    go_ret
    exact ⟨rfl, BL1.out⟩
  have z0a : decide (2147483647 < (l0.length : Int)) = false := decide_eq_false z0
  have z0b : decide (2147483647 < l0.length) = false := decide_eq_false (by omega)
  clear z0
  by_cases z1 : (l1.length : Int) > 2147483647
  case pos =>
    have za : decide (2147483647 < (l1.length : Int)) = true := decide_eq_true z1
    have zb : decide (2147483647 < l1.length) = true := decide_eq_true (by omega)
    clear z1
    go_wp2
    go_ret
    exact ⟨rfl, BL1.out⟩
  have z1a : decide (2147483647 < (l1.length : Int)) = false := decide_eq_false z1
  have z1b : decide (2147483647 < l1.length) = false := decide_eq_false (by omega)
  clear z1
  go_wp2_with (first | ((with_reducible refine gate_dst (N := 27) rfl ?_); (try (refine gate_guard (by rfl) ?_; dsimp only)); refine B.row_event ?hg (N := 27) ?hd 24 (.tmp 6) gb 24 #[.string a2_0, .slice A2_1 l2_1.length c2_1, .int .i32 a2_2] _ ?ho ?hx HB1.out Try.underlying24 ?hq ?hi ?_; (case hg => rfl); (case hd => rfl); (case ho => rfl); (case hx => first | rfl | (go_simp; done)); (case hq => rfl); (case hi => exact HS24.out)) | fail)
  refine (laws_zzFits13.calls K1 a2_0 _ _ l2_1 a2_2 b1 _ (Kd.C_below R2.out BL1.out) C2.out E1.out).mono ?_
  rintro e w2 ⟨rfl, hb⟩
  have HB2 := Aside0.mk (blk_below HB1.out hb)
  have BL2 := Aside0.mk (below_step BL1.out hb)
  clear hb HB1 BL1
  cases b1 with
  | false =>
    go_wp2
    go_ret
    exact ⟨rfl, BL2.out⟩
  | true =>
  go_wp2_with fail
  refine (laws_zzFits14.calls K2 _ _ l3 b2 _ (Kd.C_below R3.out BL2.out) C3.out E2.out).mono ?_
  rintro e w3 ⟨rfl, hb⟩
  have HB3 := Aside0.mk (blk_below HB2.out hb)
  have BL3 := Aside0.mk (below_step BL2.out hb)
  clear hb HB2 BL2
  cases b2 with
  | false =>
    go_wp2
    go_ret
    exact ⟨rfl, BL3.out⟩
  | true =>
  clear E1 E2 z0a z0b z1a z1b
  go_wp2_with (first | ((with_reducible refine gate_dst (N := 36) rfl ?_); (try (refine gate_guard (by rfl) ?_; dsimp only)); refine B.row_event ?hg (N := 36) ?hd 24 (.tmp 6) gb 24 #[.string a2_0, .slice A2_1 l2_1.length c2_1, .int .i32 a2_2] _ ?ho ?hx HB3.out Try.underlying24 ?hq ?hi ?_; (case hg => rfl); (case hd => rfl); (case ho => rfl); (case hx => first | rfl | (go_simp; done)); (case hq => rfl); (case hi => exact HS24.out)) | fail)
  obtain ⟨b3, hb3⟩ : ∃ b, spec_CredsRight.name ⟨a2_0, l2_1, a2_2⟩ = b := ⟨_, rfl⟩
  have n3 := spec_CredsRight.name_any ⟨a2_0, l2_1, a2_2⟩ A2_1 c2_1 w3 (Kd.C_below R2.out BL3.out) C2.out
  rw [hb3] at n3
  have E3 := Aside0.mk hb3
  clear hb3
  refine n3.mono ?_
  clear n3
  rintro e w4 ⟨rfl, hb⟩
  have HB4 := Aside0.mk (blk_below HB3.out hb)
  have BL4 := Aside0.mk (below_step BL3.out hb)
  clear hb HB3 BL3
  cases b3 with
  | false =>
    go_wp2_with fail
    refine (laws_ccAwake.any _).mono ?_
    rintro e wz ⟨rfl, hb⟩
    have BZ := Aside0.mk (below_step BL4.out hb)
    clear hb
    go_wp2
    go_ret
    exact ⟨rfl, BZ.out⟩
  | true =>
  obtain ⟨b4, hb4⟩ : ∃ b, (decide (l3.length ≤ 12) && l3.all spec_CredsRight.cred) = b := ⟨_, rfl⟩
  have hf4 : spec_CredsRight.f l3 = some b4 := congrArg some hb4
  have E4 := Aside0.mk hb4
  have F4 := Aside0.mk hf4
  clear hb4 hf4
  go_wp2_with fail
  refine (spec_CredsRight.calls _ _ l3 b4 _ (Kd.C_below R3.out BL4.out) C3.out F4.out).mono ?_
  rintro e w5 ⟨rfl, hb⟩
  have HB5 := Aside0.mk (blk_below HB4.out hb)
  have BL5 := Aside0.mk (below_step BL4.out hb)
  clear hb HB4 BL4
  cases b4 with
  | false =>
    go_wp2_with fail
    refine (laws_ccAwake.any _).mono ?_
    rintro e wz ⟨rfl, hb⟩
    have BZ := Aside0.mk (below_step BL5.out hb)
    clear hb
    go_wp2
    go_ret
    exact ⟨rfl, BZ.out⟩
  | true =>
  by_cases z0 : l0.length ≤ 3
  case neg =>
    have za : decide (3 < (l0.length : Int)) = true := decide_eq_true (by omega)
    have zb : decide (3 < l0.length) = true := decide_eq_true (by omega)
    clear z0
    go_wp2_with fail
    refine (laws_ccAwake.any _).mono ?_
    rintro e wz ⟨rfl, hb⟩
    have BZ := Aside0.mk (below_step BL5.out hb)
    clear hb
    go_wp2
    go_ret
    exact ⟨rfl, BZ.out⟩
  have z0a : decide (3 < (l0.length : Int)) = false := decide_eq_false (by omega)
  have z0b : decide (3 < l0.length) = false := decide_eq_false (by omega)
  by_cases z1 : l1.length ≤ 3
  case neg =>
    have za : decide (3 < (l1.length : Int)) = true := decide_eq_true (by omega)
    have zb : decide (3 < l1.length) = true := decide_eq_true (by omega)
    clear z1
    go_wp2_with fail
    refine (laws_ccAwake.any _).mono ?_
    rintro e wz ⟨rfl, hb⟩
    have BZ := Aside0.mk (below_step BL5.out hb)
    clear hb
    go_wp2
    go_ret
    exact ⟨rfl, BZ.out⟩
  have z1a : decide (3 < (l1.length : Int)) = false := decide_eq_false (by omega)
  have z1b : decide (3 < l1.length) = false := decide_eq_false (by omega)
  have hall : l3.length ≤ 12 ∧ ∀ c ∈ l3, spec_CredsRight.cred c = true := by have := E4.out; simpa using this
  have OKN := Aside0.mk (P.name_ok E3.out G22.out)
  have OKC := Aside0.mk (show ∀ d ∈ l3, P.OkCred d from fun d hd => P.cred_ok (hall.2 d hd) (G3.out.2 d hd).1.2.2 (G3.out.2 d hd).2.1.2.2 (G3.out.2 d hd).2.2.2.2.2.2.2.2.1)
  have HN := Aside0.mk (And.intro z0 (And.intro z1 hall.1))
  clear hall z0 z1 E4 E3 F4
  obtain ⟨d0, hd0⟩ : ∃ s, s = strOfNums (P.eCache 4 l0 ⟨a2_0, l2_1, a2_2⟩ l3) := ⟨_, rfl⟩
  have CF0 := Aside0.mk (show spec_CacheBytes.f 30 4 l0 a2_0 l2_1 a2_2 l3 = some d0 from by rw [hd0]; exact P.cache_str (v := 4) (Or.inr rfl) (offs := l0) (P.u64s_ok G0.out.2) (by have := HN.out; omega) OKN.out OKC.out HN.out.2.2 (by omega))
  have RF0 := Aside0.mk (show impl_CacheRead.f d0 = some (4, a2_0, l2_1, a2_2, l3.map (fun c => B.toCred (P.cred c)), true) from by rw [hd0]; exact P.read_full (v := 4) (Or.inr rfl) (offs := l0) (by have := HN.out; omega) OKN.out OKC.out HN.out.2.2)
  clear hd0
  obtain ⟨d1, hd1⟩ : ∃ s, s = strOfNums (P.eCache 4 l1 ⟨a2_0, l2_1, a2_2⟩ l3) := ⟨_, rfl⟩
  have CF1 := Aside0.mk (show spec_CacheBytes.f 30 4 l1 a2_0 l2_1 a2_2 l3 = some d1 from by rw [hd1]; exact P.cache_str (v := 4) (Or.inr rfl) (offs := l1) (P.u64s_ok G1.out.2) (by have := HN.out; omega) OKN.out OKC.out HN.out.2.2 (by omega))
  have RF1 := Aside0.mk (show impl_CacheRead.f d1 = some (4, a2_0, l2_1, a2_2, l3.map (fun c => B.toCred (P.cred c)), true) from by rw [hd1]; exact P.read_full (v := 4) (Or.inr rfl) (offs := l1) (by have := HN.out; omega) OKN.out OKC.out HN.out.2.2)
  clear hd1
  obtain ⟨xs, hxs⟩ : ∃ z, z = l3.map (fun c => B.toCred (P.cred c)) := ⟨_, rfl⟩
  have HXL := Aside0.mk (show ∀ x ∈ xs, x.f10.length ≤ 1000000 ∧ x.f11.length ≤ 1000000 from by rw [hxs]; exact P.small_parts OKC.out)
  have HX12 := Aside0.mk (show xs.length ≤ 12 from by rw [hxs, List.length_map]; exact HN.out.2.2)
  have rf := RF0.out
  rw [← hxs] at rf
  clear RF0
  have RF0 := Aside0.mk rf
  clear rf
  have rf := RF1.out
  rw [← hxs] at rf
  clear RF1
  have RF1 := Aside0.mk rf
  clear rf
  clear hxs HN OKN OKC G0 G1 G22 G3
  go_wp2_with (first | ((with_reducible refine gate_dst (N := 57) rfl ?_); (try (refine gate_guard (by rfl) ?_; dsimp only)); refine B.row_event ?hg (N := 57) ?hd 24 (.tmp 6) gb 24 #[.string a2_0, .slice A2_1 l2_1.length c2_1, .int .i32 a2_2] _ ?ho ?hx HB5.out Try.underlying24 ?hq ?hi ?_; (case hg => rfl); (case hd => rfl); (case ho => rfl); (case hx => first | rfl | (go_simp; done)); (case hq => rfl); (case hi => exact HS24.out)) | fail)
  refine (spec_CacheBytes.calls 30 4 _ _ l0 a2_0 _ _ l2_1 a2_2 _ _ l3 d0 _ (Kd.C_below R0.out BL5.out) C0.out (Kd.C_below R2.out BL5.out) C2.out (Kd.C_below R3.out BL5.out) C3.out CF0.out).mono ?_
  rintro e w6 ⟨rfl, hb⟩
  have HB6 := Aside0.mk (blk_below HB5.out hb)
  have BL6 := Aside0.mk (below_step BL5.out hb)
  clear hb HB5 BL5
  go_wp2_with fail
  refine (impl_CacheRead.calls d0 4 a2_0 l2_1 a2_2 xs true _ RF0.out).mono ?_
  rintro e w7 ⟨v1, v3, rfl, hv1, hv3, hb⟩
  obtain ⟨AX0, cX0, rfl, hlx0, hcx0⟩ := Kd.R_reads hv1
  obtain ⟨AY0, cY0, rfl, hly0, hcy0⟩ := Kd.R_reads hv3
  have HB7 := Aside0.mk (blk_below HB6.out hb)
  have BL7 := Aside0.mk (below_step BL6.out hb)
  clear hb HB6 BL6
  have CX0_7 := Aside0.mk hcx0
  have CY0_7 := Aside0.mk hcy0
  clear hv1 hv3 hlx0 hcx0 hly0 hcy0
  go_upto_region 6 with (first
    | ((with_reducible refine gate_dst (N := 10) rfl ?_); refine box_event ?hg (N := 10) ?hd (cs := #[.string ⟨#[]⟩, .slice none 0 0, .int .i32 0]) (t := 37) ?hr ?_; (case hd => rfl); (case hg => rfl); (case hr => first | (go_simp; done) | (go_simp; rfl)); intro ga hgb w8 hbox hb; have HZ := Aside0.mk hbox; have HB8 := Aside0.mk (blk_below HB7.out hb); have BL8 := Aside0.mk (below_step BL7.out hb); have BO := Aside0.mk hb; have HGZ := Aside0.mk (show w7.heap.size ≤ ga ∧ w.heap.size ≤ ga from ⟨by rw [hgb]; exact Nat.le_refl _, by rw [hgb]; exact BL7.out.size⟩); clear hbox hb hgb)
    | ((with_reducible refine gate_store (t := 37) (p := 10) (v := .tmp 62) rfl ?_); refine B.store_event ?hg 37 (.tmp 10) (.tmp 62) ?ho ga #[.string a2_0, .slice AX0 l2_1.length cX0, .int .i32 a2_2] ?hx ?hy 37 _ HZ.out ?hi ?hl (by simp [Value.oneCell']) ?_; (case hg => rfl); (case ho => rfl); (case hx => first | rfl | (go_simp; done)); (case hy => first | rfl | (go_simp; done)); (case hi => exact HS37.out); (case hl => rfl); intro w9 hb2 hbl2 hsz2 hot2; have hb := hbl2 w7 BO.out HGZ.out.1; have HP0_9 := Aside0.mk hb2; have HB9 := Aside0.mk (blk_below HB7.out hb); have BL9 := Aside0.mk (below_step BL7.out hb); have CX0_9 := Aside0.mk (Kd.C_below CX0_7.out hb); have CY0_9 := Aside0.mk (Kd.C_below CY0_7.out hb); clear hb hb2 hbl2 hsz2 hot2)
    | fail)
  clear HZ HB7 HB8 BL7 BL8 BO HGZ CX0_7 CY0_7
  go_wp2_with (first | ((with_reducible refine gate_dst (N := 67) rfl ?_); (try (refine gate_guard (by rfl) ?_; dsimp only)); refine B.row_event ?hg (N := 67) ?hd 24 (.tmp 6) gb 24 #[.string a2_0, .slice A2_1 l2_1.length c2_1, .int .i32 a2_2] _ ?ho ?hx HB9.out Try.underlying24 ?hq ?hi ?_; (case hg => rfl); (case hd => rfl); (case ho => rfl); (case hx => first | rfl | (go_simp; done)); (case hq => rfl); (case hi => exact HS24.out)) | fail)
  refine (spec_CacheBytes.calls 30 4 _ _ l1 a2_0 _ _ l2_1 a2_2 _ _ l3 d1 _ (Kd.C_below R1.out BL9.out) C1.out (Kd.C_below R2.out BL9.out) C2.out (Kd.C_below R3.out BL9.out) C3.out CF1.out).mono ?_
  rintro e w10 ⟨rfl, hb⟩
  have HB10 := Aside0.mk (blk_below HB9.out hb)
  have BL10 := Aside0.mk (below_step BL9.out hb)
  have CX0_10 := Aside0.mk (Kd.C_below CX0_9.out hb)
  have CY0_10 := Aside0.mk (Kd.C_below CY0_9.out hb)
  have HP0_10 := Aside0.mk (blk_below HP0_9.out hb)
  clear hb HB9 BL9
  go_wp2_with fail
  refine (impl_CacheRead.calls d1 4 a2_0 l2_1 a2_2 xs true _ RF1.out).mono ?_
  rintro e w11 ⟨v1, v3, rfl, hv1, hv3, hb⟩
  obtain ⟨AX1, cX1, rfl, hlx1, hcx1⟩ := Kd.R_reads hv1
  obtain ⟨AY1, cY1, rfl, hly1, hcy1⟩ := Kd.R_reads hv3
  have HB11 := Aside0.mk (blk_below HB10.out hb)
  have BL11 := Aside0.mk (below_step BL10.out hb)
  have CX0_11 := Aside0.mk (Kd.C_below CX0_10.out hb)
  have CY0_11 := Aside0.mk (Kd.C_below CY0_10.out hb)
  have HP0_11 := Aside0.mk (blk_below HP0_10.out hb)
  clear hb HB10 BL10
  have CX1_11 := Aside0.mk hcx1
  have CY1_11 := Aside0.mk hcy1
  clear hv1 hv3 hlx1 hcx1 hly1 hcy1
  go_upto_region 7 with (first
    | ((with_reducible refine gate_dst (N := 14) rfl ?_); refine box_event ?hg (N := 14) ?hd (cs := #[.string ⟨#[]⟩, .slice none 0 0, .int .i32 0]) (t := 37) ?hr ?_; (case hd => rfl); (case hg => rfl); (case hr => first | (go_simp; done) | (go_simp; rfl)); intro ge hgb w12 hbox hb; have HZ := Aside0.mk hbox; have HB12 := Aside0.mk (blk_below HB11.out hb); have BL12 := Aside0.mk (below_step BL11.out hb); have BO := Aside0.mk hb; have HGZ := Aside0.mk (show w11.heap.size ≤ ge ∧ w.heap.size ≤ ge from ⟨by rw [hgb]; exact Nat.le_refl _, by rw [hgb]; exact BL11.out.size⟩); clear hbox hb hgb)
    | ((with_reducible refine gate_store (t := 37) (p := 14) (v := .tmp 72) rfl ?_); refine B.store_event ?hg 37 (.tmp 14) (.tmp 72) ?ho ge #[.string a2_0, .slice AX1 l2_1.length cX1, .int .i32 a2_2] ?hx ?hy 37 _ HZ.out ?hi ?hl (by simp [Value.oneCell']) ?_; (case hg => rfl); (case ho => rfl); (case hx => first | rfl | (go_simp; done)); (case hy => first | rfl | (go_simp; done)); (case hi => exact HS37.out); (case hl => rfl); intro w13 hb2 hbl2 hsz2 hot2; have hb := hbl2 w11 BO.out HGZ.out.1; have HP1_13 := Aside0.mk hb2; have HB13 := Aside0.mk (blk_below HB11.out hb); have BL13 := Aside0.mk (below_step BL11.out hb); have CX0_13 := Aside0.mk (Kd.C_below CX0_11.out hb); have CY0_13 := Aside0.mk (Kd.C_below CY0_11.out hb); have CX1_13 := Aside0.mk (Kd.C_below CX1_11.out hb); have CY1_13 := Aside0.mk (Kd.C_below CY1_11.out hb); have HP0_13 := Aside0.mk (blk_below HP0_11.out hb); clear hb hb2 hbl2 hsz2 hot2)
    | fail)
  clear HZ HB11 HB12 BL11 BL12 BO HGZ CX0_9 CY0_9 CX0_10 CY0_10 CX0_11 CY0_11 CX1_11 CY1_11 HP0_9 HP0_10 HP0_11
  have hx12 := HX12.out
  go_wp2_with fail
  refine (laws_ccAwake.any _).mono ?_
  rintro e w14 ⟨rfl, hb⟩
  have BL14 := Aside0.mk (below_step BL13.out hb)
  have CX0_14 := Aside0.mk (Kd.C_below CX0_13.out hb)
  have CY0_14 := Aside0.mk (Kd.C_below CY0_13.out hb)
  have CX1_14 := Aside0.mk (Kd.C_below CX1_13.out hb)
  have CY1_14 := Aside0.mk (Kd.C_below CY1_13.out hb)
  have HP0_14 := Aside0.mk (blk_below HP0_13.out hb)
  have HP1_14 := Aside0.mk (blk_below HP1_13.out hb)
  clear hb BL13 HB13 CX0_13 CY0_13 CX1_13 CY1_13 HP0_13 HP1_13
  go_wp2_with fail
  go_loopw [94] (fun i wr => ∃ (j : Nat), j ≤ xs.length ∧ i = .int .i64 j ∧ Aside0 (Below w14.heap.size w14 wr)) (fun i _ => xs.length - (intOf i).toNat)
  case atStart => exact ⟨0, Nat.zero_le _, rfl, ⟨Below.refl _ _⟩⟩
  obtain ⟨j, hj, rfl, BQ⟩ := hrel
  by_cases hlt : j < xs.length
  case neg =>
    obtain rfl : j = xs.length := by omega
    have hnl : ¬ ((xs.length : Int) < (xs.length : Int)) := by omega
    have HPA := Aside0.mk (blk_below HP0_14.out BQ.out)
    have HPB := Aside0.mk (blk_below HP1_14.out BQ.out)
    have CXA := Aside0.mk (Kd.C_below CX0_14.out BQ.out)
    have CXB := Aside0.mk (Kd.C_below CX1_14.out BQ.out)
    have BL15 := Aside0.mk (below_step BL14.out BQ.out)
    clear HP0_14 HP1_14 CX0_14 CX1_14 BL14 BQ CY0_14 CY1_14
    go_wp2_with (first | ((with_reducible refine gate_dst (N := 110) rfl ?_); (try (refine gate_guard (by rfl) ?_; dsimp only)); refine B.row_event ?hg (N := 110) ?hd 37 (.tmp 10) ga 37 #[.string a2_0, .slice AX0 l2_1.length cX0, .int .i32 a2_2] _ ?ho ?hx HPA.out Try.underlying37 ?hq ?hi ?_; (case hg => rfl); (case hd => rfl); (case ho => rfl); (case hx => first | rfl | (go_simp; done)); (case hq => rfl); (case hi => exact HS37.out)) | ((with_reducible refine gate_dst (N := 111) rfl ?_); (try (refine gate_guard (by rfl) ?_; dsimp only)); refine B.row_event ?hg (N := 111) ?hd 37 (.tmp 14) ge 37 #[.string a2_0, .slice AX1 l2_1.length cX1, .int .i32 a2_2] _ ?ho ?hx HPB.out Try.underlying37 ?hq ?hi ?_; (case hg => rfl); (case hd => rfl); (case ho => rfl); (case hx => first | rfl | (go_simp; done)); (case hq => rfl); (case hi => exact HS37.out)) | fail)
    refine (spec_CcNameSame.same a2_0 l2_1 a2_2 AX0 AX1 cX0 cX1 _ CXA.out CXB.out).mono ?_
    rintro e w16 ⟨rfl, hb⟩
    have BL16 := Aside0.mk (below_step BL15.out hb)
    clear hb
    go_wp2
    go_ret
    exact ⟨rfl, BL16.out⟩
  have hlt' : (j : Int) < (xs.length : Int) := by omega
  have hj0 : (0 : Int) ≤ (j : Int) := by omega
  go_upto_region 12 with fail
  obtain ⟨wx, hwx⟩ : ∃ z, z = wr.drew := ⟨_, rfl⟩
  have hbd : Below wr.heap.size wr wx := hwx ▸ below_drew (Below.refl _ _)
  have BQx := Aside0.mk (below_step BQ.out hbd)
  have HWX := Aside0.mk hwx
  clear hbd hwx BQ
  obtain ⟨ad, X1, cX1, X4, cX4, X14, cX14, X15, cX15, rfl, hce, m1, g1, m4, g4, m14, g14, m15, g15⟩ := pw_row47 (Kd.C_below CY0_14.out BQx.out) j hlt
  obtain ⟨ae, Y1, cY1_, Y4, cY4, Y14, cY14, Y15, cY15, rfl, hcf, n1, k1, n4, k4, n14, k14, n15, k15⟩ := pw_row47 (Kd.C_below CY1_14.out BQx.out) j hlt
  have hlx := HXL.out (xs.getD j z47) (by rw [List.getD_eq_getElem?_getD, List.getElem?_eq_getElem hlt]; exact List.getElem_mem hlt)
  generalize xs.getD j z47 = x at *
  clear m1 m4 m14 m15 n1 n4 n14 n15
  have GX1 := Aside0.mk g1
  have GX4 := Aside0.mk g4
  have GX14 := Aside0.mk g14
  have GX15 := Aside0.mk g15
  have GY1 := Aside0.mk k1
  have GY4 := Aside0.mk k4
  have GY14 := Aside0.mk k14
  have GY15 := Aside0.mk k15
  have HLX := Aside0.mk hlx
  clear g1 g4 g14 g15 k1 k4 k14 k15 hlx
  obtain ⟨cx, hx⟩ : ∃ z : Array Value, z = #[Value.string x.f0.f0, .slice X1 x.f0.f1.length cX1, .int .i32 x.f0.f2, .string x.f1.f0, .slice X4 x.f1.f1.length cX4, .int .i32 x.f1.f2, .int .i32 x.f2, .string x.f3, .int .i64 x.f4, .int .i64 x.f5, .int .i64 x.f6, .int .i64 x.f7, .bool x.f8, .int .u32 x.f9, .slice X14 x.f10.length cX14, .slice X15 x.f11.length cX15, .string x.f12, .string x.f13] := ⟨_, rfl⟩
  obtain ⟨cy, hy⟩ : ∃ z : Array Value, z = #[Value.string x.f0.f0, .slice Y1 x.f0.f1.length cY1_, .int .i32 x.f0.f2, .string x.f1.f0, .slice Y4 x.f1.f1.length cY4, .int .i32 x.f1.f2, .int .i32 x.f2, .string x.f3, .int .i64 x.f4, .int .i64 x.f5, .int .i64 x.f6, .int .i64 x.f7, .bool x.f8, .int .u32 x.f9, .slice Y14 x.f10.length cY14, .slice Y15 x.f11.length cY15, .string x.f12, .string x.f13] := ⟨_, rfl⟩
  have HCX := Aside0.mk (show (∀ i u, cx.toList[i]? = some u → wx.cell? ((ad.add (j * 18)).add i) = some u) ∧ cx.size = 18 from by subst hx; exact ⟨hce, rfl⟩)
  have HCY := Aside0.mk (show (∀ i u, cy.toList[i]? = some u → wx.cell? ((ae.add (j * 18)).add i) = some u) ∧ cy.size = 18 from by subst hy; exact ⟨hcf, rfl⟩)
  have HVX := Aside0.mk hx
  have HVY := Aside0.mk hy
  clear hx hy hce hcf
  refine start_ (n := 12) (S := fun w' => (∀ i u, cx.toList[i]? = some u → w'.cell? ((ad.add (j * 18)).add i) = some u) ∧ (∀ i u, cy.toList[i]? = some u → w'.cell? ((ae.add (j * 18)).add i) = some u)) (ds := []) #[false, false, false, false, false, false, false, false, false, false, false, false] (by kernel_rfl) rfl rfl ⟨(HWX.out ▸ (show _ from HCX.out.1)), (HWX.out ▸ (show _ from HCY.out.1))⟩ (fun hHeld => ?_)
  rw [← HWX.out] at hHeld ⊢
  clear HWX
  refine pure_ (i := 0) (N := some 97) (v := ?_) (a' := ?_) #[true, false, false, false, false, false, false, false, false, false, false, false] rfl rfl (by kernel_rfl) (fun _ _ _ h => h) (Or.inl ⟨by rfl, ?_⟩) ?_ ?_
  rotate_left
  · intro w'
    go_simp
    with_reducible rfl
  rotate_left
  · simp only [Act.put, List.setIfInBounds_toArray, List.set_cons_zero, List.set_cons_succ, i64_w, i32_w]
    rfl
  refine pure_ (i := 1) (N := some 98) (v := ?_) (a' := ?_) #[true, true, false, false, false, false, false, false, false, false, false, false] rfl rfl (by kernel_rfl) (fun _ _ _ h => h) (Or.inl ⟨by rfl, ?_⟩) ?_ ?_
  rotate_left
  · intro w'
    go_simp
    with_reducible rfl
  rotate_left
  · simp only [Act.put, List.setIfInBounds_toArray, List.set_cons_zero, List.set_cons_succ, i64_w, i32_w]
    rfl
  refine pure_ (i := 2) (N := some 99) (v := ?_) (a' := ?_) #[true, true, true, false, false, false, false, false, false, false, false, false] rfl rfl (by kernel_rfl) (fun _ _ _ h => h) (Or.inl ⟨by rfl, ?_⟩) ?_ ?_
  rotate_left
  · intro w'
    go_simp
    with_reducible rfl
  rotate_left
  · simp only [Act.put, List.setIfInBounds_toArray, List.set_cons_zero, List.set_cons_succ, i64_w, i32_w]
    rfl
  refine pure_ (i := 5) (N := some 102) (v := ?_) (a' := ?_) #[true, true, true, false, false, true, false, false, false, false, false, false] rfl rfl (by kernel_rfl) (fun _ _ _ h => h) (Or.inl ⟨by rfl, ?_⟩) ?_ ?_
  rotate_left
  · intro w'
    go_simp
    with_reducible rfl
  rotate_left
  · simp only [Act.put, List.setIfInBounds_toArray, List.set_cons_zero, List.set_cons_succ, i64_w, i32_w]
    rfl
  refine pure_ (i := 6) (N := some 103) (v := ?_) (a' := ?_) #[true, true, true, false, false, true, true, false, false, false, false, false] rfl rfl (by kernel_rfl) (fun _ _ _ h => h) (Or.inl ⟨by rfl, ?_⟩) ?_ ?_
  rotate_left
  · intro w'
    go_simp
    with_reducible rfl
  rotate_left
  · simp only [Act.put, List.setIfInBounds_toArray, List.set_cons_zero, List.set_cons_succ, i64_w, i32_w]
    rfl
  refine pure_ (i := 7) (N := some 104) (v := ?_) (a' := ?_) #[true, true, true, false, false, true, true, true, false, false, false, false] rfl rfl (by kernel_rfl) (fun _ _ _ h => h) (Or.inl ⟨by rfl, ?_⟩) ?_ ?_
  rotate_left
  · intro w'
    go_simp
    with_reducible rfl
  rotate_left
  · simp only [Act.put, List.setIfInBounds_toArray, List.set_cons_zero, List.set_cons_succ, i64_w, i32_w]
    rfl
  refine take_ (i := 3) (N := some 100) (v := ?_) (a' := ?_) #[true, true, true, true, false, true, true, true, false, false, false, false] rfl rfl (by kernel_rfl) (fun _ _ _ h => h) (Or.inl ⟨by rfl, ?_⟩) hHeld ?_ ?_
  rotate_left
  · rintro w' ⟨s0, s1⟩
    refine B.load_array_run 47 (.tmp 99) (ad.add (j * 18)) cx _ ?ho ?hx s0 ?hq Try.underlying47 ?hi; (case ho => rfl); (case hx => rfl); (case hq => rfl); (case hi => exact pw_size47.trans (congrArg some HCX.out.2.symm))
  rotate_left
  · simp only [Act.put, List.setIfInBounds_toArray, List.set_cons_zero, List.set_cons_succ, i64_w, i32_w]
    rfl
  refine take_ (i := 8) (N := some 105) (v := ?_) (a' := ?_) #[true, true, true, true, false, true, true, true, true, false, false, false] rfl rfl (by kernel_rfl) (fun _ _ _ h => h) (Or.inl ⟨by rfl, ?_⟩) hHeld ?_ ?_
  rotate_left
  · rintro w' ⟨s0, s1⟩
    refine B.load_array_run 47 (.tmp 104) (ae.add (j * 18)) cy _ ?ho ?hx s1 ?hq Try.underlying47 ?hi; (case ho => rfl); (case hx => rfl); (case hq => rfl); (case hi => exact pw_size47.trans (congrArg some HCY.out.2.symm))
  rotate_left
  · simp only [Act.put, List.setIfInBounds_toArray, List.set_cons_zero, List.set_cons_succ, i64_w, i32_w]
    rfl
  refine one_ (i := 4) (N := some 101) #[true, true, true, true, true, true, true, true, true, false, false, false] rfl rfl (by kernel_rfl) (by decide) (fun K hK => ?_)
  have hcall := laws_ofCred.any x X1 cX1 X4 cX4 X14 cX14 X15 cX15 wx GX14.out GX15.out HLX.out
  rw [← HVX.out] at hcall
  refine goes_ Try.func17 (by kernel_rfl) rfl #[.agg cx] (by rfl) rfl rfl (by simp only [List.map_toArray, List.map_cons, List.map_nil]; rfl) ?_
  with_reducible refine (hcall).mono ?_
  rintro e wy ⟨A14, d14, A15, d15, rfl, hz1, hz2, hz3, hz4, hb_⟩
  refine ⟨_, rfl, ?_⟩
  have HC14 := Aside0.mk hz2
  have HC15 := Aside0.mk hz4
  have BY := Aside0.mk hb_
  clear hb_ hz1 hz2 hz3 hz4 hcall
  refine hK.out _ _ ⟨(fun i u hu => pw_cell_below BY.out (HCX.out.1 i u hu)), (fun i u hu => pw_cell_below BY.out (HCY.out.1 i u hu))⟩ (fun hHeld => ?_)
  clear hK K
  refine norm_ (a' := ?_) ?_ ?_
  rotate_left
  · show Act.put _ (some 101) _ = _
    simp only [Act.put, List.setIfInBounds_toArray, List.set_cons_zero, List.set_cons_succ, i64_w, i32_w]
    rfl
  refine one_ (i := 9) (N := some 106) #[true, true, true, true, true, true, true, true, true, true, false, false] rfl rfl (by kernel_rfl) (by decide) (fun K hK => ?_)
  have hcall := laws_ofCred.any x Y1 cY1_ Y4 cY4 Y14 cY14 Y15 cY15 wy (Kd.C_below GY14.out BY.out) (Kd.C_below GY15.out BY.out) HLX.out
  rw [← HVY.out] at hcall
  refine goes_ Try.func17 (by kernel_rfl) rfl #[.agg cy] (by rfl) rfl rfl (by simp only [List.map_toArray, List.map_cons, List.map_nil]; rfl) ?_
  with_reducible refine (hcall).mono ?_
  rintro e wq ⟨B14, f14, B15, f15, rfl, hz1, hz2, hz3, hz4, hb_⟩
  refine ⟨_, rfl, ?_⟩
  have HD14 := Aside0.mk hz2
  have HD15 := Aside0.mk hz4
  have BZ := Aside0.mk hb_
  have BYZ := Aside0.mk (below_step BY.out hb_)
  clear hb_ hz1 hz2 hz3 hz4 hcall
  refine hK.out _ _ ⟨(fun i u hu => pw_cell_below BYZ.out (HCX.out.1 i u hu)), (fun i u hu => pw_cell_below BYZ.out (HCY.out.1 i u hu))⟩ (fun hHeld => ?_)
  clear hK K
  refine norm_ (a' := ?_) ?_ ?_
  rotate_left
  · show Act.put _ (some 106) _ = _
    simp only [Act.put, List.setIfInBounds_toArray, List.set_cons_zero, List.set_cons_succ, i64_w, i32_w]
    rfl
  refine one_ (i := 10) (N := some 107) #[true, true, true, true, true, true, true, true, true, true, true, false] rfl rfl (by kernel_rfl) (by decide) (fun K hK => ?_)
  have hcall := spec_CredSame.same (laws_ofCred.of x) X1 cX1 X4 cX4 A14 d14 A15 d15 Y1 cY1_ Y4 cY4 B14 f14 B15 f15 wq (Kd.C_below GX1.out BYZ.out) (Kd.C_below GX4.out BYZ.out) (Kd.C_below HC14.out BZ.out) (Kd.C_below HC15.out BZ.out) (Kd.C_below GY1.out BYZ.out) (Kd.C_below GY4.out BYZ.out) HD14.out HD15.out
  refine goes_ Try.func16 (by kernel_rfl) rfl #[.agg #[Value.string (laws_ofCred.of x).f0.f0, .slice X1 (laws_ofCred.of x).f0.f1.length cX1, .int .i32 (laws_ofCred.of x).f0.f2, .string (laws_ofCred.of x).f1.f0, .slice X4 (laws_ofCred.of x).f1.f1.length cX4, .int .i32 (laws_ofCred.of x).f1.f2, .int .i32 (laws_ofCred.of x).f2, .string (laws_ofCred.of x).f3, .int .i64 (laws_ofCred.of x).f4, .int .i64 (laws_ofCred.of x).f5, .int .i64 (laws_ofCred.of x).f6, .int .i64 (laws_ofCred.of x).f7, .bool (laws_ofCred.of x).f8, .int .u32 (laws_ofCred.of x).f9, .slice A14 (laws_ofCred.of x).f10.length d14, .slice A15 (laws_ofCred.of x).f11.length d15, .string (laws_ofCred.of x).f12, .string (laws_ofCred.of x).f13], .agg #[Value.string (laws_ofCred.of x).f0.f0, .slice Y1 (laws_ofCred.of x).f0.f1.length cY1_, .int .i32 (laws_ofCred.of x).f0.f2, .string (laws_ofCred.of x).f1.f0, .slice Y4 (laws_ofCred.of x).f1.f1.length cY4, .int .i32 (laws_ofCred.of x).f1.f2, .int .i32 (laws_ofCred.of x).f2, .string (laws_ofCred.of x).f3, .int .i64 (laws_ofCred.of x).f4, .int .i64 (laws_ofCred.of x).f5, .int .i64 (laws_ofCred.of x).f6, .int .i64 (laws_ofCred.of x).f7, .bool (laws_ofCred.of x).f8, .int .u32 (laws_ofCred.of x).f9, .slice B14 (laws_ofCred.of x).f10.length f14, .slice B15 (laws_ofCred.of x).f11.length f15, .string (laws_ofCred.of x).f12, .string (laws_ofCred.of x).f13]] (by rfl) rfl rfl (by simp only [List.map_toArray, List.map_cons, List.map_nil]; rfl) ?_
  with_reducible refine (hcall).mono ?_
  rintro e wu ⟨rfl, hb_⟩
  refine ⟨_, rfl, ?_⟩
  have BU := Aside0.mk (below_step BYZ.out hb_)
  clear hb_ hcall
  refine hK.out _ _ ⟨(fun i u hu => pw_cell_below BU.out (HCX.out.1 i u hu)), (fun i u hu => pw_cell_below BU.out (HCY.out.1 i u hu))⟩ (fun hHeld => ?_)
  clear hK K
  refine norm_ (a' := ?_) ?_ ?_
  rotate_left
  · show Act.put _ (some 107) _ = _
    simp only [Act.put, List.setIfInBounds_toArray, List.set_cons_zero, List.set_cons_succ, i64_w, i32_w]
    rfl
  refine pure_ (i := 11) (N := some 108) (v := ?_) (a' := ?_) #[true, true, true, true, true, true, true, true, true, true, true, true] rfl rfl (by kernel_rfl) (fun _ _ _ h => h) (Or.inl ⟨by rfl, ?_⟩) ?_ ?_
  rotate_left
  · intro w'
    go_simp
    with_reducible rfl
  rotate_left
  · simp only [Act.put, List.setIfInBounds_toArray, List.set_cons_zero, List.set_cons_succ, i64_w, i32_w]
    rfl
  refine done_ (by kernel_rfl) ?_
  
  have BQ2 := Aside0.mk (below_step BQx.out BU.out)
  clear hHeld BU BYZ BY BZ BQx HCX HCY HVX HVY GX1 GX4 GX14 GX15 GY1 GY4 GY14 GY15 HC14 HC15 HD14 HD15 HLX
  go_wp2
  go_roundw
  case rel => exact ⟨j + 1, by omega, by go_num, BQ2⟩
  case measure => simp [intOf]; omega

end Go.Proofs.Ytnipcocllhfaoaa.A

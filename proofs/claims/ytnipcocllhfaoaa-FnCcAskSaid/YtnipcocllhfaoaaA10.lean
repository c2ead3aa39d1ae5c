/- Go functions of this seat come to the answers of the Lean functions that stand here ('.calls'), under what each theorem states and nothing else. Written by pw.py, a program of this session, with texts of its own. -/
import Derived.Test.YtnipcocllhfaoaaA0
import Derived.Test.YtnipcocllhfaoaaA1
import Derived.Test.YtnipcocllhfaoaaA2
import Derived.Test.YtnipcocllhfaoaaA3
import Derived.Test.YtnipcocllhfaoaaA6
import Derived.Test.YtnipcocllhfaoaaA8
import Derived.Test.YtnipcocllhfaoaaA9
import Derived.Test.YtnipcocllhfaoaaP4
namespace Go.Proofs.Ytnipcocllhfaoaa.A
open Go.RowKit Go.Proofs.YtnipcocllhfaoaaW.PrintWords Go.Proofs.YtnipcocllhfaoaaW.PrintLast
open Go.Proofs.Ytnipcocllhfaoaa.B (gate_callee gate_builtin)
set_option linter.unusedVariables false
set_option linter.unusedSimpArgs false
set_option maxRecDepth 100000

/-! ### laws_FnCcAsk: function 6 -/
-- EXT rounds=0 making=1
-- NEEDS 7 8 9 10 11 12 13 20 21 22
theorem laws_FnCcAsk.version (a : Int) (h : (Lit.int .u8 a).wf = true) : ∃ v : Nat, (v = 3 ∨ v = 4) ∧ laws_ccVersion.f a = some (v : Int) := by
  have h0 : 0 ≤ a := by simp [Lit.wf, IntKind.min, IntKind.max, IntKind.bits, IntKind.signed] at h; omega
  have e : Int.tmod a 2 = a % 2 := Int.tmod_eq_emod_of_nonneg h0
  unfold laws_ccVersion.f
  rw [e]
  rcases (show a % 2 = 0 ∨ a % 2 = 1 by omega) with h2 | h2
  · exact ⟨3, Or.inl rfl, by rw [h2]; rfl⟩
  · exact ⟨4, Or.inr rfl, by rw [h2]; rfl⟩
theorem pw_at36 {l : List S36} {k : Nat} (h : k < l.length) : l[k]? = some (l.getD k z36) := by
  rw [List.getD_eq_getElem?_getD, List.getElem?_eq_getElem h]; rfl
theorem pw_info9 : (Try.prog.info? 9).map (fun i => (i.zero, i.size, i.bytes)) = some (some (.string ⟨#[]⟩), 1, 16) := by kernel_rfl
set_option maxHeartbeats 16000000 in
theorem laws_FnCcAsk.walk (a0 : Int) (a1_0 : ByteArray) (A1_1 : Option Addr) (c1_1 : Nat) (l1_1 : List ByteArray) (a1_2 : Int) (A2 : Option Addr) (c2 : Nat) (l2 : List (S36)) (A3 : Option Addr) (c3 : Nat) (l3 : List ByteArray) (w : World) (hr1_1 : Kd.C Kd.string w A1_1 l1_1.length l1_1) (hc1_1 : l1_1.length ≤ c1_1) (hr2 : Kd.C k36 w A2 l2.length l2) (hc2 : l2.length ≤ c2) (hr3 : Kd.C Kd.string w A3 l3.length l3) (hc3 : l3.length ≤ c3) (g0 : (Lit.int .u8 a0).wf = true) (g1_0 : a1_0.size ≤ maxLen) (g1_1 : l1_1.length ≤ 9223372036854775807 ∧ ∀ y0_ : ByteArray, y0_ ∈ l1_1 → y0_.size ≤ maxLen) (g1_2 : (Lit.int .i32 a1_2).wf = true) (g2 : l2.length ≤ 9223372036854775807 ∧ ∀ y0_ : S36, y0_ ∈ l2 → ((y0_.f0.f0.size ≤ maxLen) ∧ (y0_.f0.f1.length ≤ 9223372036854775807 ∧ ∀ y1_ : ByteArray, y1_ ∈ y0_.f0.f1 → y1_.size ≤ maxLen) ∧ ((Lit.int .i32 y0_.f0.f2).wf = true)) ∧ ((y0_.f1.f0.size ≤ maxLen) ∧ (y0_.f1.f1.length ≤ 9223372036854775807 ∧ ∀ y1_ : ByteArray, y1_ ∈ y0_.f1.f1 → y1_.size ≤ maxLen) ∧ ((Lit.int .i32 y0_.f1.f2).wf = true)) ∧ ((Lit.int .i32 y0_.f2).wf = true) ∧ (y0_.f3.size ≤ maxLen) ∧ ((Lit.int .i64 y0_.f4).wf = true) ∧ ((Lit.int .i64 y0_.f5).wf = true) ∧ ((Lit.int .i64 y0_.f6).wf = true) ∧ ((Lit.int .i64 y0_.f7).wf = true) ∧ ((Lit.int .u32 y0_.f9).wf = true) ∧ (y0_.f10.length ≤ 9223372036854775807 ∧ ∀ y1_ : S63, y1_ ∈ y0_.f10 → ((Lit.int .i32 y1_.f0).wf = true) ∧ (y1_.f1.size ≤ maxLen)) ∧ (y0_.f11.length ≤ 9223372036854775807 ∧ ∀ y1_ : S63, y1_ ∈ y0_.f11 → ((Lit.int .i32 y1_.f0).wf = true) ∧ (y1_.f1.size ≤ maxLen)) ∧ (y0_.f12.size ≤ maxLen) ∧ (y0_.f13.size ≤ maxLen)) (g3 : l3.length ≤ 9223372036854775807 ∧ ∀ y0_ : ByteArray, y0_ ∈ l3 → y0_.size ≤ maxLen) :
    Calls Try.prog 6 #[.int .u8 a0, .agg #[.string a1_0, .slice A1_1 l1_1.length c1_1, .int .i32 a1_2], .slice A2 l2.length c2, .slice A3 l3.length c3] w fun e w' => e = .returned (.bool true) ∧ Below w.heap.size w w' := by
  have R1 := Aside0.mk hr1_1
  have C1 := Aside0.mk hc1_1
  have R2 := Aside0.mk hr2
  have C2 := Aside0.mk hc2
  have R3 := Aside0.mk hr3
  have C3 := Aside0.mk hc3
  have G12 := Aside0.mk g1_2
  have G2 := Aside0.mk g2
  have G0 := Aside0.mk g0
  clear hr1_1 hc1_1 hr2 hc2 hr3 hc3 g1_2 g2 g0 g1_0 g1_1 g3
  have hu24 := Try.underlying24
  have hsz24 : (Try.prog.info? 24).map (·.size) = some 3 := by kernel_rfl
  have HS24 := Aside0.mk hsz24
  clear hsz24
  obtain ⟨b1, K1, hb1⟩ := P.fits13 a1_0 l1_1 a1_2
  obtain ⟨b2, K2, hb2⟩ := P.fits14 l2
  obtain ⟨b3, K3, hb3⟩ := P.fits4 l3
  have E1 := Aside0.mk (hb1 K1 (Nat.le_refl _))
  have E2 := Aside0.mk (hb2 K2 (Nat.le_refl _))
  have E3 := Aside0.mk (hb3 K3 (Nat.le_refl _))
  clear hb1 hb2 hb3
  go_enter Try.func6, Try.ntmps6
  go_upto_region 1 with (first | ((with_reducible refine gate_dst (N := 5) rfl ?_); refine box_event ?hg (N := 5) ?hd (cs := #[.string a1_0, .slice A1_1 l1_1.length c1_1, .int .i32 a1_2]) (t := 24) ?hr ?_; (case hd => rfl); (case hg => rfl); (case hr => first | (go_simp; done) | (go_simp; rfl)); intro gb hgb w1 hbox hb; have HB1 := Aside0.mk hbox; have BL1 := Aside0.mk hb; have HGE := Aside0.mk (show w.heap.size ≤ gb from by rw [hgb]; exact Nat.le_refl _); clear hbox hb hgb) | fail)
  go_wp2_with (first | ((with_reducible refine gate_dst (N := 20) rfl ?_); (try (refine gate_guard (by rfl) ?_; dsimp only)); refine B.row_event ?hg (N := 20) ?hd 24 (.tmp 5) gb 24 #[.string a1_0, .slice A1_1 l1_1.length c1_1, .int .i32 a1_2] _ ?ho ?hx HB1.out Try.underlying24 ?hq ?hi ?_; (case hg => rfl); (case hd => rfl); (case ho => rfl); (case hx => first | rfl | (go_simp; done)); (case hq => rfl); (case hi => exact HS24.out)) | fail)
  refine (laws_zzFits13.calls K1 a1_0 _ _ l1_1 a1_2 b1 _ (Kd.C_below R1.out BL1.out) C1.out E1.out).mono ?_
  rintro e w2 ⟨rfl, hb⟩
  have HB2 := Aside0.mk (blk_below HB1.out hb)
  have BL2 := Aside0.mk (below_step BL1.out hb)
  clear hb HB1 BL1
  cases b1 with
  | false =>
    go_wp2
    go_ret
    exact ⟨rfl, BL2.out⟩
  | true =>
  go_wp2_with fail
  refine (laws_zzFits14.calls K2 _ _ l2 b2 _ (Kd.C_below R2.out BL2.out) C2.out E2.out).mono ?_
  rintro e w3 ⟨rfl, hb⟩
  have HB3 := Aside0.mk (blk_below HB2.out hb)
  have BL3 := Aside0.mk (below_step BL2.out hb)
  clear hb HB2 BL2
  cases b2 with
  | false =>
    go_wp2
    go_ret
    exact ⟨rfl, BL3.out⟩
  | true =>
  go_wp2_with fail
  refine (laws_zzFits4.calls K3 _ _ l3 b3 _ (Kd.C_below R3.out BL3.out) C3.out E3.out).mono ?_
  rintro e w4 ⟨rfl, hdr⟩
  have hb := hdr.below
  clear hdr
  have HB4 := Aside0.mk (blk_below HB3.out hb)
  have BL4 := Aside0.mk (below_step BL3.out hb)
  clear hb HB3 BL3
  cases b3 with
  | false =>
    go_wp2
    go_ret
    exact ⟨rfl, BL4.out⟩
  | true =>
  clear E1 E2 E3
  go_wp2_with (first | ((with_reducible refine gate_dst (N := 33) rfl ?_); (try (refine gate_guard (by rfl) ?_; dsimp only)); refine B.row_event ?hg (N := 33) ?hd 24 (.tmp 5) gb 24 #[.string a1_0, .slice A1_1 l1_1.length c1_1, .int .i32 a1_2] _ ?ho ?hx HB4.out Try.underlying24 ?hq ?hi ?_; (case hg => rfl); (case hd => rfl); (case ho => rfl); (case hx => first | rfl | (go_simp; done)); (case hq => rfl); (case hi => exact HS24.out)) | fail)
  obtain ⟨b4, hb4⟩ : ∃ b, spec_CredsRight.name ⟨a1_0, l1_1, a1_2⟩ = b := ⟨_, rfl⟩
  have n4 := spec_CredsRight.name_any ⟨a1_0, l1_1, a1_2⟩ A1_1 c1_1 w4 (Kd.C_below R1.out BL4.out) C1.out
  rw [hb4] at n4
  have E4 := Aside0.mk hb4
  clear hb4
  refine n4.mono ?_
  clear n4
  rintro e w5 ⟨rfl, hb⟩
  have HB5 := Aside0.mk (blk_below HB4.out hb)
  have BL5 := Aside0.mk (below_step BL4.out hb)
  clear hb HB4 BL4
  cases b4 with
  | false =>
    go_wp2_with fail
    refine (laws_ccAwake.any _).mono ?_
    rintro e wz ⟨rfl, hb⟩
    have BZ := Aside0.mk (below_step BL5.out hb)
    clear hb
    go_wp2
    go_ret
    exact ⟨rfl, BZ.out⟩
  | true =>
  go_wp2_with fail
  obtain ⟨b5, hb5⟩ : ∃ b, spec_CredsRight.name ⟨⟨#[]⟩, l3, 0⟩ = b := ⟨_, rfl⟩
  have n5 := spec_CredsRight.name_any ⟨⟨#[]⟩, l3, 0⟩ A3 c3 w5 (Kd.C_below R3.out BL5.out) C3.out
  rw [hb5] at n5
  clear hb5
  refine n5.mono ?_
  clear n5
  rintro e w6 ⟨rfl, hb⟩
  have HB6 := Aside0.mk (blk_below HB5.out hb)
  have BL6 := Aside0.mk (below_step BL5.out hb)
  clear hb HB5 BL5
  cases b5 with
  | false =>
    go_wp2_with fail
    refine (laws_ccAwake.any _).mono ?_
    rintro e wz ⟨rfl, hb⟩
    have BZ := Aside0.mk (below_step BL6.out hb)
    clear hb
    go_wp2
    go_ret
    exact ⟨rfl, BZ.out⟩
  | true =>
  obtain ⟨b6, hb6⟩ : ∃ b, (decide (l2.length ≤ 12) && l2.all spec_CredsRight.cred) = b := ⟨_, rfl⟩
  have hf6 : spec_CredsRight.f l2 = some b6 := congrArg some hb6
  have E6 := Aside0.mk hb6
  have F6 := Aside0.mk hf6
  clear hb6 hf6
  go_wp2_with fail
  refine (spec_CredsRight.calls _ _ l2 b6 _ (Kd.C_below R2.out BL6.out) C2.out F6.out).mono ?_
  rintro e w7 ⟨rfl, hb⟩
  have HB7 := Aside0.mk (blk_below HB6.out hb)
  have BL7 := Aside0.mk (below_step BL6.out hb)
  clear hb HB6 BL6
  cases b6 with
  | false =>
    go_wp2_with fail
    refine (laws_ccAwake.any _).mono ?_
    rintro e wz ⟨rfl, hb⟩
    have BZ := Aside0.mk (below_step BL7.out hb)
    clear hb
    go_wp2
    go_ret
    exact ⟨rfl, BZ.out⟩
  | true =>
  have hall : l2.length ≤ 12 ∧ ∀ c ∈ l2, spec_CredsRight.cred c = true := by have := E6.out; simpa using this
  have OKN := P.name_ok E4.out G12.out
  have OKC : ∀ d ∈ l2, P.OkCred d := fun d hd => P.cred_ok (hall.2 d hd) (G2.out.2 d hd).1.2.2 (G2.out.2 d hd).2.1.2.2 (G2.out.2 d hd).2.2.2.2.2.2.2.2.1
  have hn := hall.1
  have HN := Aside0.mk hall.1
  clear hall E4 E6 F6
  obtain ⟨v, hv, hvf⟩ := laws_FnCcAsk.version a0 G0.out
  have HVF := Aside0.mk hvf
  clear hvf
  obtain ⟨data, hda⟩ : ∃ s, s = strOfNums (P.eCache v [] ⟨a1_0, l1_1, a1_2⟩ l2) := ⟨_, rfl⟩
  have CF := Aside0.mk (show spec_CacheBytes.f 30 (v : Int) [] a1_0 l1_1 a1_2 l2 = some data from by rw [hda]; exact P.cache_str hv (offs := []) (by simp) (by simp) OKN OKC hn (by omega))
  have AK := Aside0.mk (show P.Asked v ⟨a1_0, l1_1, a1_2⟩ l2 data from by rw [hda]; exact P.asked hv OKN OKC hn)
  have HRS := Aside0.mk (show ∀ x ∈ l2.map P.cred, x.server.realm.size ≤ 1099511627776 from fun x hx => by obtain ⟨c, hc, rfl⟩ := List.mem_map.1 hx; have := (OKC c hc).server.1; show c.f1.f0.size ≤ _; omega)
  clear hda hv OKN OKC G12 G2 G0
  go_wp2_with fail
  go_loopw [9, 10, 50] (fun vw va i wr => ∃ (k : Nat) (n : Int) (Aw : Option Addr) (wn cw : Nat), k ≤ l2.length ∧ vw = .slice Aw wn cw ∧ va = .int .i64 n ∧ i = .int .i64 k ∧ Aside0 (P.AtRel l2 l3 k n) ∧ Aside0 (∀ c ∈ l2.take k, B.confB c.f1.f0 = !P.plain c) ∧ Aside0 (Kd.string.R 9 wr w.heap.size (fun _ => True) (.slice Aw wn cw) (((l2.take k).filter P.plain).map (·.f12))) ∧ Aside0 (wr.heap[gb]? = some (.cells #[.string a1_0, .slice A1_1 l1_1.length c1_1, .int .i32 a1_2] 24 (0, 0))) ∧ Aside0 (Below w.heap.size w wr)) (fun _ _ i _ => l2.length - (intOf i).toNat)
  case atStart => exact ⟨0, -1, none, 0, 0, Nat.zero_le _, rfl, rfl, rfl, ⟨P.AtRel.zero _ _⟩, ⟨by simp⟩, ⟨Kd.R_nil _ _ _ _ _⟩, HB7, BL7⟩
  clear HB7 BL7
  obtain ⟨k, n, Aw, wn, cw, hk, rfl, rfl, rfl, HA, HCf, RW, HB, BL⟩ := hrel
  by_cases hlt : k < l2.length
  case pos =>
    have hlt' : (k : Int) < (l2.length : Int) := by omega
    have hk0 : (0 : Int) ≤ (k : Int) := by omega
    have HLT := Aside0.mk hlt
    obtain ⟨ad, X1, d1, X4, d4, X14, d14, X15, d15, rfl, hcells, m1, g1, m4, g4, m14, g14, m15, g15⟩ := pw_row36 R2.out k hlt
    have hck := pw_at36 hlt
    generalize l2.getD k z36 = c at *
    have HCK := Aside0.mk hck
    have G4 := Aside0.mk g4
    clear hck m1 m4 m14 m15 g1 g4 g14 g15
    obtain ⟨cs, hcs⟩ : ∃ x : Array Value, x = #[Value.string c.f0.f0, .slice X1 c.f0.f1.length d1, .int .i32 c.f0.f2, .string c.f1.f0, .slice X4 c.f1.f1.length d4, .int .i32 c.f1.f2, .int .i32 c.f2, .string c.f3, .int .i64 c.f4, .int .i64 c.f5, .int .i64 c.f6, .int .i64 c.f7, .bool c.f8, .int .u32 c.f9, .slice X14 c.f10.length d14, .slice X15 c.f11.length d15, .string c.f12, .string c.f13] := ⟨_, rfl⟩
    have HS2 := Aside0.mk (show cs.size = 18 ∧ cs.all (·.oneCell') = true from by subst hcs; exact ⟨rfl, by simp [Value.oneCell']⟩)
    have HC2 := Aside0.mk (show (∀ i u, cs.toList[i]? = some u → wr.cell? ((ad.add (k * 18)).add i) = some u) ∧ cs.toList.length = 18 from by subst hcs; exact ⟨fun i u hu => pw_cell_below BL.out (hcells i u hu), rfl⟩)
    have K3 := Aside0.mk (show cs[3]? = some (.string c.f1.f0) from by rw [hcs]; rfl)
    have K4 := Aside0.mk (show cs[4]? = some (.slice X4 c.f1.f1.length d4) from by rw [hcs]; rfl)
    have K16 := Aside0.mk (show cs[16]? = some (.string c.f12) from by rw [hcs]; rfl)
    clear hcs hcells
    go_upto_region 10 with (first
      | ((with_reducible refine gate_dst (N := 54) rfl ?_); refine B.load_cells_event ?hg (N := 54) ?hd 36 (.tmp 53) (ad.add (k * 18)) cs.toList _ ?ho ?hx HC2.out.1 Try.underlying36 ?hq ?hi ?_; (case hg => rfl); (case hd => rfl); (case ho => rfl); (case hx => first | rfl | (go_simp; done)); (case hq => rfl); (case hi => exact pw_size36.trans (congrArg some HC2.out.2.symm)))
      | ((with_reducible refine gate_dst (N := 12) rfl ?_); refine box_event ?hg (N := 12) ?hd (cs := pw_zero36) (t := 36) ?hr ?_; (case hd => rfl); (case hg => rfl); (case hr => first | (go_simp; done) | (go_simp; rfl)); intro gq hgb w1 hbox hb; have HBX := Aside0.mk hbox; have HBB := Aside0.mk hb; have HGB := Aside0.mk (show wr.heap.size ≤ gq from by rw [hgb]; exact Nat.le_refl _); clear hbox hb hgb)
      | ((with_reducible refine gate_store (t := 36) (p := 12) (v := .tmp 54) rfl ?_); refine B.store_event ?hg 36 (.tmp 12) (.tmp 54) ?ho gq cs ?hx ?hy 36 _ HBX.out ?hi ?hl HS2.out.2 ?_; (case hg => rfl); (case ho => rfl); (case hx => first | rfl | (go_simp; done)); (case hy => first | (simp only [Array.toArray_toList]; rfl) | (go_simp; done)); (case hi => exact pw_size36.trans (congrArg some HS2.out.1.symm)); (case hl => exact HS2.out.1.symm); intro w2 hb2 hbl2 hsz2 hot2; have HQ2 := Aside0.mk hb2; have HBL2 := Aside0.mk (hbl2 wr HBB.out HGB.out); clear hb2 hbl2 hsz2 hot2)
      | fail)
    clear HBB HBX HC2 HS2 HGB
    have HB2 := Aside0.mk (blk_below HB.out HBL2.out)
    have RW2 := Aside0.mk (Kd.R_below RW.out HBL2.out)
    have BL2 := Aside0.mk (below_step BL.out HBL2.out)
    clear HB RW BL HBL2
    have q3 : w2.cell? ⟨gq, 3, none⟩ = some (.string c.f1.f0) := (blk_cell HQ2.out 3).trans K3.out
    obtain ⟨bc, hbc⟩ : ∃ b, B.confB c.f1.f0 = b := ⟨_, rfl⟩
    have n5 := spec_Config.any c.f1.f0 w2
    rw [hbc] at n5
    have HBC := Aside0.mk hbc
    clear hbc
    go_wp2_with fail
    refine n5.mono ?_
    clear n5 q3
    rintro e w3 ⟨rfl, hb⟩
    have HQ3 := Aside0.mk (blk_below HQ2.out hb)
    have HB3 := Aside0.mk (blk_below HB2.out hb)
    have RW3 := Aside0.mk (Kd.R_below RW2.out hb)
    have BL3 := Aside0.mk (below_step BL2.out hb)
    clear hb HQ2 HB2 RW2 BL2
    have q3 : w3.cell? ⟨gq, 3, none⟩ = some (.string c.f1.f0) := (blk_cell HQ3.out 3).trans K3.out
    obtain ⟨bp, hbp⟩ : ∃ b, P.plain c = b := ⟨_, rfl⟩
    have HPL := Aside0.mk hbp
    have z1 : (c.f1.f0.toList != [88, 45, 67, 65, 67, 72, 69, 67, 79, 78, 70, 58]) = bp := hbp
    have z2 : (c.f1.f0.toList == [88, 45, 67, 65, 67, 72, 69, 67, 79, 78, 70, 58]) = !bp := by rw [← z1, bne, Bool.not_not]
    clear hbp
    cases bc with
    | true =>
      cases bp with
      | true =>
        go_wp2_with fail
        refine (laws_ccAwake.any _).mono ?_
        rintro e wz ⟨rfl, hb⟩
        have BZ := Aside0.mk (below_step BL3.out hb)
        clear hb
        go_wp2
        go_ret
        exact ⟨rfl, BZ.out⟩
      | false =>
        have HCf2 : Aside0 (∀ x ∈ l2.take (k + 1), B.confB x.f1.f0 = !P.plain x) := ⟨fun x hx => by
          rw [List.take_add_one, HCK.out] at hx
          simp at hx
          rcases hx with hx | rfl
          · exact HCf.out x hx
          · rw [HBC.out, HPL.out]; rfl⟩
        have hft : ((l2.take (k + 1)).filter P.plain).map (·.f12) = ((l2.take k).filter P.plain).map (·.f12) := by
          rw [List.take_add_one, HCK.out, List.filter_append, List.map_append]
          simp [HPL.out]
        have RW4 := Aside0.mk (hft ▸ RW3.out)
        clear RW3 hft
        go_upto_region 14 with fail
        clear q3 z1 z2
        have q4 : w3.cell? ⟨gq, 4, none⟩ = some (.slice X4 c.f1.f1.length d4) := (blk_cell HQ3.out 4).trans K4.out
        go_wp2_with fail
        obtain ⟨be, hbe⟩ : ∃ b, decide (c.f1.f1 = l3) = b := ⟨_, rfl⟩
        have n6 := slices_Equal_string_string.any c.f1.f1 l3 X4 A3 d4 c3 w3 (Kd.C_below G4.out BL3.out) (Kd.C_below R3.out BL3.out)
        rw [hbe] at n6
        have HBE := Aside0.mk hbe
        clear hbe
        refine n6.mono ?_
        clear n6 q4
        rintro e wt ⟨rfl, hb⟩
        have HBt := Aside0.mk (blk_below HB3.out hb)
        have RWt := Aside0.mk (Kd.R_below RW4.out hb)
        have BLt := Aside0.mk (below_step BL3.out hb)
        clear hb HQ3 HB3 RW4 BL3
        cases be with
        | false =>
          go_wp2_with fail
          go_roundw
          case rel => exact ⟨k + 1, n, Aw, wn, cw, by have := HLT.out; omega, rfl, rfl, by go_num, ⟨HA.out.no HCK.out (of_decide_eq_false HBE.out)⟩, HCf2, RWt, HBt, BLt⟩
          case measure => have := HLT.out; simp [intOf]; omega
        | true =>
          by_cases hn0 : n < 0
          case pos =>
            have ze : decide (n < 0) = true := decide_eq_true hn0
            have HN0 := Aside0.mk hn0
            clear hn0
            go_wp2_with fail
            go_roundw
            case rel => exact ⟨k + 1, (k : Int), Aw, wn, cw, by have := HLT.out; omega, rfl, rfl, by go_num, ⟨HA.out.new HCK.out (by have := HN0.out; omega) (of_decide_eq_true HBE.out)⟩, HCf2, RWt, HBt, BLt⟩
            case measure => have := HLT.out; simp [intOf]; omega
          case neg =>
            have ze : decide (n < 0) = false := decide_eq_false hn0
            have HN0 := Aside0.mk hn0
            clear hn0
            go_wp2_with fail
            go_roundw
            case rel => exact ⟨k + 1, n, Aw, wn, cw, by have := HLT.out; omega, rfl, rfl, by go_num, ⟨HA.out.old (by have := HN0.out; omega)⟩, HCf2, RWt, HBt, BLt⟩
            case measure => have := HLT.out; simp [intOf]; omega
    | false =>
      cases bp with
      | false =>
        exact absurd (P.conf_text (s := c.f1.f0) (show c.f1.f0.toList = P.confText from eq_of_beq (z2.trans rfl))) (by rw [HBC.out]; decide)
      | true =>
        have HCf2 : Aside0 (∀ x ∈ l2.take (k + 1), B.confB x.f1.f0 = !P.plain x) := ⟨fun x hx => by
          rw [List.take_add_one, HCK.out] at hx
          simp at hx
          rcases hx with hx | rfl
          · exact HCf.out x hx
          · rw [HBC.out, HPL.out]; rfl⟩
        have hft : ((l2.take (k + 1)).filter P.plain).map (·.f12) = ((l2.take k).filter P.plain).map (·.f12) ++ [c.f12] := by
          rw [List.take_add_one, HCK.out, List.filter_append, List.map_append]
          simp [HPL.out]
        obtain ⟨acc, hacc⟩ : ∃ a, a = ((l2.take k).filter P.plain).map (·.f12) := ⟨_, rfl⟩
        obtain ⟨acc1, hacc1⟩ : ∃ a, a = ((l2.take (k + 1)).filter P.plain).map (·.f12) := ⟨_, rfl⟩
        rw [← hacc, ← hacc1] at hft
        have hrw3 := RW3.out
        rw [← hacc] at hrw3
        have RWa := Aside0.mk hrw3
        have HFT := Aside0.mk hft
        have HAC := Aside0.mk hacc1
        have q16 : w3.cell? ⟨gq, 16, none⟩ = some (.string c.f12) := (blk_cell HQ3.out 16).trans K16.out
        have HLE := Aside0.mk (show (acc.length + 1) * 16 ≤ 140737488355328 from by rw [hacc]; have := HN.out; have h1 := List.length_filter_le P.plain (l2.take k); have h2 := HLT.out; simp at h1 ⊢; omega)
        clear hft hrw3 hacc hacc1 RW3
        go_upto_region 14 with (first | ((with_reducible refine gate_builtin (b := .append) (xs := #[.tmp 70, .tmp 73]) rfl ?_); at_builtin; refine Kd.R_append Kd.string (w0 := w3) w.heap.size rfl (.tmp 70) (.tmp 73) 22 9 (.string ⟨#[]⟩) 16 rfl Try.underlying22 pw_info9 rfl (by decide) (by decide) (.slice Aw wn cw) acc c.f12 [.string c.f12] (fun _ => True) (fun _ => False) rfl rfl rfl (fun _ h => h.elim) (fun _ _ => trivial) RWa.out (B.below_low (Below.refl _ w3) BL3.out.size) BL3.out.size HLE.out ?_; intro v6 w6 hv6 hb6 hg6 hat6; rw [← HFT.out] at hv6; obtain ⟨A6_, c6_, ev6⟩ := Kd.R_slice hv6; obtain ⟨n6_, hn6⟩ : ∃ n6_, n6_ = acc1.length := ⟨_, rfl⟩; rw [← hn6] at ev6; subst ev6; have RW6 := Aside0.mk hv6; have HQ6 := Aside0.mk (B.Box.row HQ3.out RWa.out (by decide) hg6); have HB6 := Aside0.mk (B.Box.row HB3.out RWa.out (by decide) hg6); have BL6 := Aside0.mk (B.below_row BL3.out RWa.out hg6); clear hv6 hb6 hg6 hat6 hn6) | fail)
        have RW7 := Aside0.mk (show Kd.string.R 9 w6 w.heap.size (fun _ => True) (.slice A6_ n6_ c6_) (((l2.take (k + 1)).filter P.plain).map (·.f12)) from HAC.out ▸ RW6.out)
        clear q3 q16 z1 z2 RWa RW6 BL3 HQ3 HB3 HFT HAC HLE
        have q4 : w6.cell? ⟨gq, 4, none⟩ = some (.slice X4 c.f1.f1.length d4) := (blk_cell HQ6.out 4).trans K4.out
        go_wp2_with fail
        obtain ⟨be, hbe⟩ : ∃ b, decide (c.f1.f1 = l3) = b := ⟨_, rfl⟩
        have n6 := slices_Equal_string_string.any c.f1.f1 l3 X4 A3 d4 c3 w6 (Kd.C_below G4.out BL6.out) (Kd.C_below R3.out BL6.out)
        rw [hbe] at n6
        have HBE := Aside0.mk hbe
        clear hbe
        refine n6.mono ?_
        clear n6 q4
        rintro e wt ⟨rfl, hb⟩
        have HBt := Aside0.mk (blk_below HB6.out hb)
        have RWt := Aside0.mk (Kd.R_below RW7.out hb)
        have BLt := Aside0.mk (below_step BL6.out hb)
        clear hb HQ6 HB6 RW7 BL6
        cases be with
        | false =>
          go_wp2_with fail
          go_roundw
          case rel => exact ⟨k + 1, n, A6_, n6_, c6_, by have := HLT.out; omega, rfl, rfl, by go_num, ⟨HA.out.no HCK.out (of_decide_eq_false HBE.out)⟩, HCf2, RWt, HBt, BLt⟩
          case measure => have := HLT.out; simp [intOf]; omega
        | true =>
          by_cases hn0 : n < 0
          case pos =>
            have ze : decide (n < 0) = true := decide_eq_true hn0
            have HN0 := Aside0.mk hn0
            clear hn0
            go_wp2_with fail
            go_roundw
            case rel => exact ⟨k + 1, (k : Int), A6_, n6_, c6_, by have := HLT.out; omega, rfl, rfl, by go_num, ⟨HA.out.new HCK.out (by have := HN0.out; omega) (of_decide_eq_true HBE.out)⟩, HCf2, RWt, HBt, BLt⟩
            case measure => have := HLT.out; simp [intOf]; omega
          case neg =>
            have ze : decide (n < 0) = false := decide_eq_false hn0
            have HN0 := Aside0.mk hn0
            clear hn0
            go_wp2_with fail
            go_roundw
            case rel => exact ⟨k + 1, n, A6_, n6_, c6_, by have := HLT.out; omega, rfl, rfl, by go_num, ⟨HA.out.old (by have := HN0.out; omega)⟩, HCf2, RWt, HBt, BLt⟩
            case measure => have := HLT.out; simp [intOf]; omega
  obtain rfl : k = l2.length := by omega
  have hnl : ¬ ((l2.length : Int) < (l2.length : Int)) := by omega
  have hcf : ∀ c ∈ l2, B.confB c.f1.f0 = !P.plain c := by have := HCf.out; rwa [List.take_length] at this
  obtain ⟨want, hwa⟩ : ∃ z, z = (l2.filter P.plain).map (·.f12) := ⟨_, rfl⟩
  have hrw := RW.out
  rw [List.take_length, ← hwa] at hrw
  obtain rfl := (Kd.R_reads' hrw).1
  have RWz := Aside0.mk hrw
  clear RW hrw
  obtain ⟨fo, hfo⟩ : ∃ fo, fo = (l2.map P.cred).find? (fun c => decide (c.server.names = l3)) := ⟨_, rfl⟩
  have HFO := Aside0.mk hfo
  have HWA := Aside0.mk (show ((l2.map P.cred).filter B.Told1).map B.tkS = want from by rw [hwa]; exact P.filter_plain hcf)
  clear hwa hcf HCf hlt hk
  have HAT := Aside0.mk (show (n = -1 ∧ fo = none) ∨ ∃ (j : Nat) (c : S36), n = (j : Int) ∧ l2[j]? = some c ∧ fo = some (P.cred c) from by rw [hfo]; exact HA.out.last)
  clear HA hfo
  go_upto_region 17 with fail
  obtain ⟨wx, hwx⟩ : ∃ x, x = wr.drew := ⟨_, rfl⟩
  have hbd : Below wr.heap.size wr wx := hwx ▸ below_drew (Below.refl _ _)
  have HBc := Aside0.mk (blk_below HB.out hbd)
  have RWc := Aside0.mk (Kd.R_below RWz.out hbd)
  have BLc := Aside0.mk (below_step BL.out hbd)
  have HWX := Aside0.mk hwx
  clear HB RWz BL hbd hwx
  refine start_ (n := 22) (S := fun w' => w'.cell? ⟨gb, 0, none⟩ = some (.string a1_0) ∧ w'.cell? ⟨gb, 1, none⟩ = some (.slice A1_1 l1_1.length c1_1) ∧ w'.cell? ⟨gb, 2, none⟩ = some (.int .i32 a1_2)) (ds := []) #[false, false, false, false, false, false, false, false, false, false, false, false, false, false, false, false, false, false, false, false, false, false] (by kernel_rfl) rfl rfl ⟨(HWX.out ▸ (show _ from (blk_cell HBc.out 0).trans rfl)), (HWX.out ▸ (show _ from (blk_cell HBc.out 1).trans rfl)), (HWX.out ▸ (show _ from (blk_cell HBc.out 2).trans rfl))⟩ (fun hHeld => ?_)
  rw [← HWX.out] at hHeld ⊢
  clear HWX
  refine pure_ (i := 0) (N := some 87) (v := ?_) (a' := ?_) #[true, false, false, false, false, false, false, false, false, false, false, false, false, false, false, false, false, false, false, false, false, false] rfl rfl (by kernel_rfl) (fun _ _ _ h => h) (Or.inl ⟨by rfl, ?_⟩) ?_ ?_
  rotate_left
  · intro w'
    go_simp
    with_reducible rfl
  rotate_left
  · simp only [Act.put, List.setIfInBounds_toArray, List.set_cons_zero, List.set_cons_succ, i64_w, i32_w]
    rfl
  refine pure_ (i := 3) (N := some 90) (v := ?_) (a' := ?_) #[true, false, false, true, false, false, false, false, false, false, false, false, false, false, false, false, false, false, false, false, false, false] rfl rfl (by kernel_rfl) (fun _ _ _ h => h) (Or.inl ⟨by rfl, ?_⟩) ?_ ?_
  rotate_left
  · intro w'
    go_simp
    with_reducible rfl
  rotate_left
  · simp only [Act.put, List.setIfInBounds_toArray, List.set_cons_zero, List.set_cons_succ, i64_w, i32_w]
    rfl
  refine pure_ (i := 5) (N := some 92) (v := ?_) (a' := ?_) #[true, false, false, true, false, true, false, false, false, false, false, false, false, false, false, false, false, false, false, false, false, false] rfl rfl (by kernel_rfl) (fun _ _ _ h => h) (Or.inl ⟨by rfl, ?_⟩) ?_ ?_
  rotate_left
  · intro w'
    go_simp
    with_reducible rfl
  rotate_left
  · simp only [Act.put, List.setIfInBounds_toArray, List.set_cons_zero, List.set_cons_succ, i64_w, i32_w]
    rfl
  refine take_ (i := 2) (N := some 89) (v := ?_) (a' := ?_) #[true, false, true, true, false, true, false, false, false, false, false, false, false, false, false, false, false, false, false, false, false, false] rfl rfl (by kernel_rfl) (fun _ _ _ h => h) (Or.inl ⟨by rfl, ?_⟩) hHeld ?_ ?_
  rotate_left
  · rintro w' ⟨s0, s1, s2⟩
    go_simp
    with_reducible rfl
  rotate_left
  · simp only [Act.put, List.setIfInBounds_toArray, List.set_cons_zero, List.set_cons_succ, i64_w, i32_w]
    rfl
  refine one_ (i := 1) (N := some 88) #[true, true, true, true, false, true, false, false, false, false, false, false, false, false, false, false, false, false, false, false, false, false] rfl rfl (by kernel_rfl) (by decide) (fun K hK => ?_)
  refine goes_ Try.func13 (by kernel_rfl) rfl #[.int .u8 a0] (by rfl) rfl rfl (by simp only [List.map_toArray, List.map_cons, List.map_nil]; rfl) ?_
  with_reducible refine (laws_ccVersion.calls a0 (v : Int) _ HVF.out).mono ?_
  rintro e wy ⟨rfl, hdr_⟩
  refine ⟨_, rfl, ?_⟩
  have hb_ := hdr_.below
  have t1_ := Aside0.mk (blk_below HBc.out hb_)
  have t2_ := Aside0.mk (below_step BLc.out hb_)
  have t3_ := Aside0.mk (Kd.R_below RWc.out hb_)
  clear HBc BLc RWc
  have HBc := t1_
  have BLc := t2_
  have RWc := t3_
  clear t1_ t2_ t3_
  clear hb_ hdr_
  refine hK.out _ _ ⟨(blk_cell HBc.out 0).trans rfl, (blk_cell HBc.out 1).trans rfl, (blk_cell HBc.out 2).trans rfl⟩ (fun hHeld => ?_)
  clear hK K
  refine norm_ (a' := ?_) ?_ ?_
  rotate_left
  · show Act.put _ (some 88) _ = _
    simp only [Act.put, List.setIfInBounds_toArray, List.set_cons_zero, List.set_cons_succ, i64_w, i32_w]
    rfl
  refine one_ (i := 4) (N := some 91) #[true, true, true, true, true, true, false, false, false, false, false, false, false, false, false, false, false, false, false, false, false, false] rfl rfl (by kernel_rfl) (by decide) (fun K hK => ?_)
  have hcall := spec_CacheBytes.calls 30 (v : Int) none 0 [] a1_0 A1_1 c1_1 l1_1 a1_2 A2 c2 l2 data _ (Kd.R_reads' (Kd.R_nil (Kd.int .u64) 0 _ 0 (fun _ => True))).2.2 (Nat.le_refl _) (Kd.C_below R1.out BLc.out) C1.out (Kd.C_below R2.out BLc.out) C2.out CF.out
  rw [List.length_nil] at hcall
  refine goes_ Try.func12 (by kernel_rfl) rfl #[.int .u8 (v : Int), .slice none 0 0, .agg #[.string a1_0, .slice A1_1 l1_1.length c1_1, .int .i32 a1_2], .slice A2 l2.length c2] (by rfl) rfl rfl (by simp only [List.map_toArray, List.map_cons, List.map_nil]; rfl) ?_
  with_reducible refine (hcall).mono ?_
  rintro e wy ⟨rfl, hb_⟩
  refine ⟨_, rfl, ?_⟩
  clear hcall
  have t1_ := Aside0.mk (blk_below HBc.out hb_)
  have t2_ := Aside0.mk (below_step BLc.out hb_)
  have t3_ := Aside0.mk (Kd.R_below RWc.out hb_)
  clear HBc BLc RWc
  have HBc := t1_
  have BLc := t2_
  have RWc := t3_
  clear t1_ t2_ t3_
  clear hb_
  refine hK.out _ _ ⟨(blk_cell HBc.out 0).trans rfl, (blk_cell HBc.out 1).trans rfl, (blk_cell HBc.out 2).trans rfl⟩ (fun hHeld => ?_)
  clear hK K
  refine norm_ (a' := ?_) ?_ ?_
  rotate_left
  · show Act.put _ (some 91) _ = _
    simp only [Act.put, List.setIfInBounds_toArray, List.set_cons_zero, List.set_cons_succ, i64_w, i32_w]
    rfl
  refine one_ (i := 6) (N := some 93) #[true, true, true, true, true, true, true, false, false, false, false, false, false, false, false, false, false, false, false, false, false, false] rfl rfl (by kernel_rfl) (by decide) (fun K hK => ?_)
  have hcall := B.cacheAsk_any data A3 c3 l3 _ AK.out.size v _ _ _ AK.out.head AK.out.read HRS.out (Kd.C_below R3.out BLc.out)
  rw [← HFO.out, HWA.out] at hcall
  refine goes_ Try.func23 (by kernel_rfl) rfl #[.string data, .slice A3 l3.length c3] (by rfl) rfl rfl (by simp only [List.map_toArray, List.map_cons, List.map_nil]; rfl) ?_
  with_reducible refine (hcall).mono ?_
  rintro e wy ⟨v1_, v2_, rfl, hv1, hv2, hb_⟩
  clear hcall
  change Kd.string.R 9 _ _ _ v1_ l1_1 at hv1
  obtain ⟨AX, cX, rfl⟩ := Kd.R_slice hv1
  obtain ⟨AY, cY, rfl⟩ := Kd.R_slice hv2
  refine ⟨_, rfl, ?_⟩
  have RXc := Aside0.mk (Kd.R_lower hv1 BLc.out.size)
  have RYc := Aside0.mk (Kd.R_lower hv2 BLc.out.size)
  have t1_ := Aside0.mk (blk_below HBc.out hb_)
  have t2_ := Aside0.mk (below_step BLc.out hb_)
  have t3_ := Aside0.mk (Kd.R_below RWc.out hb_)
  clear HBc BLc RWc
  have HBc := t1_
  have BLc := t2_
  have RWc := t3_
  clear t1_ t2_ t3_
  clear hb_ hv1 hv2
  refine hK.out _ _ ⟨(blk_cell HBc.out 0).trans rfl, (blk_cell HBc.out 1).trans rfl, (blk_cell HBc.out 2).trans rfl⟩ (fun hHeld => ?_)
  clear hK K
  refine norm_ (a' := ?_) ?_ ?_
  rotate_left
  · show Act.put _ (some 93) _ = _
    simp only [Act.put, List.setIfInBounds_toArray, List.set_cons_zero, List.set_cons_succ, i64_w, i32_w]
    rfl
  refine pure_ (i := 7) (N := some 86) (v := ?_) (a' := ?_) #[true, true, true, true, true, true, true, true, false, false, false, false, false, false, false, false, false, false, false, false, false, false] rfl rfl (by kernel_rfl) (fun _ _ _ h => h) (Or.inl ⟨by rfl, ?_⟩) ?_ ?_
  rotate_left
  · intro w'
    go_simp
    with_reducible rfl
  rotate_left
  · simp only [Act.put, List.setIfInBounds_toArray, List.set_cons_zero, List.set_cons_succ, i64_w, i32_w]
    rfl
  refine pure_ (i := 8) (N := some 94) (v := ?_) (a' := ?_) #[true, true, true, true, true, true, true, true, true, false, false, false, false, false, false, false, false, false, false, false, false, false] rfl rfl (by kernel_rfl) (fun _ _ _ h => h) (Or.inl ⟨by rfl, ?_⟩) ?_ ?_
  rotate_left
  · intro w'
    go_simp
    with_reducible rfl
  rotate_left
  · simp only [Act.put, List.setIfInBounds_toArray, List.set_cons_zero, List.set_cons_succ, i64_w, i32_w]
    rfl
  refine pure_ (i := 9) (N := some 95) (v := ?_) (a' := ?_) #[true, true, true, true, true, true, true, true, true, true, false, false, false, false, false, false, false, false, false, false, false, false] rfl rfl (by kernel_rfl) (fun _ _ _ h => h) (Or.inl ⟨by rfl, ?_⟩) ?_ ?_
  rotate_left
  · intro w'
    go_simp
    with_reducible rfl
  rotate_left
  · simp only [Act.put, List.setIfInBounds_toArray, List.set_cons_zero, List.set_cons_succ, i64_w, i32_w]
    rfl
  refine pure_ (i := 10) (N := some 96) (v := ?_) (a' := ?_) #[true, true, true, true, true, true, true, true, true, true, true, false, false, false, false, false, false, false, false, false, false, false] rfl rfl (by kernel_rfl) (fun _ _ _ h => h) (Or.inl ⟨by rfl, ?_⟩) ?_ ?_
  rotate_left
  · intro w'
    go_simp
    with_reducible rfl
  rotate_left
  · simp only [Act.put, List.setIfInBounds_toArray, List.set_cons_zero, List.set_cons_succ, i64_w, i32_w]
    rfl
  refine pure_ (i := 11) (N := some 97) (v := ?_) (a' := ?_) #[true, true, true, true, true, true, true, true, true, true, true, true, false, false, false, false, false, false, false, false, false, false] rfl rfl (by kernel_rfl) (fun _ _ _ h => h) (Or.inl ⟨by rfl, ?_⟩) ?_ ?_
  rotate_left
  · intro w'
    go_simp
    with_reducible rfl
  rotate_left
  · simp only [Act.put, List.setIfInBounds_toArray, List.set_cons_zero, List.set_cons_succ, i64_w, i32_w]
    rfl
  refine pure_ (i := 12) (N := some 98) (v := ?_) (a' := ?_) #[true, true, true, true, true, true, true, true, true, true, true, true, true, false, false, false, false, false, false, false, false, false] rfl rfl (by kernel_rfl) (fun _ _ _ h => h) (Or.inl ⟨by rfl, ?_⟩) ?_ ?_
  rotate_left
  · intro w'
    go_simp
    with_reducible rfl
  rotate_left
  · simp only [Act.put, List.setIfInBounds_toArray, List.set_cons_zero, List.set_cons_succ, i64_w, i32_w]
    rfl
  refine pure_ (i := 13) (N := some 99) (v := ?_) (a' := ?_) #[true, true, true, true, true, true, true, true, true, true, true, true, true, true, false, false, false, false, false, false, false, false] rfl rfl (by kernel_rfl) (fun _ _ _ h => h) (Or.inl ⟨by rfl, ?_⟩) ?_ ?_
  rotate_left
  · intro w'
    go_simp
    with_reducible rfl
  rotate_left
  · simp only [Act.put, List.setIfInBounds_toArray, List.set_cons_zero, List.set_cons_succ, i64_w, i32_w]
    rfl
  refine pure_ (i := 14) (N := some 100) (v := ?_) (a' := ?_) #[true, true, true, true, true, true, true, true, true, true, true, true, true, true, true, false, false, false, false, false, false, false] rfl rfl (by kernel_rfl) (fun _ _ _ h => h) (Or.inl ⟨by rfl, ?_⟩) ?_ ?_
  rotate_left
  · intro w'
    go_simp
    with_reducible rfl
  rotate_left
  · simp only [Act.put, List.setIfInBounds_toArray, List.set_cons_zero, List.set_cons_succ, i64_w, i32_w]
    rfl
  refine pure_ (i := 15) (N := some 13) (v := ?_) (a' := ?_) #[true, true, true, true, true, true, true, true, true, true, true, true, true, true, true, true, false, false, false, false, false, false] rfl rfl (by kernel_rfl) (fun _ _ _ h => h) (Or.inl ⟨by rfl, ?_⟩) ?_ ?_
  rotate_left
  · intro w'
    go_simp
    with_reducible rfl
  rotate_left
  · simp only [Act.put, List.setIfInBounds_toArray, List.set_cons_zero, List.set_cons_succ, i64_w, i32_w]
    rfl
  refine pure_ (i := 16) (N := some 14) (v := ?_) (a' := ?_) #[true, true, true, true, true, true, true, true, true, true, true, true, true, true, true, true, true, false, false, false, false, false] rfl rfl (by kernel_rfl) (fun _ _ _ h => h) (Or.inl ⟨by rfl, ?_⟩) ?_ ?_
  rotate_left
  · intro w'
    go_simp
    with_reducible rfl
  rotate_left
  · simp only [Act.put, List.setIfInBounds_toArray, List.set_cons_zero, List.set_cons_succ, i64_w, i32_w]
    rfl
  refine pure_ (i := 17) (N := some 15) (v := ?_) (a' := ?_) #[true, true, true, true, true, true, true, true, true, true, true, true, true, true, true, true, true, true, false, false, false, false] rfl rfl (by kernel_rfl) (fun _ _ _ h => h) (Or.inl ⟨by rfl, ?_⟩) ?_ ?_
  rotate_left
  · intro w'
    go_simp
    with_reducible rfl
  rotate_left
  · simp only [Act.put, List.setIfInBounds_toArray, List.set_cons_zero, List.set_cons_succ, i64_w, i32_w]
    rfl
  refine pure_ (i := 18) (N := some 16) (v := ?_) (a' := ?_) #[true, true, true, true, true, true, true, true, true, true, true, true, true, true, true, true, true, true, true, false, false, false] rfl rfl (by kernel_rfl) (fun _ _ _ h => h) (Or.inl ⟨by rfl, ?_⟩) ?_ ?_
  rotate_left
  · intro w'
    go_simp
    with_reducible rfl
  rotate_left
  · simp only [Act.put, List.setIfInBounds_toArray, List.set_cons_zero, List.set_cons_succ, i64_w, i32_w]
    rfl
  refine pure_ (i := 19) (N := some 17) (v := ?_) (a' := ?_) #[true, true, true, true, true, true, true, true, true, true, true, true, true, true, true, true, true, true, true, true, false, false] rfl rfl (by kernel_rfl) (fun _ _ _ h => h) (Or.inl ⟨by rfl, ?_⟩) ?_ ?_
  rotate_left
  · intro w'
    go_simp
    with_reducible rfl
  rotate_left
  · simp only [Act.put, List.setIfInBounds_toArray, List.set_cons_zero, List.set_cons_succ, i64_w, i32_w]
    rfl
  refine pure_ (i := 20) (N := some 18) (v := ?_) (a' := ?_) #[true, true, true, true, true, true, true, true, true, true, true, true, true, true, true, true, true, true, true, true, true, false] rfl rfl (by kernel_rfl) (fun _ _ _ h => h) (Or.inl ⟨by rfl, ?_⟩) ?_ ?_
  rotate_left
  · intro w'
    go_simp
    with_reducible rfl
  rotate_left
  · simp only [Act.put, List.setIfInBounds_toArray, List.set_cons_zero, List.set_cons_succ, i64_w, i32_w]
    rfl
  refine pure_ (i := 21) (N := some 19) (v := ?_) (a' := ?_) #[true, true, true, true, true, true, true, true, true, true, true, true, true, true, true, true, true, true, true, true, true, true] rfl rfl (by kernel_rfl) (fun _ _ _ h => h) (Or.inl ⟨by rfl, ?_⟩) ?_ ?_
  rotate_left
  · intro w'
    go_simp
    with_reducible rfl
  rotate_left
  · simp only [Act.put, List.setIfInBounds_toArray, List.set_cons_zero, List.set_cons_succ, i64_w, i32_w]
    rfl
  refine done_ (by kernel_rfl) ?_
  
  clear hHeld
  try clear CF
  go_wp2_with fail
  refine (laws_ccAwake.any _).mono ?_
  rintro e w8 ⟨rfl, hb⟩
  have HB8 := Aside0.mk (blk_below HBc.out hb)
  have RW8 := Aside0.mk (Kd.R_below RWc.out hb)
  have RX8 := Aside0.mk (Kd.R_below RXc.out hb)
  have RY8 := Aside0.mk (Kd.R_below RYc.out hb)
  have BL8 := Aside0.mk (below_step BLc.out hb)
  clear hb HBc RWc RXc RYc BLc
  have hss : ((P.prin ⟨a1_0, l1_1, a1_2⟩).realm.toList == a1_0.toList) = true := beq_self_eq_true a1_0.toList
  have hst : ((P.prin ⟨a1_0, l1_1, a1_2⟩).realm.toList != a1_0.toList) = false := by rw [bne, hss]; rfl
  have k0 : w8.cell? ⟨gb, 0, none⟩ = some (.string a1_0) := (blk_cell HB8.out 0).trans rfl
  have k1 : w8.cell? ⟨gb, 1, none⟩ = some (.slice A1_1 l1_1.length c1_1) := (blk_cell HB8.out 1).trans rfl
  go_wp2_with fail
  refine (slices_Equal_string_string.same l1_1 AX A1_1 cX c1_1 _ (Kd.R_reads' RX8.out).2.2 (Kd.C_below R1.out BL8.out)).mono ?_
  rintro e w9 ⟨rfl, hb⟩
  clear k0 k1
  have HB9 := Aside0.mk (blk_below HB8.out hb)
  have RW9 := Aside0.mk (Kd.R_below RW8.out hb)
  have RX9 := Aside0.mk (Kd.R_below RX8.out hb)
  have RY9 := Aside0.mk (Kd.R_below RY8.out hb)
  have BL9 := Aside0.mk (below_step BL8.out hb)
  clear hb HB8 RW8 RX8 RY8 BL8
  go_wp2_with fail
  refine (slices_Equal_string_string.same want AY Aw cY cw _ (Kd.R_reads' RY9.out).2.2 (Kd.R_reads' RW9.out).2.2).mono ?_
  rintro e w10 ⟨rfl, hb⟩
  have HB10 := Aside0.mk (blk_below HB9.out hb)
  have RW10 := Aside0.mk (Kd.R_below RW9.out hb)
  have RX10 := Aside0.mk (Kd.R_below RX9.out hb)
  have RY10 := Aside0.mk (Kd.R_below RY9.out hb)
  have BL10 := Aside0.mk (below_step BL9.out hb)
  clear hb HB9 RW9 RX9 RY9 BL9
  rcases HAT.out with ⟨rfl, rfl⟩ | ⟨j, c, rfl, hj, rfl⟩
  · clear HAT HFO
    go_wp2
    go_ret
    exact ⟨rfl, BL10.out⟩
  · clear HAT HFO
    have hjl : j < l2.length := (List.getElem?_eq_some_iff.1 hj).1
    have hj1 : (j : Int) < (l2.length : Int) := by omega
    have hj0 : (0 : Int) ≤ (j : Int) := by omega
    have hj2 : ¬ (j : Int) < 0 := by omega
    obtain ⟨ad, X1, d1, X4, d4, X14, d14, X15, d15, rfl, hcells, -, -, -, -, -, -, -, -⟩ := pw_row36 (Kd.C_below R2.out BL10.out) j hjl
    have hgd : l2.getD j z36 = c := Option.some.inj ((pw_at36 hjl).symm.trans hj)
    rw [hgd] at hcells
    have k16 : w10.cell? ⟨(ad.add (j * 18)).block, (ad.add (j * 18)).off + 16, none⟩ = some (.string c.f12) := by have h_ := hcells 16 (.string c.f12) rfl; rwa [Addr.add, if_neg (by decide)] at h_
    have hs2 : ((strOfNums (bytesOf c.f12)).toList == c.f12.toList) = true := by rw [P.strOf_bytesOf]; exact beq_self_eq_true _
    have ht : B.ticketOf (some (P.cred c)) = bytesOf c.f12 := rfl
    clear hcells hgd hj hjl
    go_wp2
    go_ret
    exact ⟨rfl, BL10.out⟩

end Go.Proofs.Ytnipcocllhfaoaa.A

/- Go functions of this seat come to the answers of the Lean functions that stand here ('.calls'), under what each theorem states and nothing else. Written by pw.py, a program of this session, with texts of its own. -/
import Derived.Test.YtnipcocllhfaoaaA0
import Derived.Test.YtnipcocllhfaoaaA1
import Derived.Test.YtnipcocllhfaoaaA2
import Derived.Test.YtnipcocllhfaoaaA3
import Derived.Test.YtnipcocllhfaoaaA6
import Derived.Test.YtnipcocllhfaoaaA7
import Derived.Test.YtnipcocllhfaoaaA8
import Derived.Test.YtnipcocllhfaoaaA9
import Derived.Test.YtnipcocllhfaoaaA10
import Derived.Test.YtnipcocllhfaoaaA13
import Derived.Test.YtnipcocllhfaoaaP3
namespace Go.Proofs.Ytnipcocllhfaoaa.A
open Go.RowKit Go.Proofs.YtnipcocllhfaoaaW.PrintWords Go.Proofs.YtnipcocllhfaoaaW.PrintLast
open Go.Proofs.Ytnipcocllhfaoaa.B (gate_callee gate_builtin)
set_option linter.unusedVariables false
set_option linter.unusedSimpArgs false
set_option maxRecDepth 100000

/-! ### laws_FnCcRead: function 5 -/
-- EXT rounds=0 making=1
-- NEEDS 7 8 9 10 11 12 13 15 18 19
theorem laws_FnCcRead.version (a : Int) (h : (Lit.int .u8 a).wf = true) : ∃ v : Nat, (v = 3 ∨ v = 4) ∧ laws_ccVersion.f a = some (v : Int) := by
  have h0 : 0 ≤ a := by simp [Lit.wf, IntKind.min, IntKind.max, IntKind.bits, IntKind.signed] at h; omega
  have e : Int.tmod a 2 = a % 2 := Int.tmod_eq_emod_of_nonneg h0
  unfold laws_ccVersion.f
  rw [e]
  rcases (show a % 2 = 0 ∨ a % 2 = 1 by omega) with h2 | h2
  · exact ⟨3, Or.inl rfl, by rw [h2]; rfl⟩
  · exact ⟨4, Or.inr rfl, by rw [h2]; rfl⟩
set_option maxHeartbeats 16000000 in
theorem laws_FnCcRead.walk (a0 : Int) (A1 : Option Addr) (c1 : Nat) (l1 : List Int) (a2_0 : ByteArray) (A2_1 : Option Addr) (c2_1 : Nat) (l2_1 : List ByteArray) (a2_2 : Int) (A3 : Option Addr) (c3 : Nat) (l3 : List (S36)) (w : World) (hr1 : Kd.C (Kd.int .u64) w A1 l1.length l1) (hc1 : l1.length ≤ c1) (hr2_1 : Kd.C Kd.string w A2_1 l2_1.length l2_1) (hc2_1 : l2_1.length ≤ c2_1) (hr3 : Kd.C k36 w A3 l3.length l3) (hc3 : l3.length ≤ c3) (g0 : (Lit.int .u8 a0).wf = true) (g1 : l1.length ≤ 9223372036854775807 ∧ ∀ y0_ : Int, y0_ ∈ l1 → (Lit.int .u64 y0_).wf = true) (g2_0 : a2_0.size ≤ maxLen) (g2_1 : l2_1.length ≤ 9223372036854775807 ∧ ∀ y0_ : ByteArray, y0_ ∈ l2_1 → y0_.size ≤ maxLen) (g2_2 : (Lit.int .i32 a2_2).wf = true) (g3 : l3.length ≤ 9223372036854775807 ∧ ∀ y0_ : S36, y0_ ∈ l3 → ((y0_.f0.f0.size ≤ maxLen) ∧ (y0_.f0.f1.length ≤ 9223372036854775807 ∧ ∀ y1_ : ByteArray, y1_ ∈ y0_.f0.f1 → y1_.size ≤ maxLen) ∧ ((Lit.int .i32 y0_.f0.f2).wf = true)) ∧ ((y0_.f1.f0.size ≤ maxLen) ∧ (y0_.f1.f1.length ≤ 9223372036854775807 ∧ ∀ y1_ : ByteArray, y1_ ∈ y0_.f1.f1 → y1_.size ≤ maxLen) ∧ ((Lit.int .i32 y0_.f1.f2).wf = true)) ∧ ((Lit.int .i32 y0_.f2).wf = true) ∧ (y0_.f3.size ≤ maxLen) ∧ ((Lit.int .i64 y0_.f4).wf = true) ∧ ((Lit.int .i64 y0_.f5).wf = true) ∧ ((Lit.int .i64 y0_.f6).wf = true) ∧ ((Lit.int .i64 y0_.f7).wf = true) ∧ ((Lit.int .u32 y0_.f9).wf = true) ∧ (y0_.f10.length ≤ 9223372036854775807 ∧ ∀ y1_ : S63, y1_ ∈ y0_.f10 → ((Lit.int .i32 y1_.f0).wf = true) ∧ (y1_.f1.size ≤ maxLen)) ∧ (y0_.f11.length ≤ 9223372036854775807 ∧ ∀ y1_ : S63, y1_ ∈ y0_.f11 → ((Lit.int .i32 y1_.f0).wf = true) ∧ (y1_.f1.size ≤ maxLen)) ∧ (y0_.f12.size ≤ maxLen) ∧ (y0_.f13.size ≤ maxLen)) :
    Calls Try.prog 5 #[.int .u8 a0, .slice A1 l1.length c1, .agg #[.string a2_0, .slice A2_1 l2_1.length c2_1, .int .i32 a2_2], .slice A3 l3.length c3] w fun e w' => e = .returned (.bool true) ∧ Below w.heap.size w w' := by
  have R1 := Aside0.mk hr1
  have R2 := Aside0.mk hr2_1
  have C2 := Aside0.mk hc2_1
  have R3 := Aside0.mk hr3
  have C3 := Aside0.mk hc3
  have C1 := Aside0.mk hc1
  have G22 := Aside0.mk g2_2
  have G3 := Aside0.mk g3
  have G0 := Aside0.mk g0
  have G1 := Aside0.mk g1
  clear hr1 hr2_1 hc2_1 hr3 hc3 hc1 g2_2 g3 g0 g1 g2_0 g2_1
  have hu24 := Try.underlying24
  have hu37 := Try.underlying37
  have hsz24 : (Try.prog.info? 24).map (·.size) = some 3 := by kernel_rfl
  have HS24 := Aside0.mk hsz24
  clear hsz24
  have hsz37 : (Try.prog.info? 37).map (·.size) = some 3 := by kernel_rfl
  have HS37 := Aside0.mk hsz37
  clear hsz37
  obtain ⟨b1, K1, hb1⟩ := P.fits13 a2_0 l2_1 a2_2
  obtain ⟨b2, K2, hb2⟩ := P.fits14 l3
  have E1 := Aside0.mk (hb1 K1 (Nat.le_refl _))
  have E2 := Aside0.mk (hb2 K2 (Nat.le_refl _))
  clear hb1 hb2
  go_enter Try.func5, Try.ntmps5
  go_upto_region 1 with (first | ((with_reducible refine gate_dst (N := 6) rfl ?_); refine box_event ?hg (N := 6) ?hd (cs := #[.string a2_0, .slice A2_1 l2_1.length c2_1, .int .i32 a2_2]) (t := 24) ?hr ?_; (case hd => rfl); (case hg => rfl); (case hr => first | (go_simp; done) | (go_simp; rfl)); intro gb hgb w1 hbox hb; have HB1 := Aside0.mk hbox; have BL1 := Aside0.mk hb; clear hbox hb hgb) | fail)
  by_cases z1 : (l1.length : Int) > 2147483647
  case pos =>
    have za : decide (2147483647 < (l1.length : Int)) = true := decide_eq_true z1
    have zb : decide (2147483647 < l1.length) = true := decide_eq_true (by omega)
    clear z1
    go_wp2
    go_ret
    exact ⟨rfl, BL1.out⟩
  have z1a : decide (2147483647 < (l1.length : Int)) = false := decide_eq_false z1
  have z1b : decide (2147483647 < l1.length) = false := decide_eq_false (by omega)
  clear z1
  go_wp2_with (first | ((with_reducible refine gate_dst (N := 17) rfl ?_); (try (refine gate_guard (by rfl) ?_; dsimp only)); refine B.row_event ?hg (N := 17) ?hd 24 (.tmp 6) gb 24 #[.string a2_0, .slice A2_1 l2_1.length c2_1, .int .i32 a2_2] _ ?ho ?hx HB1.out Try.underlying24 ?hq ?hi ?_; (case hg => rfl); (case hd => rfl); (case ho => rfl); (case hx => first | rfl | (go_simp; done)); (case hq => rfl); (case hi => exact HS24.out)) | fail)
  refine (laws_zzFits13.calls K1 a2_0 _ _ l2_1 a2_2 b1 _ (Kd.C_below R2.out BL1.out) C2.out E1.out).mono ?_
  rintro e w2 ⟨rfl, hb⟩
  have HB2 := Aside0.mk (blk_below HB1.out hb)
  have BL2 := Aside0.mk (below_step BL1.out hb)
  clear hb HB1 BL1
  cases b1 with
  | false =>
    go_wp2
    go_ret
    exact ⟨rfl, BL2.out⟩
  | true =>
  go_wp2_with fail
  refine (laws_zzFits14.calls K2 _ _ l3 b2 _ (Kd.C_below R3.out BL2.out) C3.out E2.out).mono ?_
  rintro e w3 ⟨rfl, hb⟩
  have HB3 := Aside0.mk (blk_below HB2.out hb)
  have BL3 := Aside0.mk (below_step BL2.out hb)
  clear hb HB2 BL2
  cases b2 with
  | false =>
    go_wp2
    go_ret
    exact ⟨rfl, BL3.out⟩
  | true =>
  clear E1 E2 z1a z1b
  go_wp2_with (first | ((with_reducible refine gate_dst (N := 26) rfl ?_); (try (refine gate_guard (by rfl) ?_; dsimp only)); refine B.row_event ?hg (N := 26) ?hd 24 (.tmp 6) gb 24 #[.string a2_0, .slice A2_1 l2_1.length c2_1, .int .i32 a2_2] _ ?ho ?hx HB3.out Try.underlying24 ?hq ?hi ?_; (case hg => rfl); (case hd => rfl); (case ho => rfl); (case hx => first | rfl | (go_simp; done)); (case hq => rfl); (case hi => exact HS24.out)) | fail)
  obtain ⟨b3, hb3⟩ : ∃ b, spec_CredsRight.name ⟨a2_0, l2_1, a2_2⟩ = b := ⟨_, rfl⟩
  have n3 := spec_CredsRight.name_any ⟨a2_0, l2_1, a2_2⟩ A2_1 c2_1 w3 (Kd.C_below R2.out BL3.out) C2.out
  rw [hb3] at n3
  have E3 := Aside0.mk hb3
  clear hb3
  refine n3.mono ?_
  clear n3
  rintro e w4 ⟨rfl, hb⟩
  have HB4 := Aside0.mk (blk_below HB3.out hb)
  have BL4 := Aside0.mk (below_step BL3.out hb)
  clear hb HB3 BL3
  cases b3 with
  | false =>
    go_wp2_with fail
    refine (laws_ccAwake.any _).mono ?_
    rintro e wz ⟨rfl, hb⟩
    have BZ := Aside0.mk (below_step BL4.out hb)
    clear hb
    go_wp2
    go_ret
    exact ⟨rfl, BZ.out⟩
  | true =>
  obtain ⟨b4, hb4⟩ : ∃ b, (decide (l3.length ≤ 12) && l3.all spec_CredsRight.cred) = b := ⟨_, rfl⟩
  have hf4 : spec_CredsRight.f l3 = some b4 := congrArg some hb4
  have E4 := Aside0.mk hb4
  have F4 := Aside0.mk hf4
  clear hb4 hf4
  go_wp2_with fail
  refine (spec_CredsRight.calls _ _ l3 b4 _ (Kd.C_below R3.out BL4.out) C3.out F4.out).mono ?_
  rintro e w5 ⟨rfl, hb⟩
  have HB5 := Aside0.mk (blk_below HB4.out hb)
  have BL5 := Aside0.mk (below_step BL4.out hb)
  clear hb HB4 BL4
  cases b4 with
  | false =>
    go_wp2_with fail
    refine (laws_ccAwake.any _).mono ?_
    rintro e wz ⟨rfl, hb⟩
    have BZ := Aside0.mk (below_step BL5.out hb)
    clear hb
    go_wp2
    go_ret
    exact ⟨rfl, BZ.out⟩
  | true =>
  by_cases z1 : l1.length ≤ 3
  case neg =>
    have za : decide (3 < (l1.length : Int)) = true := decide_eq_true (by omega)
    have zb : decide (3 < l1.length) = true := decide_eq_true (by omega)
    clear z1
    go_wp2_with fail
    refine (laws_ccAwake.any _).mono ?_
    rintro e wz ⟨rfl, hb⟩
    have BZ := Aside0.mk (below_step BL5.out hb)
    clear hb
    go_wp2
    go_ret
    exact ⟨rfl, BZ.out⟩
  have z1a : decide (3 < (l1.length : Int)) = false := decide_eq_false (by omega)
  have z1b : decide (3 < l1.length) = false := decide_eq_false (by omega)
  have hall : l3.length ≤ 12 ∧ ∀ c ∈ l3, spec_CredsRight.cred c = true := by have := E4.out; simpa using this
  have OKN := Aside0.mk (P.name_ok E3.out G22.out)
  have OKC := Aside0.mk (show ∀ d ∈ l3, P.OkCred d from fun d hd => P.cred_ok (hall.2 d hd) (G3.out.2 d hd).1.2.2 (G3.out.2 d hd).2.1.2.2 (G3.out.2 d hd).2.2.2.2.2.2.2.2.1)
  have HN := Aside0.mk (And.intro z1 hall.1)
  clear hall z1 E4 E3 F4
  obtain ⟨v, hv, hvf⟩ := laws_FnCcRead.version a0 G0.out
  have HVF := Aside0.mk hvf
  clear hvf
  obtain ⟨data, hda⟩ : ∃ s, s = strOfNums (P.eCache v l1 ⟨a2_0, l2_1, a2_2⟩ l3) := ⟨_, rfl⟩
  have CF := Aside0.mk (show spec_CacheBytes.f 30 (v : Int) l1 a2_0 l2_1 a2_2 l3 = some data from by rw [hda]; exact P.cache_str hv (offs := l1) (P.u64s_ok G1.out.2) (by have := HN.out; omega) OKN.out OKC.out HN.out.2 (by omega))
  have RF := Aside0.mk (show impl_CacheRead.f data = some ((v : Int), a2_0, l2_1, a2_2, l3.map (fun c => B.toCred (P.cred c)), true) from by rw [hda]; exact P.read_full hv (offs := l1) (by have := HN.out; omega) OKN.out OKC.out HN.out.2)
  clear hda hv
  obtain ⟨xs, hxs⟩ : ∃ z, z = l3.map (fun c => B.toCred (P.cred c)) := ⟨_, rfl⟩
  have HXL := Aside0.mk (show ∀ x ∈ xs, x.f10.length ≤ 1000000 ∧ x.f11.length ≤ 1000000 from by rw [hxs]; exact P.small_parts OKC.out)
  have HXM := Aside0.mk (show xs.map laws_ofCred.of = l3 from by rw [hxs]; exact P.creds_back OKC.out)
  have HXN := Aside0.mk (show l3.length = xs.length from by rw [hxs, List.length_map])
  have rf := RF.out
  rw [← hxs] at rf
  clear RF
  have RF := Aside0.mk rf
  clear rf hxs HN OKN OKC G1 G22 G3
  go_upto_region 5 with fail
  clear z1a z1b
  obtain ⟨wx, hwx⟩ : ∃ x, x = w5.drew := ⟨_, rfl⟩
  have hbd : Below w5.heap.size w5 wx := hwx ▸ below_drew (Below.refl _ _)
  have HBc := Aside0.mk (blk_below HB5.out hbd)
  have BLc := Aside0.mk (below_step BL5.out hbd)
  have HWX := Aside0.mk hwx
  clear HB5 BL5 hbd hwx
  refine start_ (n := 17) (S := fun w' => w'.cell? ⟨gb, 0, none⟩ = some (.string a2_0) ∧ w'.cell? ⟨gb, 1, none⟩ = some (.slice A2_1 l2_1.length c2_1) ∧ w'.cell? ⟨gb, 2, none⟩ = some (.int .i32 a2_2)) (ds := []) #[false, false, false, false, false, false, false, false, false, false, false, false, false, false, false, false, false] (by kernel_rfl) rfl rfl ⟨(HWX.out ▸ (show _ from (blk_cell HBc.out 0).trans rfl)), (HWX.out ▸ (show _ from (blk_cell HBc.out 1).trans rfl)), (HWX.out ▸ (show _ from (blk_cell HBc.out 2).trans rfl))⟩ (fun hHeld => ?_)
  rw [← HWX.out] at hHeld ⊢
  clear HWX
  refine pure_ (i := 0) (N := some 41) (v := ?_) (a' := ?_) #[true, false, false, false, false, false, false, false, false, false, false, false, false, false, false, false, false] rfl rfl (by kernel_rfl) (fun _ _ _ h => h) (Or.inl ⟨by rfl, ?_⟩) ?_ ?_
  rotate_left
  · intro w'
    go_simp
    with_reducible rfl
  rotate_left
  · simp only [Act.put, List.setIfInBounds_toArray, List.set_cons_zero, List.set_cons_succ, i64_w, i32_w]
    rfl
  refine pure_ (i := 2) (N := some 43) (v := ?_) (a' := ?_) #[true, false, true, false, false, false, false, false, false, false, false, false, false, false, false, false, false] rfl rfl (by kernel_rfl) (fun _ _ _ h => h) (Or.inl ⟨by rfl, ?_⟩) ?_ ?_
  rotate_left
  · intro w'
    go_simp
    with_reducible rfl
  rotate_left
  · simp only [Act.put, List.setIfInBounds_toArray, List.set_cons_zero, List.set_cons_succ, i64_w, i32_w]
    rfl
  refine pure_ (i := 4) (N := some 45) (v := ?_) (a' := ?_) #[true, false, true, false, true, false, false, false, false, false, false, false, false, false, false, false, false] rfl rfl (by kernel_rfl) (fun _ _ _ h => h) (Or.inl ⟨by rfl, ?_⟩) ?_ ?_
  rotate_left
  · intro w'
    go_simp
    with_reducible rfl
  rotate_left
  · simp only [Act.put, List.setIfInBounds_toArray, List.set_cons_zero, List.set_cons_succ, i64_w, i32_w]
    rfl
  refine take_ (i := 3) (N := some 44) (v := ?_) (a' := ?_) #[true, false, true, true, true, false, false, false, false, false, false, false, false, false, false, false, false] rfl rfl (by kernel_rfl) (fun _ _ _ h => h) (Or.inl ⟨by rfl, ?_⟩) hHeld ?_ ?_
  rotate_left
  · rintro w' ⟨s0, s1, s2⟩
    go_simp
    with_reducible rfl
  rotate_left
  · simp only [Act.put, List.setIfInBounds_toArray, List.set_cons_zero, List.set_cons_succ, i64_w, i32_w]
    rfl
  refine join_ (σ := Option Addr × Nat × Option Addr × Nat × Nat) 4 #[true, true, true, true, true, true, true, true, true, true, true, true, true, false, false, false, false] (fun s => [(42, .int .u8 (v : Int)), (46, .string data), (47, .tuple #[.int .u8 (v : Int), .agg #[.string a2_0, .slice s.1 l2_1.length s.2.1, .int .i32 a2_2], .slice s.2.2.1 xs.length s.2.2.2.1, .bool true]), (10, .pointer (some ⟨s.2.2.2.2, 0, none⟩)), (40, .tuple #[.int .u8 (v : Int), .agg #[.string a2_0, .slice s.1 l2_1.length s.2.1, .int .i32 a2_2], .slice s.2.2.1 xs.length s.2.2.2.1, .bool true]), (48, .int .u8 (v : Int)), (49, .agg #[.string a2_0, .slice s.1 l2_1.length s.2.1, .int .i32 a2_2]), (50, .slice s.2.2.1 xs.length s.2.2.2.1), (51, .bool true)]) (fun s w' => (w'.heap[gb]? = some (.cells #[.string a2_0, .slice A2_1 l2_1.length c2_1, .int .i32 a2_2] 24 (0, 0))) ∧ (w'.heap[s.2.2.2.2]? = some (.cells #[.string ⟨#[]⟩, .slice none 0 0, .int .i32 0] 37 (0, 0))) ∧ w.heap.size ≤ s.2.2.2.2 ∧ Kd.string.R 9 w' w.heap.size (fun _ => True) (.slice s.1 l2_1.length s.2.1) l2_1 ∧ k47.R 47 w' w.heap.size (fun _ => True) (.slice s.2.2.1 xs.length s.2.2.2.1) xs ∧ Below w.heap.size w w') ?_ ?_
  rotate_left
  · intro hCont
    refine two_ (i := 1) (j := 12) (Ni := some 42) (Nj := some 10) #[true, true, true, true, true, false, false, false, false, false, false, false, false, false, false, false, false] #[true, false, true, true, true, false, false, false, false, false, false, false, true, false, false, false, false] rfl rfl rfl rfl (by kernel_rfl) (by decide) (by decide) (fun K hK => ?_) (fun K hK => ?_)
    · skip
      refine goes_ Try.func13 (by kernel_rfl) rfl #[.int .u8 a0] (by rfl) rfl rfl (by simp only [List.map_toArray, List.map_cons, List.map_nil]; rfl) ?_
      with_reducible refine (laws_ccVersion.calls a0 (v : Int) _ HVF.out).mono ?_
      rintro e wy ⟨rfl, hdr_⟩
      refine ⟨_, rfl, ?_⟩
      have hb_ := hdr_.below
      have t1_ := Aside0.mk (blk_below HBc.out hb_)
      have t2_ := Aside0.mk (below_step BLc.out hb_)
      clear HBc BLc
      have HBc := t1_
      have BLc := t2_
      clear t1_ t2_
      clear hb_ hdr_
      refine hK.out _ _ ⟨(blk_cell HBc.out 0).trans rfl, (blk_cell HBc.out 1).trans rfl, (blk_cell HBc.out 2).trans rfl⟩ (fun hHeld => ?_)
      clear hK K
      refine norm_ (a' := ?_) ?_ ?_
      rotate_left
      · show Act.put _ (some 42) _ = _
        simp only [Act.put, List.setIfInBounds_toArray, List.set_cons_zero, List.set_cons_succ, i64_w, i32_w]
        rfl
      refine two_ (i := 5) (j := 12) (Ni := some 46) (Nj := some 10) #[true, true, true, true, true, true, false, false, false, false, false, false, false, false, false, false, false] #[true, true, true, true, true, false, false, false, false, false, false, false, true, false, false, false, false] rfl rfl rfl rfl (by kernel_rfl) (by decide) (by decide) (fun K hK => ?_) (fun K hK => ?_)
      · skip
        refine goes_ Try.func12 (by kernel_rfl) rfl #[.int .u8 (v : Int), .slice A1 l1.length c1, .agg #[.string a2_0, .slice A2_1 l2_1.length c2_1, .int .i32 a2_2], .slice A3 l3.length c3] (by rfl) rfl rfl (by simp only [List.map_toArray, List.map_cons, List.map_nil]; rfl) ?_
        with_reducible refine (spec_CacheBytes.calls 30 (v : Int) A1 c1 l1 a2_0 A2_1 c2_1 l2_1 a2_2 A3 c3 l3 data _ (Kd.C_below R1.out BLc.out) C1.out (Kd.C_below R2.out BLc.out) C2.out (Kd.C_below R3.out BLc.out) C3.out CF.out).mono ?_
        rintro e wy ⟨rfl, hb_⟩
        refine ⟨_, rfl, ?_⟩
        have t1_ := Aside0.mk (blk_below HBc.out hb_)
        have t2_ := Aside0.mk (below_step BLc.out hb_)
        clear HBc BLc
        have HBc := t1_
        have BLc := t2_
        clear t1_ t2_
        clear hb_
        refine hK.out _ _ ⟨(blk_cell HBc.out 0).trans rfl, (blk_cell HBc.out 1).trans rfl, (blk_cell HBc.out 2).trans rfl⟩ (fun hHeld => ?_)
        clear hK K
        refine norm_ (a' := ?_) ?_ ?_
        rotate_left
        · show Act.put _ (some 46) _ = _
          simp only [Act.put, List.setIfInBounds_toArray, List.set_cons_zero, List.set_cons_succ, i64_w, i32_w]
          rfl
        refine two_ (i := 6) (j := 12) (Ni := some 47) (Nj := some 10) #[true, true, true, true, true, true, true, false, false, false, false, false, false, false, false, false, false] #[true, true, true, true, true, true, false, false, false, false, false, false, true, false, false, false, false] rfl rfl rfl rfl (by kernel_rfl) (by decide) (by decide) (fun K hK => ?_) (fun K hK => ?_)
        · skip
          refine goes_ Try.func15 (by kernel_rfl) rfl #[.string data] (by rfl) rfl rfl (by simp only [List.map_toArray, List.map_cons, List.map_nil]; rfl) ?_
          with_reducible refine (impl_CacheRead.calls data (v : Int) a2_0 l2_1 a2_2 xs true _ RF.out).mono ?_
          rintro e wy ⟨v1_, v3_, rfl, hv1, hv3, hb_⟩
          obtain ⟨AX, cX, rfl⟩ := Kd.R_slice hv1
          obtain ⟨AY, cY, rfl⟩ := Kd.R_slice hv3
          refine ⟨_, rfl, ?_⟩
          have RXc := Aside0.mk (Kd.R_lower hv1 BLc.out.size)
          have RYc := Aside0.mk (Kd.R_lower hv3 BLc.out.size)
          have t1_ := Aside0.mk (blk_below HBc.out hb_)
          have t2_ := Aside0.mk (below_step BLc.out hb_)
          clear HBc BLc
          have HBc := t1_
          have BLc := t2_
          clear t1_ t2_
          clear hb_ hv1 hv3
          refine hK.out _ _ ⟨(blk_cell HBc.out 0).trans rfl, (blk_cell HBc.out 1).trans rfl, (blk_cell HBc.out 2).trans rfl⟩ (fun hHeld => ?_)
          clear hK K
          refine norm_ (a' := ?_) ?_ ?_
          rotate_left
          · show Act.put _ (some 47) _ = _
            simp only [Act.put, List.setIfInBounds_toArray, List.set_cons_zero, List.set_cons_succ, i64_w, i32_w]
            rfl
          refine pure_ (i := 7) (N := some 40) (v := ?_) (a' := ?_) #[true, true, true, true, true, true, true, true, false, false, false, false, false, false, false, false, false] rfl rfl (by kernel_rfl) (fun _ _ _ h => h) (Or.inl ⟨by rfl, ?_⟩) ?_ ?_
          rotate_left
          · intro w'
            go_simp
            with_reducible rfl
          rotate_left
          · simp only [Act.put, List.setIfInBounds_toArray, List.set_cons_zero, List.set_cons_succ, i64_w, i32_w]
            rfl
          refine pure_ (i := 8) (N := some 48) (v := ?_) (a' := ?_) #[true, true, true, true, true, true, true, true, true, false, false, false, false, false, false, false, false] rfl rfl (by kernel_rfl) (fun _ _ _ h => h) (Or.inl ⟨by rfl, ?_⟩) ?_ ?_
          rotate_left
          · intro w'
            go_simp
            with_reducible rfl
          rotate_left
          · simp only [Act.put, List.setIfInBounds_toArray, List.set_cons_zero, List.set_cons_succ, i64_w, i32_w]
            rfl
          refine pure_ (i := 9) (N := some 49) (v := ?_) (a' := ?_) #[true, true, true, true, true, true, true, true, true, true, false, false, false, false, false, false, false] rfl rfl (by kernel_rfl) (fun _ _ _ h => h) (Or.inl ⟨by rfl, ?_⟩) ?_ ?_
          rotate_left
          · intro w'
            go_simp
            with_reducible rfl
          rotate_left
          · simp only [Act.put, List.setIfInBounds_toArray, List.set_cons_zero, List.set_cons_succ, i64_w, i32_w]
            rfl
          refine pure_ (i := 10) (N := some 50) (v := ?_) (a' := ?_) #[true, true, true, true, true, true, true, true, true, true, true, false, false, false, false, false, false] rfl rfl (by kernel_rfl) (fun _ _ _ h => h) (Or.inl ⟨by rfl, ?_⟩) ?_ ?_
          rotate_left
          · intro w'
            go_simp
            with_reducible rfl
          rotate_left
          · simp only [Act.put, List.setIfInBounds_toArray, List.set_cons_zero, List.set_cons_succ, i64_w, i32_w]
            rfl
          refine pure_ (i := 11) (N := some 51) (v := ?_) (a' := ?_) #[true, true, true, true, true, true, true, true, true, true, true, true, false, false, false, false, false] rfl rfl (by kernel_rfl) (fun _ _ _ h => h) (Or.inl ⟨by rfl, ?_⟩) ?_ ?_
          rotate_left
          · intro w'
            go_simp
            with_reducible rfl
          rotate_left
          · simp only [Act.put, List.setIfInBounds_toArray, List.set_cons_zero, List.set_cons_succ, i64_w, i32_w]
            rfl
          refine one_ (i := 12) (N := some 10) #[true, true, true, true, true, true, true, true, true, true, true, true, true, false, false, false, false] rfl rfl (by kernel_rfl) (by decide) (fun K hK => ?_)
          refine box_step (by rfl) (N := 10) rfl (cs := #[.string ⟨#[]⟩, .slice none 0 0, .int .i32 0]) (t := 37) ?_ ?_
          · first | (go_simp; done) | (go_simp; rfl)
          intro gp hgp wy hbox hb_
          have HGc := Aside0.mk hbox
          have HGE := Aside0.mk (show w.heap.size ≤ gp from by rw [hgp]; exact BLc.out.size)
          have t1_ := Aside0.mk (blk_below HBc.out hb_)
          have t2_ := Aside0.mk (below_step BLc.out hb_)
          have t4_ := Aside0.mk (Kd.R_below RXc.out hb_)
          have t5_ := Aside0.mk (Kd.R_below RYc.out hb_)
          clear HBc BLc
          have HBc := t1_
          have BLc := t2_
          clear t1_ t2_
          clear RXc RYc
          have RXc := t4_
          have RYc := t5_
          clear t4_ t5_
          clear hb_ hbox hgp
          refine hK.out _ _ ⟨(blk_cell HBc.out 0).trans rfl, (blk_cell HBc.out 1).trans rfl, (blk_cell HBc.out 2).trans rfl⟩ (fun hHeld => ?_)
          clear hK K
          refine norm_ (a' := ?_) ?_ ?_
          rotate_left
          · show Act.put _ (some 10) _ = _
            simp only [Act.put, List.setIfInBounds_toArray, List.set_cons_zero, List.set_cons_succ, i64_w, i32_w]
            rfl
          exact norm_ (by simp only [putAll, Act.put, List.setIfInBounds_toArray, List.set_cons_zero, List.set_cons_succ]) (hCont (AX, cX, AY, cY, gp) _ ⟨HBc.out, HGc.out, HGE.out, RXc.out, RYc.out, BLc.out⟩)
        · skip
          refine box_step (by rfl) (N := 10) rfl (cs := #[.string ⟨#[]⟩, .slice none 0 0, .int .i32 0]) (t := 37) ?_ ?_
          · first | (go_simp; done) | (go_simp; rfl)
          intro gp hgp wy hbox hb_
          have HGc := Aside0.mk hbox
          have HGE := Aside0.mk (show w.heap.size ≤ gp from by rw [hgp]; exact BLc.out.size)
          have t1_ := Aside0.mk (blk_below HBc.out hb_)
          have t2_ := Aside0.mk (below_step BLc.out hb_)
          clear HBc BLc
          have HBc := t1_
          have BLc := t2_
          clear t1_ t2_
          clear hb_ hbox hgp
          refine hK.out _ _ ⟨(blk_cell HBc.out 0).trans rfl, (blk_cell HBc.out 1).trans rfl, (blk_cell HBc.out 2).trans rfl⟩ (fun hHeld => ?_)
          clear hK K
          refine norm_ (a' := ?_) ?_ ?_
          rotate_left
          · show Act.put _ (some 10) _ = _
            simp only [Act.put, List.setIfInBounds_toArray, List.set_cons_zero, List.set_cons_succ, i64_w, i32_w]
            rfl
          refine one_ (i := 6) (N := some 47) #[true, true, true, true, true, true, true, false, false, false, false, false, true, false, false, false, false] rfl rfl (by kernel_rfl) (by decide) (fun K hK => ?_)
          refine goes_ Try.func15 (by kernel_rfl) rfl #[.string data] (by rfl) rfl rfl (by simp only [List.map_toArray, List.map_cons, List.map_nil]; rfl) ?_
          with_reducible refine (impl_CacheRead.calls data (v : Int) a2_0 l2_1 a2_2 xs true _ RF.out).mono ?_
          rintro e wy ⟨v1_, v3_, rfl, hv1, hv3, hb_⟩
          obtain ⟨AX, cX, rfl⟩ := Kd.R_slice hv1
          obtain ⟨AY, cY, rfl⟩ := Kd.R_slice hv3
          refine ⟨_, rfl, ?_⟩
          have RXc := Aside0.mk (Kd.R_lower hv1 BLc.out.size)
          have RYc := Aside0.mk (Kd.R_lower hv3 BLc.out.size)
          have t1_ := Aside0.mk (blk_below HBc.out hb_)
          have t2_ := Aside0.mk (below_step BLc.out hb_)
          have t3_ := Aside0.mk (blk_below HGc.out hb_)
          clear HBc BLc
          have HBc := t1_
          have BLc := t2_
          clear t1_ t2_
          clear HGc
          have HGc := t3_
          clear t3_
          clear hb_ hv1 hv3
          refine hK.out _ _ ⟨(blk_cell HBc.out 0).trans rfl, (blk_cell HBc.out 1).trans rfl, (blk_cell HBc.out 2).trans rfl⟩ (fun hHeld => ?_)
          clear hK K
          refine norm_ (a' := ?_) ?_ ?_
          rotate_left
          · show Act.put _ (some 47) _ = _
            simp only [Act.put, List.setIfInBounds_toArray, List.set_cons_zero, List.set_cons_succ, i64_w, i32_w]
            rfl
          refine pure_ (i := 7) (N := some 40) (v := ?_) (a' := ?_) #[true, true, true, true, true, true, true, true, false, false, false, false, true, false, false, false, false] rfl rfl (by kernel_rfl) (fun _ _ _ h => h) (Or.inl ⟨by rfl, ?_⟩) ?_ ?_
          rotate_left
          · intro w'
            go_simp
            with_reducible rfl
          rotate_left
          · simp only [Act.put, List.setIfInBounds_toArray, List.set_cons_zero, List.set_cons_succ, i64_w, i32_w]
            rfl
          refine pure_ (i := 8) (N := some 48) (v := ?_) (a' := ?_) #[true, true, true, true, true, true, true, true, true, false, false, false, true, false, false, false, false] rfl rfl (by kernel_rfl) (fun _ _ _ h => h) (Or.inl ⟨by rfl, ?_⟩) ?_ ?_
          rotate_left
          · intro w'
            go_simp
            with_reducible rfl
          rotate_left
          · simp only [Act.put, List.setIfInBounds_toArray, List.set_cons_zero, List.set_cons_succ, i64_w, i32_w]
            rfl
          refine pure_ (i := 9) (N := some 49) (v := ?_) (a' := ?_) #[true, true, true, true, true, true, true, true, true, true, false, false, true, false, false, false, false] rfl rfl (by kernel_rfl) (fun _ _ _ h => h) (Or.inl ⟨by rfl, ?_⟩) ?_ ?_
          rotate_left
          · intro w'
            go_simp
            with_reducible rfl
          rotate_left
          · simp only [Act.put, List.setIfInBounds_toArray, List.set_cons_zero, List.set_cons_succ, i64_w, i32_w]
            rfl
          refine pure_ (i := 10) (N := some 50) (v := ?_) (a' := ?_) #[true, true, true, true, true, true, true, true, true, true, true, false, true, false, false, false, false] rfl rfl (by kernel_rfl) (fun _ _ _ h => h) (Or.inl ⟨by rfl, ?_⟩) ?_ ?_
          rotate_left
          · intro w'
            go_simp
            with_reducible rfl
          rotate_left
          · simp only [Act.put, List.setIfInBounds_toArray, List.set_cons_zero, List.set_cons_succ, i64_w, i32_w]
            rfl
          refine pure_ (i := 11) (N := some 51) (v := ?_) (a' := ?_) #[true, true, true, true, true, true, true, true, true, true, true, true, true, false, false, false, false] rfl rfl (by kernel_rfl) (fun _ _ _ h => h) (Or.inl ⟨by rfl, ?_⟩) ?_ ?_
          rotate_left
          · intro w'
            go_simp
            with_reducible rfl
          rotate_left
          · simp only [Act.put, List.setIfInBounds_toArray, List.set_cons_zero, List.set_cons_succ, i64_w, i32_w]
            rfl
          exact norm_ (by simp only [putAll, Act.put, List.setIfInBounds_toArray, List.set_cons_zero, List.set_cons_succ]) (hCont (AX, cX, AY, cY, gp) _ ⟨HBc.out, HGc.out, HGE.out, RXc.out, RYc.out, BLc.out⟩)
      · skip
        refine box_step (by rfl) (N := 10) rfl (cs := #[.string ⟨#[]⟩, .slice none 0 0, .int .i32 0]) (t := 37) ?_ ?_
        · first | (go_simp; done) | (go_simp; rfl)
        intro gp hgp wy hbox hb_
        have HGc := Aside0.mk hbox
        have HGE := Aside0.mk (show w.heap.size ≤ gp from by rw [hgp]; exact BLc.out.size)
        have t1_ := Aside0.mk (blk_below HBc.out hb_)
        have t2_ := Aside0.mk (below_step BLc.out hb_)
        clear HBc BLc
        have HBc := t1_
        have BLc := t2_
        clear t1_ t2_
        clear hb_ hbox hgp
        refine hK.out _ _ ⟨(blk_cell HBc.out 0).trans rfl, (blk_cell HBc.out 1).trans rfl, (blk_cell HBc.out 2).trans rfl⟩ (fun hHeld => ?_)
        clear hK K
        refine norm_ (a' := ?_) ?_ ?_
        rotate_left
        · show Act.put _ (some 10) _ = _
          simp only [Act.put, List.setIfInBounds_toArray, List.set_cons_zero, List.set_cons_succ, i64_w, i32_w]
          rfl
        refine one_ (i := 5) (N := some 46) #[true, true, true, true, true, true, false, false, false, false, false, false, true, false, false, false, false] rfl rfl (by kernel_rfl) (by decide) (fun K hK => ?_)
        refine goes_ Try.func12 (by kernel_rfl) rfl #[.int .u8 (v : Int), .slice A1 l1.length c1, .agg #[.string a2_0, .slice A2_1 l2_1.length c2_1, .int .i32 a2_2], .slice A3 l3.length c3] (by rfl) rfl rfl (by simp only [List.map_toArray, List.map_cons, List.map_nil]; rfl) ?_
        with_reducible refine (spec_CacheBytes.calls 30 (v : Int) A1 c1 l1 a2_0 A2_1 c2_1 l2_1 a2_2 A3 c3 l3 data _ (Kd.C_below R1.out BLc.out) C1.out (Kd.C_below R2.out BLc.out) C2.out (Kd.C_below R3.out BLc.out) C3.out CF.out).mono ?_
        rintro e wy ⟨rfl, hb_⟩
        refine ⟨_, rfl, ?_⟩
        have t1_ := Aside0.mk (blk_below HBc.out hb_)
        have t2_ := Aside0.mk (below_step BLc.out hb_)
        have t3_ := Aside0.mk (blk_below HGc.out hb_)
        clear HBc BLc
        have HBc := t1_
        have BLc := t2_
        clear t1_ t2_
        clear HGc
        have HGc := t3_
        clear t3_
        clear hb_
        refine hK.out _ _ ⟨(blk_cell HBc.out 0).trans rfl, (blk_cell HBc.out 1).trans rfl, (blk_cell HBc.out 2).trans rfl⟩ (fun hHeld => ?_)
        clear hK K
        refine norm_ (a' := ?_) ?_ ?_
        rotate_left
        · show Act.put _ (some 46) _ = _
          simp only [Act.put, List.setIfInBounds_toArray, List.set_cons_zero, List.set_cons_succ, i64_w, i32_w]
          rfl
        refine one_ (i := 6) (N := some 47) #[true, true, true, true, true, true, true, false, false, false, false, false, true, false, false, false, false] rfl rfl (by kernel_rfl) (by decide) (fun K hK => ?_)
        refine goes_ Try.func15 (by kernel_rfl) rfl #[.string data] (by rfl) rfl rfl (by simp only [List.map_toArray, List.map_cons, List.map_nil]; rfl) ?_
        with_reducible refine (impl_CacheRead.calls data (v : Int) a2_0 l2_1 a2_2 xs true _ RF.out).mono ?_
        rintro e wy ⟨v1_, v3_, rfl, hv1, hv3, hb_⟩
        obtain ⟨AX, cX, rfl⟩ := Kd.R_slice hv1
        obtain ⟨AY, cY, rfl⟩ := Kd.R_slice hv3
        refine ⟨_, rfl, ?_⟩
        have RXc := Aside0.mk (Kd.R_lower hv1 BLc.out.size)
        have RYc := Aside0.mk (Kd.R_lower hv3 BLc.out.size)
        have t1_ := Aside0.mk (blk_below HBc.out hb_)
        have t2_ := Aside0.mk (below_step BLc.out hb_)
        have t3_ := Aside0.mk (blk_below HGc.out hb_)
        clear HBc BLc
        have HBc := t1_
        have BLc := t2_
        clear t1_ t2_
        clear HGc
        have HGc := t3_
        clear t3_
        clear hb_ hv1 hv3
        refine hK.out _ _ ⟨(blk_cell HBc.out 0).trans rfl, (blk_cell HBc.out 1).trans rfl, (blk_cell HBc.out 2).trans rfl⟩ (fun hHeld => ?_)
        clear hK K
        refine norm_ (a' := ?_) ?_ ?_
        rotate_left
        · show Act.put _ (some 47) _ = _
          simp only [Act.put, List.setIfInBounds_toArray, List.set_cons_zero, List.set_cons_succ, i64_w, i32_w]
          rfl
        refine pure_ (i := 7) (N := some 40) (v := ?_) (a' := ?_) #[true, true, true, true, true, true, true, true, false, false, false, false, true, false, false, false, false] rfl rfl (by kernel_rfl) (fun _ _ _ h => h) (Or.inl ⟨by rfl, ?_⟩) ?_ ?_
        rotate_left
        · intro w'
          go_simp
          with_reducible rfl
        rotate_left
        · simp only [Act.put, List.setIfInBounds_toArray, List.set_cons_zero, List.set_cons_succ, i64_w, i32_w]
          rfl
        refine pure_ (i := 8) (N := some 48) (v := ?_) (a' := ?_) #[true, true, true, true, true, true, true, true, true, false, false, false, true, false, false, false, false] rfl rfl (by kernel_rfl) (fun _ _ _ h => h) (Or.inl ⟨by rfl, ?_⟩) ?_ ?_
        rotate_left
        · intro w'
          go_simp
          with_reducible rfl
        rotate_left
        · simp only [Act.put, List.setIfInBounds_toArray, List.set_cons_zero, List.set_cons_succ, i64_w, i32_w]
          rfl
        refine pure_ (i := 9) (N := some 49) (v := ?_) (a' := ?_) #[true, true, true, true, true, true, true, true, true, true, false, false, true, false, false, false, false] rfl rfl (by kernel_rfl) (fun _ _ _ h => h) (Or.inl ⟨by rfl, ?_⟩) ?_ ?_
        rotate_left
        · intro w'
          go_simp
          with_reducible rfl
        rotate_left
        · simp only [Act.put, List.setIfInBounds_toArray, List.set_cons_zero, List.set_cons_succ, i64_w, i32_w]
          rfl
        refine pure_ (i := 10) (N := some 50) (v := ?_) (a' := ?_) #[true, true, true, true, true, true, true, true, true, true, true, false, true, false, false, false, false] rfl rfl (by kernel_rfl) (fun _ _ _ h => h) (Or.inl ⟨by rfl, ?_⟩) ?_ ?_
        rotate_left
        · intro w'
          go_simp
          with_reducible rfl
        rotate_left
        · simp only [Act.put, List.setIfInBounds_toArray, List.set_cons_zero, List.set_cons_succ, i64_w, i32_w]
          rfl
        refine pure_ (i := 11) (N := some 51) (v := ?_) (a' := ?_) #[true, true, true, true, true, true, true, true, true, true, true, true, true, false, false, false, false] rfl rfl (by kernel_rfl) (fun _ _ _ h => h) (Or.inl ⟨by rfl, ?_⟩) ?_ ?_
        rotate_left
        · intro w'
          go_simp
          with_reducible rfl
        rotate_left
        · simp only [Act.put, List.setIfInBounds_toArray, List.set_cons_zero, List.set_cons_succ, i64_w, i32_w]
          rfl
        exact norm_ (by simp only [putAll, Act.put, List.setIfInBounds_toArray, List.set_cons_zero, List.set_cons_succ]) (hCont (AX, cX, AY, cY, gp) _ ⟨HBc.out, HGc.out, HGE.out, RXc.out, RYc.out, BLc.out⟩)
    · skip
      refine box_step (by rfl) (N := 10) rfl (cs := #[.string ⟨#[]⟩, .slice none 0 0, .int .i32 0]) (t := 37) ?_ ?_
      · first | (go_simp; done) | (go_simp; rfl)
      intro gp hgp wy hbox hb_
      have HGc := Aside0.mk hbox
      have HGE := Aside0.mk (show w.heap.size ≤ gp from by rw [hgp]; exact BLc.out.size)
      have t1_ := Aside0.mk (blk_below HBc.out hb_)
      have t2_ := Aside0.mk (below_step BLc.out hb_)
      clear HBc BLc
      have HBc := t1_
      have BLc := t2_
      clear t1_ t2_
      clear hb_ hbox hgp
      refine hK.out _ _ ⟨(blk_cell HBc.out 0).trans rfl, (blk_cell HBc.out 1).trans rfl, (blk_cell HBc.out 2).trans rfl⟩ (fun hHeld => ?_)
      clear hK K
      refine norm_ (a' := ?_) ?_ ?_
      rotate_left
      · show Act.put _ (some 10) _ = _
        simp only [Act.put, List.setIfInBounds_toArray, List.set_cons_zero, List.set_cons_succ, i64_w, i32_w]
        rfl
      refine one_ (i := 1) (N := some 42) #[true, true, true, true, true, false, false, false, false, false, false, false, true, false, false, false, false] rfl rfl (by kernel_rfl) (by decide) (fun K hK => ?_)
      refine goes_ Try.func13 (by kernel_rfl) rfl #[.int .u8 a0] (by rfl) rfl rfl (by simp only [List.map_toArray, List.map_cons, List.map_nil]; rfl) ?_
      with_reducible refine (laws_ccVersion.calls a0 (v : Int) _ HVF.out).mono ?_
      rintro e wy ⟨rfl, hdr_⟩
      refine ⟨_, rfl, ?_⟩
      have hb_ := hdr_.below
      have t1_ := Aside0.mk (blk_below HBc.out hb_)
      have t2_ := Aside0.mk (below_step BLc.out hb_)
      have t3_ := Aside0.mk (blk_below HGc.out hb_)
      clear HBc BLc
      have HBc := t1_
      have BLc := t2_
      clear t1_ t2_
      clear HGc
      have HGc := t3_
      clear t3_
      clear hb_ hdr_
      refine hK.out _ _ ⟨(blk_cell HBc.out 0).trans rfl, (blk_cell HBc.out 1).trans rfl, (blk_cell HBc.out 2).trans rfl⟩ (fun hHeld => ?_)
      clear hK K
      refine norm_ (a' := ?_) ?_ ?_
      rotate_left
      · show Act.put _ (some 42) _ = _
        simp only [Act.put, List.setIfInBounds_toArray, List.set_cons_zero, List.set_cons_succ, i64_w, i32_w]
        rfl
      refine one_ (i := 5) (N := some 46) #[true, true, true, true, true, true, false, false, false, false, false, false, true, false, false, false, false] rfl rfl (by kernel_rfl) (by decide) (fun K hK => ?_)
      refine goes_ Try.func12 (by kernel_rfl) rfl #[.int .u8 (v : Int), .slice A1 l1.length c1, .agg #[.string a2_0, .slice A2_1 l2_1.length c2_1, .int .i32 a2_2], .slice A3 l3.length c3] (by rfl) rfl rfl (by simp only [List.map_toArray, List.map_cons, List.map_nil]; rfl) ?_
      with_reducible refine (spec_CacheBytes.calls 30 (v : Int) A1 c1 l1 a2_0 A2_1 c2_1 l2_1 a2_2 A3 c3 l3 data _ (Kd.C_below R1.out BLc.out) C1.out (Kd.C_below R2.out BLc.out) C2.out (Kd.C_below R3.out BLc.out) C3.out CF.out).mono ?_
      rintro e wy ⟨rfl, hb_⟩
      refine ⟨_, rfl, ?_⟩
      have t1_ := Aside0.mk (blk_below HBc.out hb_)
      have t2_ := Aside0.mk (below_step BLc.out hb_)
      have t3_ := Aside0.mk (blk_below HGc.out hb_)
      clear HBc BLc
      have HBc := t1_
      have BLc := t2_
      clear t1_ t2_
      clear HGc
      have HGc := t3_
      clear t3_
      clear hb_
      refine hK.out _ _ ⟨(blk_cell HBc.out 0).trans rfl, (blk_cell HBc.out 1).trans rfl, (blk_cell HBc.out 2).trans rfl⟩ (fun hHeld => ?_)
      clear hK K
      refine norm_ (a' := ?_) ?_ ?_
      rotate_left
      · show Act.put _ (some 46) _ = _
        simp only [Act.put, List.setIfInBounds_toArray, List.set_cons_zero, List.set_cons_succ, i64_w, i32_w]
        rfl
      refine one_ (i := 6) (N := some 47) #[true, true, true, true, true, true, true, false, false, false, false, false, true, false, false, false, false] rfl rfl (by kernel_rfl) (by decide) (fun K hK => ?_)
      refine goes_ Try.func15 (by kernel_rfl) rfl #[.string data] (by rfl) rfl rfl (by simp only [List.map_toArray, List.map_cons, List.map_nil]; rfl) ?_
      with_reducible refine (impl_CacheRead.calls data (v : Int) a2_0 l2_1 a2_2 xs true _ RF.out).mono ?_
      rintro e wy ⟨v1_, v3_, rfl, hv1, hv3, hb_⟩
      obtain ⟨AX, cX, rfl⟩ := Kd.R_slice hv1
      obtain ⟨AY, cY, rfl⟩ := Kd.R_slice hv3
      refine ⟨_, rfl, ?_⟩
      have RXc := Aside0.mk (Kd.R_lower hv1 BLc.out.size)
      have RYc := Aside0.mk (Kd.R_lower hv3 BLc.out.size)
      have t1_ := Aside0.mk (blk_below HBc.out hb_)
      have t2_ := Aside0.mk (below_step BLc.out hb_)
      have t3_ := Aside0.mk (blk_below HGc.out hb_)
      clear HBc BLc
      have HBc := t1_
      have BLc := t2_
      clear t1_ t2_
      clear HGc
      have HGc := t3_
      clear t3_
      clear hb_ hv1 hv3
      refine hK.out _ _ ⟨(blk_cell HBc.out 0).trans rfl, (blk_cell HBc.out 1).trans rfl, (blk_cell HBc.out 2).trans rfl⟩ (fun hHeld => ?_)
      clear hK K
      refine norm_ (a' := ?_) ?_ ?_
      rotate_left
      · show Act.put _ (some 47) _ = _
        simp only [Act.put, List.setIfInBounds_toArray, List.set_cons_zero, List.set_cons_succ, i64_w, i32_w]
        rfl
      refine pure_ (i := 7) (N := some 40) (v := ?_) (a' := ?_) #[true, true, true, true, true, true, true, true, false, false, false, false, true, false, false, false, false] rfl rfl (by kernel_rfl) (fun _ _ _ h => h) (Or.inl ⟨by rfl, ?_⟩) ?_ ?_
      rotate_left
      · intro w'
        go_simp
        with_reducible rfl
      rotate_left
      · simp only [Act.put, List.setIfInBounds_toArray, List.set_cons_zero, List.set_cons_succ, i64_w, i32_w]
        rfl
      refine pure_ (i := 8) (N := some 48) (v := ?_) (a' := ?_) #[true, true, true, true, true, true, true, true, true, false, false, false, true, false, false, false, false] rfl rfl (by kernel_rfl) (fun _ _ _ h => h) (Or.inl ⟨by rfl, ?_⟩) ?_ ?_
      rotate_left
      · intro w'
        go_simp
        with_reducible rfl
      rotate_left
      · simp only [Act.put, List.setIfInBounds_toArray, List.set_cons_zero, List.set_cons_succ, i64_w, i32_w]
        rfl
      refine pure_ (i := 9) (N := some 49) (v := ?_) (a' := ?_) #[true, true, true, true, true, true, true, true, true, true, false, false, true, false, false, false, false] rfl rfl (by kernel_rfl) (fun _ _ _ h => h) (Or.inl ⟨by rfl, ?_⟩) ?_ ?_
      rotate_left
      · intro w'
        go_simp
        with_reducible rfl
      rotate_left
      · simp only [Act.put, List.setIfInBounds_toArray, List.set_cons_zero, List.set_cons_succ, i64_w, i32_w]
        rfl
      refine pure_ (i := 10) (N := some 50) (v := ?_) (a' := ?_) #[true, true, true, true, true, true, true, true, true, true, true, false, true, false, false, false, false] rfl rfl (by kernel_rfl) (fun _ _ _ h => h) (Or.inl ⟨by rfl, ?_⟩) ?_ ?_
      rotate_left
      · intro w'
        go_simp
        with_reducible rfl
      rotate_left
      · simp only [Act.put, List.setIfInBounds_toArray, List.set_cons_zero, List.set_cons_succ, i64_w, i32_w]
        rfl
      refine pure_ (i := 11) (N := some 51) (v := ?_) (a' := ?_) #[true, true, true, true, true, true, true, true, true, true, true, true, true, false, false, false, false] rfl rfl (by kernel_rfl) (fun _ _ _ h => h) (Or.inl ⟨by rfl, ?_⟩) ?_ ?_
      rotate_left
      · intro w'
        go_simp
        with_reducible rfl
      rotate_left
      · simp only [Act.put, List.setIfInBounds_toArray, List.set_cons_zero, List.set_cons_succ, i64_w, i32_w]
        rfl
      exact norm_ (by simp only [putAll, Act.put, List.setIfInBounds_toArray, List.set_cons_zero, List.set_cons_succ]) (hCont (AX, cX, AY, cY, gp) _ ⟨HBc.out, HGc.out, HGE.out, RXc.out, RYc.out, BLc.out⟩)
  rintro ⟨AX, cX, AY, cY, gp⟩ wn ⟨hz1, hz2, hz3, hz4, hz5, hz6⟩
  clear HBc BLc
  have HBc := Aside0.mk hz1
  have HGc := Aside0.mk hz2
  have HGE := Aside0.mk hz3
  have RXc := Aside0.mk hz4
  have RYc := Aside0.mk hz5
  have BLc := Aside0.mk hz6
  clear hz1 hz2 hz3 hz4 hz5 hz6
  have hHeld : ((wn.cell? ⟨gb, 0, none⟩ = some (.string a2_0)) ∧ (wn.cell? ⟨gb, 1, none⟩ = some (.slice A2_1 l2_1.length c2_1)) ∧ (wn.cell? ⟨gb, 2, none⟩ = some (.int .i32 a2_2))) := ⟨(blk_cell HBc.out 0).trans rfl, (blk_cell HBc.out 1).trans rfl, (blk_cell HBc.out 2).trans rfl⟩
  refine norm_ (a' := ?_) ?_ ?_
  rotate_left
  · simp only [putAll, Act.put, List.setIfInBounds_toArray, List.set_cons_zero, List.set_cons_succ]
    rfl
  refine pure_ (i := 13) (N := some 9) (v := ?_) (a' := ?_) #[true, true, true, true, true, true, true, true, true, true, true, true, true, true, false, false, false] rfl rfl (by kernel_rfl) (fun _ _ _ h => h) (Or.inl ⟨by rfl, ?_⟩) ?_ ?_
  rotate_left
  · intro w'
    go_simp
    with_reducible rfl
  rotate_left
  · simp only [Act.put, List.setIfInBounds_toArray, List.set_cons_zero, List.set_cons_succ, i64_w, i32_w]
    rfl
  refine one_ (i := 14) (N := none) #[true, true, true, true, true, true, true, true, true, true, true, true, true, true, true, false, false] rfl rfl (by kernel_rfl) (by decide) (fun K hK => ?_)
  have n_ := blk_ne HBc.out HGc.out (by decide)
  have e0_ : wn.cell? ⟨gp, 0, none⟩ = some (.string ⟨#[]⟩) := (blk_cell HGc.out 0).trans rfl
  have e1_ : wn.cell? ⟨gp, 1, none⟩ = some (.slice none 0 0) := (blk_cell HGc.out 1).trans rfl
  have e2_ : wn.cell? ⟨gp, 2, none⟩ = some (.int .i32 0) := (blk_cell HGc.out 2).trans rfl
  have f0_ := blk_frozen HGc.out 0
  have f1_ := blk_frozen HGc.out 1
  have f2_ := blk_frozen HGc.out 2
  refine skip_ (w1 := ?_) (by rfl) rfl ?_ ?_
  rotate_left
  · go_simp
    rfl
  have HBs := Aside0.mk (blk_far (blk_far (blk_far HBc.out (p := ⟨gp, 0, none⟩) n_ (.string a2_0)) (p := ⟨gp, 1, none⟩) n_ (.slice AX l2_1.length cX)) (p := ⟨gp, 2, none⟩) n_ (.int .i32 a2_2))
  clear e0_ e1_ e2_ f0_ f1_ f2_
  refine hK.out _ _ ⟨(blk_cell HBs.out 0).trans rfl, (blk_cell HBs.out 1).trans rfl, (blk_cell HBs.out 2).trans rfl⟩ (fun hHeld => ?_)
  clear hK K
  refine pure_ (i := 15) (N := some 11) (v := ?_) (a' := ?_) #[true, true, true, true, true, true, true, true, true, true, true, true, true, true, true, true, false] rfl rfl (by kernel_rfl) (fun _ _ _ h => h) (Or.inl ⟨by rfl, ?_⟩) ?_ ?_
  rotate_left
  · intro w'
    go_simp
    with_reducible rfl
  rotate_left
  · simp only [Act.put, List.setIfInBounds_toArray, List.set_cons_zero, List.set_cons_succ, i64_w, i32_w]
    rfl
  refine pure_ (i := 16) (N := some 12) (v := ?_) (a' := ?_) #[true, true, true, true, true, true, true, true, true, true, true, true, true, true, true, true, true] rfl rfl (by kernel_rfl) (fun _ _ _ h => h) (Or.inl ⟨by rfl, ?_⟩) ?_ ?_
  rotate_left
  · intro w'
    go_simp
    with_reducible rfl
  rotate_left
  · simp only [Act.put, List.setIfInBounds_toArray, List.set_cons_zero, List.set_cons_succ, i64_w, i32_w]
    rfl
  refine done_ (by kernel_rfl) ?_
  
  have HG7 := Aside0.mk (blk_put (cs' := #[.string a2_0, .slice AX l2_1.length cX, .int .i32 a2_2]) (blk_put (cs' := #[.string a2_0, .slice AX l2_1.length cX, .int .i32 0]) (blk_put (cs' := #[.string a2_0, .slice none 0 0, .int .i32 0]) HGc.out 0 (.string a2_0) rfl) 1 (.slice AX l2_1.length cX) rfl) 2 (.int .i32 a2_2) rfl)
  have g1_ := blk_put (cs' := #[.string a2_0, .slice none 0 0, .int .i32 0]) HGc.out 0 (.string a2_0) rfl
  have g2_ := blk_put (cs' := #[.string a2_0, .slice AX l2_1.length cX, .int .i32 0]) g1_ 1 (.slice AX l2_1.length cX) rfl
  have RX7 := Aside0.mk (Kd.R_set (Kd.R_set (Kd.R_set RXc.out HGc.out (by decide) 0 (.string a2_0)) g1_ (by decide) 1 (.slice AX l2_1.length cX)) g2_ (by decide) 2 (.int .i32 a2_2))
  have RY7 := Aside0.mk (Kd.R_set (Kd.R_set (Kd.R_set RYc.out HGc.out (by decide) 0 (.string a2_0)) g1_ (by decide) 1 (.slice AX l2_1.length cX)) g2_ (by decide) 2 (.int .i32 a2_2))
  have BL7 := Aside0.mk (below_set (below_set (below_set BLc.out HGE.out (j := 0) (v := .string a2_0)) HGE.out (j := 1) (v := .slice AX l2_1.length cX)) HGE.out (j := 2) (v := .int .i32 a2_2))
  clear g1_ g2_ n_ hHeld HGc RXc RYc BLc HBc CF RF
  have HB7 := Aside0.mk (show (((wn.setCell ⟨gp, 0, none⟩ (.string a2_0)).setCell ⟨gp, 1, none⟩ (.slice AX l2_1.length cX)).setCell ⟨gp, 2, none⟩ (.int .i32 a2_2)).heap[gb]? = some (.cells #[.string a2_0, .slice A2_1 l2_1.length c2_1, .int .i32 a2_2] 24 (0, 0)) from HBs.out)
  clear HBs
  generalize (((wn.setCell ⟨gp, 0, none⟩ (.string a2_0)).setCell ⟨gp, 1, none⟩ (.slice AX l2_1.length cX)).setCell ⟨gp, 2, none⟩ (.int .i32 a2_2)) = w7 at *
  go_wp2_with fail
  refine (laws_ccAwake.any _).mono ?_
  rintro e w8 ⟨rfl, hb⟩
  have HB8 := Aside0.mk (blk_below HB7.out hb)
  have HG8 := Aside0.mk (blk_below HG7.out hb)
  have RX8 := Aside0.mk (Kd.R_below RX7.out hb)
  have RY8 := Aside0.mk (Kd.R_below RY7.out hb)
  have BL8 := Aside0.mk (below_step BL7.out hb)
  clear hb HB7 HG7 RX7 RY7 BL7
  go_wp2_with fail
  refine (laws_ccVersion.calls a0 (v : Int) _ HVF.out).mono ?_
  rintro e w9 ⟨rfl, hdr⟩
  have hb := hdr.below
  clear hdr
  have HB9 := Aside0.mk (blk_below HB8.out hb)
  have HG9 := Aside0.mk (blk_below HG8.out hb)
  have RX9 := Aside0.mk (Kd.R_below RX8.out hb)
  have RY9 := Aside0.mk (Kd.R_below RY8.out hb)
  have BL9 := Aside0.mk (below_step BL8.out hb)
  clear hb HB8 HG8 RX8 RY8 BL8
  have hvv : ((v : Int) == (v : Int)) = true := by simp
  go_wp2_with (first | ((with_reducible refine gate_dst (N := 63) rfl ?_); (try (refine gate_guard (by rfl) ?_; dsimp only)); refine B.row_event ?hg (N := 63) ?hd 37 (.tmp 10) gp 37 #[.string a2_0, .slice AX l2_1.length cX, .int .i32 a2_2] _ ?ho ?hx HG9.out Try.underlying37 ?hq ?hi ?_; (case hg => rfl); (case hd => rfl); (case ho => rfl); (case hx => first | rfl | (go_simp; done)); (case hq => rfl); (case hi => exact HS37.out)) | ((with_reducible refine gate_dst (N := 64) rfl ?_); (try (refine gate_guard (by rfl) ?_; dsimp only)); refine B.row_event ?hg (N := 64) ?hd 24 (.tmp 6) gb 24 #[.string a2_0, .slice A2_1 l2_1.length c2_1, .int .i32 a2_2] _ ?ho ?hx HB9.out Try.underlying24 ?hq ?hi ?_; (case hg => rfl); (case hd => rfl); (case ho => rfl); (case hx => first | rfl | (go_simp; done)); (case hq => rfl); (case hi => exact HS24.out)) | fail)
  refine (spec_CcNameSame.same a2_0 l2_1 a2_2 AX A2_1 cX c2_1 _ (Kd.R_reads' RX9.out).2.2 (Kd.C_below R2.out BL9.out)).mono ?_
  rintro e w10 ⟨rfl, hb⟩
  have HB10 := Aside0.mk (blk_below HB9.out hb)
  have HG10 := Aside0.mk (blk_below HG9.out hb)
  have RX10 := Aside0.mk (Kd.R_below RX9.out hb)
  have RY10 := Aside0.mk (Kd.R_below RY9.out hb)
  have BL10 := Aside0.mk (below_step BL9.out hb)
  clear hb HB9 HG9 RX9 RY9 BL9
  go_wp2_with fail
  have hcall := laws_credsSame.same xs AY A3 cY c3 w10 (Kd.R_reads' RY10.out).2.2 (by rw [HXM.out, ← HXN.out]; exact Kd.C_below R3.out BL10.out) HXL.out
  have hxn := HXN.out
  rw [hxn]
  clear hxn
  refine hcall.mono ?_
  clear hcall
  rintro e w11 ⟨rfl, hb⟩
  have BL11 := Aside0.mk (below_step BL10.out hb)
  clear hb
  go_wp2
  go_ret
  exact ⟨rfl, BL11.out⟩

end Go.Proofs.Ytnipcocllhfaoaa.A

/- Go functions of this seat come to the answers of the Lean functions that stand here ('.calls'), under what each theorem states and nothing else. Written by pw.py, a program of this session, with texts of its own. -/
import Derived.Test.YtcbbipdiahmelaaA0
import Derived.Test.YtcbbipdiahmelaaB14
namespace Go.Proofs.Ytcbbipdiahmelaa.A
open Go.RowKit Go.Proofs.YtcbbipdiahmelaaW.PrintWords Go.Proofs.YtcbbipdiahmelaaW.PrintLast
open Go.Proofs.Ytcbbipdiahmelaa.B (gate_callee gate_builtin)
set_option linter.unusedVariables false
set_option linter.unusedSimpArgs false
set_option maxRecDepth 100000

/-! ### laws_FnKtJoined: function 5 -/
-- EXT rounds=0 making=1
-- NEEDS
-- KIND st:25
-- KIND st:91
-- KIND st:106
-- KIND st:49
set_option maxHeartbeats 8000000 in
theorem laws_FnKtJoined.main (la lb : List S25) (A A2 : Option Addr) (c c2 : Nat) (w : World) (hr : Kd.C k25 w A la.length la) (hr2 : Kd.C k25 w A2 lb.length lb)
    (hw : ∀ e ∈ la, (-2147483648 ≤ e.f2 ∧ e.f2 < 2147483648) ∧ (0 ≤ e.f4 ∧ e.f4 < 256) ∧ 0 ≤ e.f5 ∧ e.f5 < 4294967296) (hw2 : ∀ e ∈ lb, (-2147483648 ≤ e.f2 ∧ e.f2 < 2147483648) ∧ (0 ≤ e.f4 ∧ e.f4 < 256) ∧ 0 ≤ e.f5 ∧ e.f5 < 4294967296) :
    Calls Try.prog 5 #[.slice A la.length c, .slice A2 lb.length c2] w fun e w' => e = .returned (.bool true) ∧ Below w.heap.size w w' := by
  have hmx : la.length ≤ 9223372036854775807 := by have := Kd.C_max hr; omega
  have hmx2 : lb.length ≤ 9223372036854775807 := by have := Kd.C_max hr2; omega
  have R1 := Aside0.mk hr
  have R2 := Aside0.mk hr2
  have HW := Aside0.mk hw
  have HW2 := Aside0.mk hw2
  have HMX := Aside0.mk (And.intro hmx hmx2)
  clear hr hr2 hw hw2 hmx hmx2
  go_enter Try.func5, Try.ntmps5
  go_wp2_with fail
  refine (B.zzFits9_any la A c _ R1.out).mono ?_
  rintro x w2 ⟨b, rfl, hb⟩
  have BL2 := Aside0.mk hb
  clear hb
  cases b with
  | false =>
    go_wp2
    go_ret
    exact ⟨rfl, BL2.out⟩
  | true =>
  go_wp2_with fail
  refine (B.zzFits9_any lb A2 c2 _ (Kd.C_below R2.out BL2.out)).mono ?_
  rintro x w3 ⟨b, rfl, hb⟩
  have BL3 := Aside0.mk (below_step BL2.out hb)
  clear hb BL2
  cases b with
  | false =>
    go_wp2
    go_ret
    exact ⟨rfl, BL3.out⟩
  | true =>
  go_wp2_with fail
  obtain ⟨b, hb⟩ := B.ans (B.OkL la)
  have hcall := B.ktRight_any la A c w3 b hb (Kd.C_below R1.out BL3.out) HMX.out.1
  have HBA := Aside0.mk hb
  clear hb
  refine hcall.mono ?_
  clear hcall
  rintro x w4 ⟨rfl, hb⟩
  have BL4 := Aside0.mk (below_step BL3.out hb)
  clear hb BL3
  cases b with
  | false =>
    go_wp2_with fail
    refine (B.ktAwake_any _).mono ?_
    rintro x wz ⟨rfl, hb⟩
    have BZ := Aside0.mk (below_step BL4.out hb)
    clear hb
    go_wp2
    go_ret
    exact ⟨rfl, BZ.out⟩
  | true =>
  have OKA := Aside0.mk (HBA.out.1 rfl)
  have HEA := Aside0.mk ((HBA.out.1 rfl).each HW.out)
  clear HBA HW
  go_wp2_with fail
  obtain ⟨b, hb⟩ := B.ans (B.OkL lb)
  have hcall := B.ktRight_any lb A2 c2 w4 b hb (Kd.C_below R2.out BL4.out) HMX.out.2
  have HBB := Aside0.mk hb
  clear hb
  refine hcall.mono ?_
  clear hcall
  rintro x w5 ⟨rfl, hb⟩
  have BL5 := Aside0.mk (below_step BL4.out hb)
  clear hb BL4
  cases b with
  | false =>
    go_wp2_with fail
    refine (B.ktAwake_any _).mono ?_
    rintro x wz ⟨rfl, hb⟩
    have BZ := Aside0.mk (below_step BL5.out hb)
    clear hb
    go_wp2
    go_ret
    exact ⟨rfl, BZ.out⟩
  | true =>
  have OKB := Aside0.mk (HBB.out.1 rfl)
  have HEB := Aside0.mk ((HBB.out.1 rfl).each HW2.out)
  have hfa := OKA.out.few
  have hfb := OKB.out.few
  have hwl : wrap64 ((la.length : Int) + (lb.length : Int)) = (la.length : Int) + (lb.length : Int) := by unfold wrap64; omega
  obtain ⟨b2, q2⟩ : ∃ z, decide ((20 : Int) < (la.length : Int) + (lb.length : Int)) = z := ⟨_, rfl⟩
  have Q2 := Aside0.mk q2
  clear HBB HW2
  cases b2 with
  | true =>
    go_wp2_with fail
    refine (B.ktAwake_any _).mono ?_
    rintro x wz ⟨rfl, hb⟩
    have BZ := Aside0.mk (below_step BL5.out hb)
    clear hb
    go_wp2
    go_ret
    exact ⟨rfl, BZ.out⟩
  | false =>
  have hsum : la.length + lb.length ≤ 20 := by have := of_decide_eq_false Q2.out; omega
  have HSUM := Aside0.mk hsum
  clear hsum Q2
  go_wp2_with fail
  have hcall := B.ktBytes_any la [] [] A none none c 0 0 w5 HEA.out OKA.out.few (by intro x hx; cases hx) (Kd.C_below R1.out BL5.out) (Kd.C_nil _ _) (Kd.C_nil _ _)
  obtain ⟨da, hda⟩ : ∃ D, D = strOfNums (5 :: 2 :: (B.chunksAt [] [] 0 la).flatMap B.Chunk.bytes) := ⟨_, rfl⟩
  rw [← hda, show ([] : List Int).length = 0 from rfl, show ([] : List Bool).length = 0 from rfl] at hcall
  have HDA := Aside0.mk hda
  refine hcall.mono ?_
  clear hcall hda q2
  rintro x w6 ⟨rfl, hb⟩
  have BL6 := Aside0.mk (below_step BL5.out hb)
  clear hb BL5
  go_wp2_with fail
  have hcall := B.ktBytes_any lb [] [] A2 none none c2 0 0 w6 HEB.out OKB.out.few (by intro x hx; cases hx) (Kd.C_below R2.out BL6.out) (Kd.C_nil _ _) (Kd.C_nil _ _)
  obtain ⟨db, hdb⟩ : ∃ D, D = strOfNums (5 :: 2 :: (B.chunksAt [] [] 0 lb).flatMap B.Chunk.bytes) := ⟨_, rfl⟩
  rw [← hdb, show ([] : List Int).length = 0 from rfl, show ([] : List Bool).length = 0 from rfl] at hcall
  have HDB := Aside0.mk hdb
  have za : da.size ≤ 500000 := by have h1 := B.flat_size (B.chunksAt_ok (holes := []) (short := []) (by intro x hx; cases hx) HEA.out (i := 0)); have h2 := B.chunksAt_len [] [] la 0; rw [HDA.out, B.str_size]; simp only [List.length_cons]; omega
  have zb : db.size ≤ 500000 := by have h1 := B.flat_size (B.chunksAt_ok (holes := []) (short := []) (by intro x hx; cases hx) HEB.out (i := 0)); have h2 := B.chunksAt_len [] [] lb 0; rw [hdb, B.str_size]; simp only [List.length_cons]; omega
  have zb2 : (2 : Int) ≤ (db.size : Int) := by rw [hdb, B.str_size]; simp only [List.length_cons]; omega
  have HJ := Aside0.mk (show da ++ db.extract 2 db.size = strOfNums (5 :: 2 :: (B.chunksAt [] [] 0 (la ++ lb)).flatMap B.Chunk.bytes) from by rw [B.drop_data lb HEB.out db hdb, HDA.out, B.join_data])
  refine hcall.mono ?_
  clear hcall hdb
  rintro x w7 ⟨rfl, hb⟩
  have BL7 := Aside0.mk (below_step BL6.out hb)
  clear hb BL6
  have y1 : da.size + (db.size - 2) ≤ 9223372036854775807 := by omega
  go_wp2_with fail
  have hcall := B.keytabRead_of (l := la ++ lb) (holes := []) (short := []) w7 (fun e he => (List.mem_append.1 he).elim (HEA.out e) (HEB.out e)) (by intro x hx; cases hx) (by have := OKA.out.some_; rw [List.length_append]; omega) (by rw [List.length_append]; exact HSUM.out)
  rw [← HJ.out] at hcall
  refine hcall.mono ?_
  clear hcall y1 za zb zb2 hwl
  rintro x w8 ⟨A8, n8, c8, rfl, hv, hb⟩
  obtain ⟨hn, _, hC⟩ := Kd.R_reads' hv
  rw [List.length_map] at hn hC
  subst hn
  have HCC := Aside0.mk hC
  have BL8 := Aside0.mk (below_step BL7.out hb)
  clear hb hv hC BL7
  go_wp2_with fail
  refine (B.ktAwake_any _).mono ?_
  rintro x w9 ⟨rfl, hb⟩
  have HC9 := Aside0.mk (Kd.C_below HCC.out hb)
  have BL9 := Aside0.mk (below_step BL8.out hb)
  clear hb BL8 HCC
  go_wp2_with fail
  refine (B.clone_any w la A c w9 OKA.out.some_ (by have := OKA.out.few; omega) (B.kAt_of R1.out BL9.out)).mono ?_
  rintro x wa ⟨va, rfl, hv, hb⟩
  have HVA := Aside0.mk hv
  have BW9 := Aside0.mk hb
  have BLa := Aside0.mk (below_step BL9.out hb)
  have BS9 := Aside0.mk hb.size
  clear hb hv
  have HLN := Aside0.mk (show (la.length + lb.length) * 88 ≤ 140737488355328 from by have := HSUM.out; omega)
  go_wp2_with (first | ((try (refine gate_guard (by rfl) ?_; dsimp only)); (with_reducible refine gate_builtin (b := .append) (xs := #[.tmp 49, .tmp 50]) rfl ?_); at_builtin; refine Kd.R_append_rows (B.kAt w) (w0 := wa) w9.heap.size rfl (.tmp 49) (.tmp 50) 28 25 B.zero25 88 rfl Try.underlying28 B.info25 rfl (Nat.succ_pos 7) (by omega) va la lb _ _ _ (fun _ => True) (fun _ => False) rfl rfl HVA.out (B.kAt_of R2.out BLa.out) (fun _ _ h => h) (fun _ h => h.elim) (fun _ _ => trivial) (Below.refl _ _) BS9.out HLN.out ?_; intro vb wb ho2 hb2 hg2 hat2; have HVB := Aside0.mk ho2; have hz9 := B.low_trans BW9.out hb2; have BLb := Aside0.mk (below_step BL9.out hz9); have HCb := Aside0.mk (Kd.C_below HC9.out hz9); clear ho2 hb2 hg2 hat2 hz9) | fail)
  obtain ⟨Av, cv, rfl⟩ := Kd.R_slice HVB.out
  have hln := (List.length_append : (la ++ lb).length = _)
  have HVC := Aside0.mk (B.kAt_back (Kd.R_reads' HVB.out).2.2 BLb.out)
  have hcall : Calls Try.prog 14 #[.slice A8 (la.length + lb.length) c8, .slice Av (la ++ lb).length cv] wb fun x w' => x = .returned (.bool true) ∧ Below wb.heap.size wb w' := by
    have h := B.same14 (la ++ lb) A8 Av c8 cv wb HCb.out HVC.out
    rw [hln] at h ⊢
    exact h
  refine hcall.mono ?_
  clear hcall
  rintro x wc ⟨rfl, hb⟩
  have BLc := Aside0.mk (below_step BLb.out hb)
  clear hb
  go_wp2
  go_ret
  exact ⟨rfl, BLc.out⟩
theorem laws_FnKtJoined.walk (A0 : Option Addr) (c0 : Nat) (l0 : List (S25)) (A1 : Option Addr) (c1 : Nat) (l1 : List (S25)) (w : World) (hr0 : Kd.C k25 w A0 l0.length l0) (hc0 : l0.length ≤ c0) (hr1 : Kd.C k25 w A1 l1.length l1) (hc1 : l1.length ≤ c1) (g0 : l0.length ≤ 9223372036854775807 ∧ ∀ y0_ : S25, y0_ ∈ l0 → (y0_.f0.size ≤ maxLen) ∧ (y0_.f1.length ≤ 9223372036854775807 ∧ ∀ y1_ : ByteArray, y1_ ∈ y0_.f1 → y1_.size ≤ maxLen) ∧ ((Lit.int .i32 y0_.f2).wf = true) ∧ ((Lit.int .i64 y0_.f3).wf = true) ∧ ((Lit.int .u8 y0_.f4).wf = true) ∧ ((Lit.int .u32 y0_.f5).wf = true) ∧ ((Lit.int .i32 y0_.f6).wf = true) ∧ (y0_.f7.size ≤ maxLen)) (g1 : l1.length ≤ 9223372036854775807 ∧ ∀ y0_ : S25, y0_ ∈ l1 → (y0_.f0.size ≤ maxLen) ∧ (y0_.f1.length ≤ 9223372036854775807 ∧ ∀ y1_ : ByteArray, y1_ ∈ y0_.f1 → y1_.size ≤ maxLen) ∧ ((Lit.int .i32 y0_.f2).wf = true) ∧ ((Lit.int .i64 y0_.f3).wf = true) ∧ ((Lit.int .u8 y0_.f4).wf = true) ∧ ((Lit.int .u32 y0_.f5).wf = true) ∧ ((Lit.int .i32 y0_.f6).wf = true) ∧ (y0_.f7.size ≤ maxLen)) :
    Calls Try.prog 5 #[.slice A0 l0.length c0, .slice A1 l1.length c1] w fun e w' => e = .returned (.bool true) ∧ Below w.heap.size w w' := by
  exact laws_FnKtJoined.main l0 l1 A0 A1 c0 c1 w hr0 hr1 (fun e he => by have := g0.2 e he; exact ⟨B.wf_i32 this.2.2.1, B.wf_u8 this.2.2.2.2.1, B.wf_u32 this.2.2.2.2.2.1⟩) (fun e he => by have := g1.2 e he; exact ⟨B.wf_i32 this.2.2.1, B.wf_u8 this.2.2.2.2.1, B.wf_u32 this.2.2.2.2.2.1⟩)

end Go.Proofs.Ytcbbipdiahmelaa.A

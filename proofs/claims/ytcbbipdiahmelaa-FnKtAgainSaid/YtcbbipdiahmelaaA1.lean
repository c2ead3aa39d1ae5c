/- Go functions of this seat come to the answers of the Lean functions that stand here ('.calls'), under what each theorem states and nothing else. Written by pw.py, a program of this session, with texts of its own. -/
import Derived.Test.YtcbbipdiahmelaaA0
import Derived.Test.YtcbbipdiahmelaaB13
import Derived.Test.YtcbbipdiahmelaaB20
namespace Go.Proofs.Ytcbbipdiahmelaa.A
open Go.RowKit Go.Proofs.YtcbbipdiahmelaaW.PrintWords Go.Proofs.YtcbbipdiahmelaaW.PrintLast
open Go.Proofs.Ytcbbipdiahmelaa.B (gate_callee gate_builtin)
set_option linter.unusedVariables false
set_option linter.unusedSimpArgs false
set_option maxRecDepth 100000

/-! ### laws_FnKtAgain: function 7 -/
-- EXT rounds=0 making=1
-- NEEDS
-- KIND st:25
-- KIND st:91
-- KIND st:106
-- KIND st:49
set_option maxHeartbeats 8000000 in
theorem laws_FnKtAgain.main (l : List S25) (holes : List Int) (short : List Bool) (A A2 A3 : Option Addr) (c c2 c3 : Nat) (w : World) (hr : Kd.C k25 w A l.length l) (hr2 : (Kd.int .u8).C w A2 holes.length holes) (hr3 : Kd.bool.C w A3 short.length short)
    (hw : ∀ e ∈ l, (-2147483648 ≤ e.f2 ∧ e.f2 < 2147483648) ∧ (0 ≤ e.f4 ∧ e.f4 < 256) ∧ 0 ≤ e.f5 ∧ e.f5 < 4294967296) (hh : ∀ x ∈ holes, 0 ≤ x ∧ x < 256) :
    Calls Try.prog 7 #[.slice A l.length c, .slice A2 holes.length c2, .slice A3 short.length c3] w fun e w' => e = .returned (.bool true) ∧ Below w.heap.size w w' := by
  have hmx : l.length ≤ 9223372036854775807 := by have := Kd.C_max hr; omega
  have R1 := Aside0.mk hr
  have R2 := Aside0.mk hr2
  have R3 := Aside0.mk hr3
  have HW := Aside0.mk hw
  have HH := Aside0.mk hh
  have HMX := Aside0.mk hmx
  clear hr hr2 hr3 hw hh hmx
  obtain ⟨bh, qbh⟩ : ∃ z, decide ((2147483647 : Int) < (holes.length : Int)) = z := ⟨_, rfl⟩
  have pbh : decide (2147483647 < holes.length) = bh := by rw [← qbh]; exact decide_eq_decide.2 (by omega)
  obtain ⟨bs, qbs⟩ : ∃ z, decide ((2147483647 : Int) < (short.length : Int)) = z := ⟨_, rfl⟩
  have pbs : decide (2147483647 < short.length) = bs := by rw [← qbs]; exact decide_eq_decide.2 (by omega)
  obtain ⟨b2, qb2⟩ : ∃ z, decide ((20 : Int) < (holes.length : Int)) = z := ⟨_, rfl⟩
  have pb2 : decide (20 < holes.length) = b2 := by rw [← qb2]; exact decide_eq_decide.2 (by omega)
  go_enter Try.func7, Try.ntmps7
  go_wp2_with fail
  refine (B.zzFits9_any l A c _ R1.out).mono ?_
  rintro x w2 ⟨b, rfl, hb⟩
  have BL2 := Aside0.mk hb
  clear hb
  cases b with
  | false =>
    go_wp2
    go_ret
    exact ⟨rfl, BL2.out⟩
  | true =>
  cases bh with
  | true =>
    go_wp2
    go_ret
    exact ⟨rfl, BL2.out⟩
  | false =>
  cases bs with
  | true =>
    go_wp2
    go_ret
    exact ⟨rfl, BL2.out⟩
  | false =>
  go_wp2_with fail
  obtain ⟨b, hb⟩ := B.ans (B.OkL l)
  have hcall := B.ktRight_any l A c w2 b hb (Kd.C_below R1.out BL2.out) HMX.out
  have HBB := Aside0.mk hb
  clear hb
  refine hcall.mono ?_
  clear hcall
  rintro x w4 ⟨rfl, hb⟩
  have BL4 := Aside0.mk (below_step BL2.out hb)
  clear hb BL2
  cases b with
  | false =>
    go_wp2_with fail
    refine (B.ktAwake_any _).mono ?_
    rintro x wz ⟨rfl, hb⟩
    have BZ := Aside0.mk (below_step BL4.out hb)
    clear hb
    go_wp2
    go_ret
    exact ⟨rfl, BZ.out⟩
  | true =>
  cases b2 with
  | true =>
    go_wp2_with fail
    refine (B.ktAwake_any _).mono ?_
    rintro x wz ⟨rfl, hb⟩
    have BZ := Aside0.mk (below_step BL4.out hb)
    clear hb
    go_wp2
    go_ret
    exact ⟨rfl, BZ.out⟩
  | false =>
  have HOK := Aside0.mk (HBB.out.1 rfl)
  have HE := Aside0.mk ((HBB.out.1 rfl).each HW.out)
  clear HBB HW
  go_wp2_with fail
  have hcall := B.ktBytes_any l holes short A A2 A3 c c2 c3 w4 HE.out HOK.out.few HH.out (Kd.C_below R1.out BL4.out) (Kd.C_below R2.out BL4.out) (Kd.C_below R3.out BL4.out)
  obtain ⟨data, hD⟩ : ∃ D, D = strOfNums (5 :: 2 :: (B.chunksAt holes short 0 l).flatMap B.Chunk.bytes) := ⟨_, rfl⟩
  rw [← hD] at hcall
  have HD := Aside0.mk hD
  refine hcall.mono ?_
  clear hcall hD
  rintro x w5 ⟨rfl, hb⟩
  have BL5 := Aside0.mk (below_step BL4.out hb)
  clear hb BL4
  go_wp2_with fail
  have hcall := B.keytabAgain_of (l := l) (holes := holes) (short := short) w5 HE.out HH.out HOK.out.some_ HOK.out.few
  rw [← HD.out] at hcall
  obtain ⟨again, hA⟩ : ∃ D, D = strOfNums (5 :: 2 :: (B.chunksAt [] [] 0 l).flatMap B.Chunk.bytes) := ⟨_, rfl⟩
  rw [← hA] at hcall
  have HA := Aside0.mk hA
  refine hcall.mono ?_
  clear hcall hA
  rintro x v5 ⟨rfl, hb⟩
  have CL5 := Aside0.mk (below_step BL5.out hb)
  clear hb BL5 HD
  go_wp2_with fail
  have hcall := B.keytabRead_of (l := l) (holes := []) (short := []) v5 HE.out (fun x hx => nomatch hx) HOK.out.some_ HOK.out.few
  rw [← HA.out] at hcall
  refine hcall.mono ?_
  clear hcall
  rintro x u6 ⟨A6, n6, c6, rfl, hv, hb⟩
  obtain ⟨hn, _, hC⟩ := Kd.R_reads' hv
  rw [List.length_map] at hn hC
  subst hn
  have HCD := Aside0.mk hC
  have DL6 := Aside0.mk (below_step CL5.out hb)
  clear hb hv hC CL5
  go_wp2_with fail
  have hcall := B.keytabAgain_of (l := l) (holes := []) (short := []) u6 HE.out (fun x hx => nomatch hx) HOK.out.some_ HOK.out.few
  rw [← HA.out] at hcall
  refine hcall.mono ?_
  clear hcall
  rintro x w6 ⟨rfl, hb⟩
  have HCC := Aside0.mk (Kd.C_below HCD.out hb)
  have BL6 := Aside0.mk (below_step DL6.out hb)
  clear hb HCD DL6 HA
  go_wp2_with fail
  refine (B.ktAwake_any _).mono ?_
  rintro x w7 ⟨rfl, hb⟩
  have HC7 := Aside0.mk (Kd.C_below HCC.out hb)
  have BL7 := Aside0.mk (below_step BL6.out hb)
  clear hb BL6 HCC
  go_wp2_with fail
  refine (B.same14 l A6 A c6 c _ HC7.out (Kd.C_below R1.out BL7.out)).mono ?_
  rintro x w8 ⟨rfl, hb⟩
  have BL8 := Aside0.mk (below_step BL7.out hb)
  clear hb
  go_wp2
  go_ret
  exact ⟨rfl, BL8.out⟩
theorem laws_FnKtAgain.walk (A0 : Option Addr) (c0 : Nat) (l0 : List (S25)) (A1 : Option Addr) (c1 : Nat) (l1 : List Int) (A2 : Option Addr) (c2 : Nat) (l2 : List Bool) (w : World) (hr0 : Kd.C k25 w A0 l0.length l0) (hc0 : l0.length ≤ c0) (hr1 : Kd.C (Kd.int .u8) w A1 l1.length l1) (hc1 : l1.length ≤ c1) (hr2 : Kd.C Kd.bool w A2 l2.length l2) (hc2 : l2.length ≤ c2) (g0 : l0.length ≤ 9223372036854775807 ∧ ∀ y0_ : S25, y0_ ∈ l0 → (y0_.f0.size ≤ maxLen) ∧ (y0_.f1.length ≤ 9223372036854775807 ∧ ∀ y1_ : ByteArray, y1_ ∈ y0_.f1 → y1_.size ≤ maxLen) ∧ ((Lit.int .i32 y0_.f2).wf = true) ∧ ((Lit.int .i64 y0_.f3).wf = true) ∧ ((Lit.int .u8 y0_.f4).wf = true) ∧ ((Lit.int .u32 y0_.f5).wf = true) ∧ ((Lit.int .i32 y0_.f6).wf = true) ∧ (y0_.f7.size ≤ maxLen)) (g1 : l1.length ≤ 9223372036854775807 ∧ ∀ y0_ : Int, y0_ ∈ l1 → (Lit.int .u8 y0_).wf = true) (g2 : l2.length ≤ 9223372036854775807) :
    Calls Try.prog 7 #[.slice A0 l0.length c0, .slice A1 l1.length c1, .slice A2 l2.length c2] w fun e w' => e = .returned (.bool true) ∧ Below w.heap.size w w' := by
  exact laws_FnKtAgain.main l0 l1 l2 A0 A1 A2 c0 c1 c2 w hr0 hr1 hr2 (fun e he => by have := g0.2 e he; exact ⟨B.wf_i32 this.2.2.1, B.wf_u8 this.2.2.2.2.1, B.wf_u32 this.2.2.2.2.2.1⟩) (fun x hx => B.wf_u8 (g1.2 x hx))

end Go.Proofs.Ytcbbipdiahmelaa.A

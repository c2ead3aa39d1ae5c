/- Go functions of this seat come to the answers of the Lean functions that stand here ('.calls'), under what each theorem states and nothing else. Written by pw.py, a program of this session, with texts of its own. -/
import Derived.Test.YtnipcocllhfaoaaA0
import Derived.Test.YtnipcocllhfaoaaE0
import Derived.Test.YtnipcocllhfaoaaE0
import Derived.Test.YtnipcocllhfaoaaE0
import Derived.Test.YtnipcocllhfaoaaE0
namespace Go.Proofs.Ytnipcocllhfaoaa.A
open Go.RowKit Go.Proofs.YtnipcocllhfaoaaW.PrintWords Go.Proofs.YtnipcocllhfaoaaW.PrintLast
open Go.Proofs.Ytnipcocllhfaoaa.B (gate_callee gate_builtin)
set_option linter.unusedVariables false
set_option linter.unusedSimpArgs false
set_option maxRecDepth 100000

/-! ### laws_ccVersion: function 13 -/
def laws_ccVersion.f (a0 : Int) : Option (Int) := some ((3 + (Int.tmod a0 2)) % 256)
set_option maxHeartbeats 8000000 in
set_option maxRecDepth 100000 in
theorem laws_ccVersion.calls (a0 : Int) (r : Int) (w : World) (h : laws_ccVersion.f a0 = some r) :
    Calls Try.prog 13 #[.int .u8 a0] w fun e w' => e = .returned (.int .u8 r) ∧ Drawn0 w w' := by
  have H : (some ((3 + (Int.tmod a0 2)) % 256)) = some r := h
  clear h
  obtain rfl := Option.some.inj H
  go_enter Try.func13, Try.ntmps13
  go_wp2
  go_ret
  exact ⟨by first | rfl | (simp; done) | (simp [*]; done), by repeat (first | exact Drawn0.refl _ | apply Drawn0.step)⟩

/-! ### slices_Equal_string_string: function 22 -/
-- EXT rounds=0 making=1
-- NEEDS
/-- Equal rows of texts are told to be. -/
theorem slices_Equal_string_string.same (xs : List ByteArray) (A1 A2 : Option Addr) (c1 c2 : Nat) (w : World) (h1 : Kd.C Kd.string w A1 xs.length xs) (h2 : Kd.C Kd.string w A2 xs.length xs) :
    Calls Try.prog 22 #[.slice A1 xs.length c1, .slice A2 xs.length c2] w fun e w' => e = .returned (.bool true) ∧ Below w.heap.size w w' := by
  have hmx : (xs.length : Int) ≤ 9223372036854775807 := by have := Kd.C_max h1; omega
  have H1 := Aside0.mk h1
  have H2 := Aside0.mk h2
  clear h1 h2
  go_enter Try.func22, Try.ntmps22
  go_wp2
  go_loopw [13] (fun i wr => ∃ (j : Nat), j ≤ xs.length ∧ i = .int .i64 j ∧ Aside0 (Below w.heap.size w wr)) (fun i _ => xs.length - (intOf i).toNat)
  case atStart => exact ⟨0, Nat.zero_le _, rfl, ⟨Below.refl _ _⟩⟩
  obtain ⟨j, hj, rfl, BL⟩ := hrel
  by_cases hlt : j < xs.length
  case neg =>
    obtain rfl : j = xs.length := by omega
    have hnl : ¬ ((xs.length : Int) < (xs.length : Int)) := by omega
    go_wp2
    go_ret
    exact ⟨rfl, BL.out⟩
  have hlt' : (j : Int) < (xs.length : Int) := by omega
  have hj0 : (0 : Int) ≤ (j : Int) := by omega
  obtain ⟨a1, rfl, k1⟩ := Kd.at_string (Kd.C_below H1.out BL.out) (j : Int) hj0 hlt'
  obtain ⟨a2, rfl, k2⟩ := Kd.at_string (Kd.C_below H2.out BL.out) (j : Int) hj0 hlt'
  rw [Int.toNat_natCast] at k1 k2
  generalize rdOf ByteArray.empty xs (j : Int) = x at *
  go_wp2
  go_quiet (fail)
  go_wp2
  go_roundw
  case rel => exact ⟨j + 1, by omega, by go_num, ⟨pw_below_drewN BL.out _⟩⟩
  case measure => simp [intOf]; omega

/-! ### spec_CcNameSame: function 18 -/
-- EXT rounds=0 making=1
-- NEEDS 22
/-- Equal principals are told to be. -/
theorem spec_CcNameSame.same (a : ByteArray) (xs : List ByteArray) (n : Int) (A1 A2 : Option Addr) (c1 c2 : Nat) (w : World) (h1 : Kd.C Kd.string w A1 xs.length xs) (h2 : Kd.C Kd.string w A2 xs.length xs) :
    Calls Try.prog 18 #[.agg #[.string a, .slice A1 xs.length c1, .int .i32 n], .agg #[.string a, .slice A2 xs.length c2, .int .i32 n]] w fun e w' => e = .returned (.bool true) ∧ Below w.heap.size w w' := by
  have H1 := Aside0.mk h1
  have H2 := Aside0.mk h2
  clear h1 h2
  go_enter Try.func18, Try.ntmps18
  go_wp2_with fail
  have hb := below_alloc (below_alloc (Below.refl w.heap.size w) (.cells #[.string a, .slice A1 xs.length c1, .int .i32 n] 24)) (.cells #[.string a, .slice A2 xs.length c2, .int .i32 n] 24)
  refine (slices_Equal_string_string.same xs A1 A2 c1 c2 _ (Kd.C_below H1.out hb) (Kd.C_below H2.out hb)).mono ?_
  rintro e w3 ⟨rfl, hb3⟩
  have BL := Aside0.mk (below_step hb hb3)
  clear hb hb3
  go_wp2
  go_ret
  exact ⟨rfl, BL.out⟩

/-! ### spec_CcPart_36: function 36 -/
-- EXT rounds=0 making=1
-- NEEDS 10
/-- Equal rows of parts are told to be. -/
theorem spec_CcPart_36.same (xs : List S63) (A1 A2 : Option Addr) (c1 c2 : Nat) (w : World) (h1 : Kd.C k63 w A1 xs.length xs) (h2 : Kd.C k63 w A2 xs.length xs) :
    Calls Try.prog 36 #[.slice A1 xs.length c1, .slice A2 xs.length c2] w fun e w' => e = .returned (.bool true) ∧ Below w.heap.size w w' := by
  have hmx : (xs.length : Int) ≤ 9223372036854775807 := by have := Kd.C_max h1; omega
  have H1 := Aside0.mk h1
  have H2 := Aside0.mk h2
  have hu63 := Try.underlying63
  clear h1 h2
  go_enter Try.func36, Try.ntmps36
  go_wp2
  go_loopw [13] (fun i wr => ∃ (j : Nat), j ≤ xs.length ∧ i = .int .i64 j ∧ Aside0 (Below w.heap.size w wr)) (fun i _ => xs.length - (intOf i).toNat)
  case atStart => exact ⟨0, Nat.zero_le _, rfl, ⟨Below.refl _ _⟩⟩
  obtain ⟨j, hj, rfl, BL⟩ := hrel
  by_cases hlt : j < xs.length
  case neg =>
    obtain rfl : j = xs.length := by omega
    have hnl : ¬ ((xs.length : Int) < (xs.length : Int)) := by omega
    go_wp2
    go_ret
    exact ⟨rfl, BL.out⟩
  have hlt' : (j : Int) < (xs.length : Int) := by omega
  have hj0 : (0 : Int) ≤ (j : Int) := by omega
  obtain ⟨a1, rfl, k1, k1'⟩ := at_T63 (Kd.C_below H1.out BL.out) (j : Int) hj0 hlt'
  obtain ⟨a2, rfl, k2, k2'⟩ := at_T63 (Kd.C_below H2.out BL.out) (j : Int) hj0 hlt'
  rw [Int.toNat_natCast] at k1 k1' k2 k2'
  generalize rd_T63 xs (j : Int) = x at *
  go_wp2
  go_quiet (fail)
  go_wp2
  go_roundw
  case rel => exact ⟨j + 1, by omega, by go_num, ⟨pw_below_drewN BL.out _⟩⟩
  case measure => simp [intOf]; omega

/-! ### spec_CredSame: function 16 -/
-- EXT rounds=0 making=1
-- NEEDS 18 36
set_option maxHeartbeats 16000000 in
/-- Equal credentials are told to be. -/
theorem spec_CredSame.same (x : S36) (X1 : Option Addr) (cX1 : Nat) (X4 : Option Addr) (cX4 : Nat) (X14 : Option Addr) (cX14 : Nat) (X15 : Option Addr) (cX15 : Nat) (Y1 : Option Addr) (cY1 : Nat) (Y4 : Option Addr) (cY4 : Nat) (Y14 : Option Addr) (cY14 : Nat) (Y15 : Option Addr) (cY15 : Nat) (w : World) (hX1 : Kd.C Kd.string w X1 x.f0.f1.length x.f0.f1) (hX4 : Kd.C Kd.string w X4 x.f1.f1.length x.f1.f1) (hX14 : Kd.C k63 w X14 x.f10.length x.f10) (hX15 : Kd.C k63 w X15 x.f11.length x.f11) (hY1 : Kd.C Kd.string w Y1 x.f0.f1.length x.f0.f1) (hY4 : Kd.C Kd.string w Y4 x.f1.f1.length x.f1.f1) (hY14 : Kd.C k63 w Y14 x.f10.length x.f10) (hY15 : Kd.C k63 w Y15 x.f11.length x.f11) :
    Calls Try.prog 16 #[.agg #[Value.string x.f0.f0, .slice X1 x.f0.f1.length cX1, .int .i32 x.f0.f2, .string x.f1.f0, .slice X4 x.f1.f1.length cX4, .int .i32 x.f1.f2, .int .i32 x.f2, .string x.f3, .int .i64 x.f4, .int .i64 x.f5, .int .i64 x.f6, .int .i64 x.f7, .bool x.f8, .int .u32 x.f9, .slice X14 x.f10.length cX14, .slice X15 x.f11.length cX15, .string x.f12, .string x.f13], .agg #[Value.string x.f0.f0, .slice Y1 x.f0.f1.length cY1, .int .i32 x.f0.f2, .string x.f1.f0, .slice Y4 x.f1.f1.length cY4, .int .i32 x.f1.f2, .int .i32 x.f2, .string x.f3, .int .i64 x.f4, .int .i64 x.f5, .int .i64 x.f6, .int .i64 x.f7, .bool x.f8, .int .u32 x.f9, .slice Y14 x.f10.length cY14, .slice Y15 x.f11.length cY15, .string x.f12, .string x.f13]] w fun e w' => e = .returned (.bool true) ∧ Below w.heap.size w w' := by
  have HX1 := Aside0.mk hX1
  have HX4 := Aside0.mk hX4
  have HX14 := Aside0.mk hX14
  have HX15 := Aside0.mk hX15
  have HY1 := Aside0.mk hY1
  have HY4 := Aside0.mk hY4
  have HY14 := Aside0.mk hY14
  have HY15 := Aside0.mk hY15
  clear hX1 hX4 hX14 hX15 hY1 hY4 hY14 hY15
  have hu24 := Try.underlying24
  obtain ⟨cx, hcx⟩ : ∃ z : Array Value, z = #[Value.string x.f0.f0, .slice X1 x.f0.f1.length cX1, .int .i32 x.f0.f2, .string x.f1.f0, .slice X4 x.f1.f1.length cX4, .int .i32 x.f1.f2, .int .i32 x.f2, .string x.f3, .int .i64 x.f4, .int .i64 x.f5, .int .i64 x.f6, .int .i64 x.f7, .bool x.f8, .int .u32 x.f9, .slice X14 x.f10.length cX14, .slice X15 x.f11.length cX15, .string x.f12, .string x.f13] := ⟨_, rfl⟩
  rw [← hcx]
  have HVX := Aside0.mk hcx
  clear hcx
  obtain ⟨cy, hcy⟩ : ∃ z : Array Value, z = #[Value.string x.f0.f0, .slice Y1 x.f0.f1.length cY1, .int .i32 x.f0.f2, .string x.f1.f0, .slice Y4 x.f1.f1.length cY4, .int .i32 x.f1.f2, .int .i32 x.f2, .string x.f3, .int .i64 x.f4, .int .i64 x.f5, .int .i64 x.f6, .int .i64 x.f7, .bool x.f8, .int .u32 x.f9, .slice Y14 x.f10.length cY14, .slice Y15 x.f11.length cY15, .string x.f12, .string x.f13] := ⟨_, rfl⟩
  rw [← hcy]
  have HVY := Aside0.mk hcy
  clear hcy
  go_enter Try.func16, Try.ntmps16
  go_upto_region 1 with (first
    | ((with_reducible refine gate_dst (N := 2) rfl ?_); refine box_event ?hg (N := 2) ?hd (cs := cx) (t := 36) ?hr ?_; (case hd => rfl); (case hg => rfl); (case hr => first | (go_simp; done) | (go_simp; rfl)); intro gx hgb w1 hbox hb; have HX1 := Aside0.mk hbox; have BL1 := Aside0.mk hb; clear hbox hb hgb)
    | ((with_reducible refine gate_dst (N := 3) rfl ?_); refine box_event ?hg (N := 3) ?hd (cs := cy) (t := 36) ?hr ?_; (case hd => rfl); (case hg => rfl); (case hr => first | (go_simp; done) | (go_simp; rfl)); intro gy hgb w2 hbox hb; have HX2 := Aside0.mk (blk_below HX1.out hb); have HY2 := Aside0.mk hbox; have BL2 := Aside0.mk (below_step BL1.out hb); clear hbox hb hgb)
    | fail)
  clear HX1 BL1
  have hx2 := HX2.out
  have hy2 := HY2.out
  rw [HVX.out] at hx2
  rw [HVY.out] at hy2
  clear HX2 HY2 HVX HVY
  have HX2 := Aside0.mk hx2
  have HY2 := Aside0.mk hy2
  clear hx2 hy2
  have qx0 : w2.cell? ⟨gx, 0, none⟩ = some (.string x.f0.f0) := (blk_cell HX2.out 0).trans rfl
  have qy0 : w2.cell? ⟨gy, 0, none⟩ = some (.string x.f0.f0) := (blk_cell HY2.out 0).trans rfl
  have qx1 : w2.cell? ⟨gx, 1, none⟩ = some (.slice X1 x.f0.f1.length cX1) := (blk_cell HX2.out 1).trans rfl
  have qy1 : w2.cell? ⟨gy, 1, none⟩ = some (.slice Y1 x.f0.f1.length cY1) := (blk_cell HY2.out 1).trans rfl
  have qx2 : w2.cell? ⟨gx, 2, none⟩ = some (.int .i32 x.f0.f2) := (blk_cell HX2.out 2).trans rfl
  have qy2 : w2.cell? ⟨gy, 2, none⟩ = some (.int .i32 x.f0.f2) := (blk_cell HY2.out 2).trans rfl
  go_wp2_with fail
  refine (spec_CcNameSame.same x.f0.f0 x.f0.f1 x.f0.f2 X1 Y1 cX1 cY1 _ (Kd.C_below HX1.out BL2.out) (Kd.C_below HY1.out BL2.out)).mono ?_
  rintro e w3 ⟨rfl, hb⟩
  have HX3 := Aside0.mk (blk_below HX2.out hb)
  have HY3 := Aside0.mk (blk_below HY2.out hb)
  have BL3 := Aside0.mk (below_step BL2.out hb)
  clear hb HX2 HY2 BL2
  clear qx0 qy0 qx1 qy1 qx2 qy2
  have qx3 : w3.cell? ⟨gx, 3, none⟩ = some (.string x.f1.f0) := (blk_cell HX3.out 3).trans rfl
  have qy3 : w3.cell? ⟨gy, 3, none⟩ = some (.string x.f1.f0) := (blk_cell HY3.out 3).trans rfl
  have qx4 : w3.cell? ⟨gx, 4, none⟩ = some (.slice X4 x.f1.f1.length cX4) := (blk_cell HX3.out 4).trans rfl
  have qy4 : w3.cell? ⟨gy, 4, none⟩ = some (.slice Y4 x.f1.f1.length cY4) := (blk_cell HY3.out 4).trans rfl
  have qx5 : w3.cell? ⟨gx, 5, none⟩ = some (.int .i32 x.f1.f2) := (blk_cell HX3.out 5).trans rfl
  have qy5 : w3.cell? ⟨gy, 5, none⟩ = some (.int .i32 x.f1.f2) := (blk_cell HY3.out 5).trans rfl
  go_wp2_with fail
  refine (spec_CcNameSame.same x.f1.f0 x.f1.f1 x.f1.f2 X4 Y4 cX4 cY4 _ (Kd.C_below HX4.out BL3.out) (Kd.C_below HY4.out BL3.out)).mono ?_
  rintro e w4 ⟨rfl, hb⟩
  have HX4 := Aside0.mk (blk_below HX3.out hb)
  have HY4 := Aside0.mk (blk_below HY3.out hb)
  have BL4 := Aside0.mk (below_step BL3.out hb)
  clear hb HX3 HY3 BL3
  clear qx3 qy3 qx4 qy4 qx5 qy5
  have qx6 : w4.cell? ⟨gx, 6, none⟩ = some (.int .i32 x.f2) := (blk_cell HX4.out 6).trans rfl
  have qy6 : w4.cell? ⟨gy, 6, none⟩ = some (.int .i32 x.f2) := (blk_cell HY4.out 6).trans rfl
  have qx7 : w4.cell? ⟨gx, 7, none⟩ = some (.string x.f3) := (blk_cell HX4.out 7).trans rfl
  have qy7 : w4.cell? ⟨gy, 7, none⟩ = some (.string x.f3) := (blk_cell HY4.out 7).trans rfl
  have qx8 : w4.cell? ⟨gx, 8, none⟩ = some (.int .i64 x.f4) := (blk_cell HX4.out 8).trans rfl
  have qy8 : w4.cell? ⟨gy, 8, none⟩ = some (.int .i64 x.f4) := (blk_cell HY4.out 8).trans rfl
  have qx9 : w4.cell? ⟨gx, 9, none⟩ = some (.int .i64 x.f5) := (blk_cell HX4.out 9).trans rfl
  have qy9 : w4.cell? ⟨gy, 9, none⟩ = some (.int .i64 x.f5) := (blk_cell HY4.out 9).trans rfl
  have qx10 : w4.cell? ⟨gx, 10, none⟩ = some (.int .i64 x.f6) := (blk_cell HX4.out 10).trans rfl
  have qy10 : w4.cell? ⟨gy, 10, none⟩ = some (.int .i64 x.f6) := (blk_cell HY4.out 10).trans rfl
  have qx11 : w4.cell? ⟨gx, 11, none⟩ = some (.int .i64 x.f7) := (blk_cell HX4.out 11).trans rfl
  have qy11 : w4.cell? ⟨gy, 11, none⟩ = some (.int .i64 x.f7) := (blk_cell HY4.out 11).trans rfl
  have qx12 : w4.cell? ⟨gx, 12, none⟩ = some (.bool x.f8) := (blk_cell HX4.out 12).trans rfl
  have qy12 : w4.cell? ⟨gy, 12, none⟩ = some (.bool x.f8) := (blk_cell HY4.out 12).trans rfl
  have qx13 : w4.cell? ⟨gx, 13, none⟩ = some (.int .u32 x.f9) := (blk_cell HX4.out 13).trans rfl
  have qy13 : w4.cell? ⟨gy, 13, none⟩ = some (.int .u32 x.f9) := (blk_cell HY4.out 13).trans rfl
  have qx14 : w4.cell? ⟨gx, 14, none⟩ = some (.slice X14 x.f10.length cX14) := (blk_cell HX4.out 14).trans rfl
  have qy14 : w4.cell? ⟨gy, 14, none⟩ = some (.slice Y14 x.f10.length cY14) := (blk_cell HY4.out 14).trans rfl
  go_wp2_with fail
  refine (spec_CcPart_36.same x.f10 X14 Y14 cX14 cY14 _ (Kd.C_below HX14.out BL4.out) (Kd.C_below HY14.out BL4.out)).mono ?_
  rintro e w5 ⟨rfl, hb⟩
  have HX5 := Aside0.mk (blk_below HX4.out hb)
  have HY5 := Aside0.mk (blk_below HY4.out hb)
  have BL5 := Aside0.mk (below_step BL4.out hb)
  clear hb HX4 HY4 BL4
  clear qx6 qy6 qx7 qy7 qx8 qy8 qx9 qy9 qx10 qy10 qx11 qy11 qx12 qy12 qx13 qy13 qx14 qy14
  have qx15 : w5.cell? ⟨gx, 15, none⟩ = some (.slice X15 x.f11.length cX15) := (blk_cell HX5.out 15).trans rfl
  have qy15 : w5.cell? ⟨gy, 15, none⟩ = some (.slice Y15 x.f11.length cY15) := (blk_cell HY5.out 15).trans rfl
  go_wp2_with fail
  refine (spec_CcPart_36.same x.f11 X15 Y15 cX15 cY15 _ (Kd.C_below HX15.out BL5.out) (Kd.C_below HY15.out BL5.out)).mono ?_
  rintro e w6 ⟨rfl, hb⟩
  have HX6 := Aside0.mk (blk_below HX5.out hb)
  have HY6 := Aside0.mk (blk_below HY5.out hb)
  have BL6 := Aside0.mk (below_step BL5.out hb)
  clear hb HX5 HY5 BL5
  clear qx15 qy15
  have qx16 : w6.cell? ⟨gx, 16, none⟩ = some (.string x.f12) := (blk_cell HX6.out 16).trans rfl
  have qy16 : w6.cell? ⟨gy, 16, none⟩ = some (.string x.f12) := (blk_cell HY6.out 16).trans rfl
  have qx17 : w6.cell? ⟨gx, 17, none⟩ = some (.string x.f13) := (blk_cell HX6.out 17).trans rfl
  have qy17 : w6.cell? ⟨gy, 17, none⟩ = some (.string x.f13) := (blk_cell HY6.out 17).trans rfl
  go_wp2
  go_ret
  exact ⟨rfl, BL6.out⟩

end Go.Proofs.Ytnipcocllhfaoaa.A

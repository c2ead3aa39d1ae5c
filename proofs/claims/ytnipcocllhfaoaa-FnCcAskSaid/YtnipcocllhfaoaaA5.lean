/- Go functions of this seat come to the answers of the Lean functions that stand here ('.calls'), under what each theorem states and nothing else. Written by pw.py, a program of this session, with texts of its own. -/
import Derived.Test.YtnipcocllhfaoaaA0
import Derived.Test.YtnipcocllhfaoaaA3
import Derived.Test.YtnipcocllhfaoaaA4
namespace Go.Proofs.Ytnipcocllhfaoaa.A
open Go.RowKit Go.Proofs.YtnipcocllhfaoaaW.PrintWords Go.Proofs.YtnipcocllhfaoaaW.PrintLast
open Go.Proofs.Ytnipcocllhfaoaa.B (gate_callee gate_builtin)
set_option linter.unusedVariables false
set_option linter.unusedSimpArgs false
set_option maxRecDepth 100000

/-! ### spec_CredBytes: function 14 -/
mutual
def spec_CredBytes.j0 : Nat → ByteArray → ByteArray → List ByteArray → Int → ByteArray → List ByteArray → Int → Int → ByteArray → Int → Int → Int → Int → Bool → Int → List (S63) → List (S63) → ByteArray → ByteArray → Option (ByteArray)
  | 0, _, _, _, _, _, _, _, _, _, _, _, _, _, _, _, _, _, _, _ => none
  | k + 1, x5, x122000, x122001, x122002, x122003, x122004, x122005, x122006, x122007, x122008, x122009, x122010, x122011, x122012, x122013, x122014, x122015, x122016, x122017 => (spec_counted.f x122007 4).bind fun t126 => (if x5.size + t126.size ≤ 9223372036854775807 then ((some (([x122008, x122009, x122010, x122011] : List Int) : List Int)).bind fun y127 => (spec_CredBytes.l0 k (x5 ++ t126) y127 (y127.length : Int) 0 x122000 x122001 x122002 x122003 x122004 x122005 x122006 x122007 x122008 x122009 x122010 x122011 x122012 x122013 x122014 x122015 x122016 x122017)) else (none))
def spec_CredBytes.l0 : Nat → ByteArray → List Int → Int → Int → ByteArray → List ByteArray → Int → ByteArray → List ByteArray → Int → Int → ByteArray → Int → Int → Int → Int → Bool → Int → List (S63) → List (S63) → ByteArray → ByteArray → Option (ByteArray)
  | 0, _, _, _, _, _, _, _, _, _, _, _, _, _, _, _, _, _, _, _, _, _, _ => none
  | k + 1, x5, x44, x45, x46, x122000, x122001, x122002, x122003, x122004, x122005, x122006, x122007, x122008, x122009, x122010, x122011, x122012, x122013, x122014, x122015, x122016, x122017 => if x46 < x45 then (if 0 ≤ x46 then (if x46 < (x44.length : Int) then ((spec_big.f (IntKind.u64.wrap (rd x44 x46)) 4).bind fun t131 => (if x5.size + t131.size ≤ 9223372036854775807 then (spec_CredBytes.l0 k (x5 ++ t131) x44 x45 (wrap64 (x46 + 1)) x122000 x122001 x122002 x122003 x122004 x122005 x122006 x122007 x122008 x122009 x122010 x122011 x122012 x122013 x122014 x122015 x122016 x122017) else (none))) else (none)) else (none)) else (if x122012 = true then (spec_CredBytes.j2 k x5 1 x122000 x122001 x122002 x122003 x122004 x122005 x122006 x122007 x122008 x122009 x122010 x122011 x122012 x122013 x122014 x122015 x122016 x122017) else (spec_CredBytes.j2 k x5 0 x122000 x122001 x122002 x122003 x122004 x122005 x122006 x122007 x122008 x122009 x122010 x122011 x122012 x122013 x122014 x122015 x122016 x122017))
def spec_CredBytes.j2 : Nat → ByteArray → Int → ByteArray → List ByteArray → Int → ByteArray → List ByteArray → Int → Int → ByteArray → Int → Int → Int → Int → Bool → Int → List (S63) → List (S63) → ByteArray → ByteArray → Option (ByteArray)
  | 0, _, _, _, _, _, _, _, _, _, _, _, _, _, _, _, _, _, _, _, _ => none
  | k + 1, x5, x8, x122000, x122001, x122002, x122003, x122004, x122005, x122006, x122007, x122008, x122009, x122010, x122011, x122012, x122013, x122014, x122015, x122016, x122017 => (spec_big.f x8 1).bind fun t132 => (if x5.size + t132.size ≤ 9223372036854775807 then ((spec_big.f (IntKind.u64.wrap (x122013)) 4).bind fun t133 => (if (x5 ++ t132).size + t133.size ≤ 9223372036854775807 then ((spec_partsBytes.f k x122014).bind fun t134 => (if ((x5 ++ t132) ++ t133).size + t134.size ≤ 9223372036854775807 then ((spec_partsBytes.f k x122015).bind fun t135 => (if (((x5 ++ t132) ++ t133) ++ t134).size + t135.size ≤ 9223372036854775807 then ((spec_counted.f x122016 4).bind fun t136 => (if ((((x5 ++ t132) ++ t133) ++ t134) ++ t135).size + t136.size ≤ 9223372036854775807 then ((spec_counted.f x122017 4).bind fun t137 => (if (((((x5 ++ t132) ++ t133) ++ t134) ++ t135) ++ t136).size + t137.size ≤ 9223372036854775807 then (some ((((((x5 ++ t132) ++ t133) ++ t134) ++ t135) ++ t136) ++ t137)) else (none))) else (none))) else (none))) else (none))) else (none))) else (none))
end
def spec_CredBytes.f (k : Nat) (a0_0 : ByteArray) (l0_1 : List ByteArray) (a0_2 : Int) (a0_3 : ByteArray) (l0_4 : List ByteArray) (a0_5 : Int) (a0_6 : Int) (a0_7 : ByteArray) (a0_8 : Int) (a0_9 : Int) (a0_10 : Int) (a0_11 : Int) (a0_12 : Bool) (a0_13 : Int) (l0_14 : List (S63)) (l0_15 : List (S63)) (a0_16 : ByteArray) (a0_17 : ByteArray) (a1 : Int) : Option (ByteArray) := (spec_nameBytes.f k a0_0 l0_1 a0_2).bind fun t122 => ((spec_nameBytes.f k a0_3 l0_4 a0_5).bind fun t123 => (if t122.size + t123.size ≤ 9223372036854775807 then ((spec_big.f (IntKind.u64.wrap (IntKind.u16.wrap (a0_6))) 2).bind fun t124 => (if (t122 ++ t123).size + t124.size ≤ 9223372036854775807 then (if a1 = 3 then ((spec_big.f (IntKind.u64.wrap (IntKind.u16.wrap (a0_6))) 2).bind fun t125 => (if ((t122 ++ t123) ++ t124).size + t125.size ≤ 9223372036854775807 then (spec_CredBytes.j0 k (((t122 ++ t123) ++ t124) ++ t125) a0_0 l0_1 a0_2 a0_3 l0_4 a0_5 a0_6 a0_7 a0_8 a0_9 a0_10 a0_11 a0_12 a0_13 l0_14 l0_15 a0_16 a0_17) else (none))) else (spec_CredBytes.j0 k ((t122 ++ t123) ++ t124) a0_0 l0_1 a0_2 a0_3 l0_4 a0_5 a0_6 a0_7 a0_8 a0_9 a0_10 a0_11 a0_12 a0_13 l0_14 l0_15 a0_16 a0_17)) else (none))) else (none)))
set_option maxRecDepth 100000 in
theorem spec_CredBytes.mono_l : ∀ k, (∀ y0 y1 y2 y3 y4 y5 y6 y7 y8 y9 y10 y11 y12 y13 y14 y15 y16 y17 y18, LeO (spec_CredBytes.j0 k y0 y1 y2 y3 y4 y5 y6 y7 y8 y9 y10 y11 y12 y13 y14 y15 y16 y17 y18) (spec_CredBytes.j0 (k + 1) y0 y1 y2 y3 y4 y5 y6 y7 y8 y9 y10 y11 y12 y13 y14 y15 y16 y17 y18)) ∧ (∀ y0 y1 y2 y3 y4 y5 y6 y7 y8 y9 y10 y11 y12 y13 y14 y15 y16 y17 y18 y19 y20 y21, LeO (spec_CredBytes.l0 k y0 y1 y2 y3 y4 y5 y6 y7 y8 y9 y10 y11 y12 y13 y14 y15 y16 y17 y18 y19 y20 y21) (spec_CredBytes.l0 (k + 1) y0 y1 y2 y3 y4 y5 y6 y7 y8 y9 y10 y11 y12 y13 y14 y15 y16 y17 y18 y19 y20 y21)) ∧ (∀ y0 y1 y2 y3 y4 y5 y6 y7 y8 y9 y10 y11 y12 y13 y14 y15 y16 y17 y18 y19, LeO (spec_CredBytes.j2 k y0 y1 y2 y3 y4 y5 y6 y7 y8 y9 y10 y11 y12 y13 y14 y15 y16 y17 y18 y19) (spec_CredBytes.j2 (k + 1) y0 y1 y2 y3 y4 y5 y6 y7 y8 y9 y10 y11 y12 y13 y14 y15 y16 y17 y18 y19))
  | 0 => ⟨fun _ _ _ _ _ _ _ _ _ _ _ _ _ _ _ _ _ _ _ r h => by simp [spec_CredBytes.j0] at h, fun _ _ _ _ _ _ _ _ _ _ _ _ _ _ _ _ _ _ _ _ _ _ r h => by simp [spec_CredBytes.l0] at h, fun _ _ _ _ _ _ _ _ _ _ _ _ _ _ _ _ _ _ _ _ r h => by simp [spec_CredBytes.j2] at h⟩
  | k + 1 => by
    obtain ⟨ih0, ih1, ih2⟩ := spec_CredBytes.mono_l k
    refine ⟨?_, ?_, ?_⟩
    · intro y0 y1 y2 y3 y4 y5 y6 y7 y8 y9 y10 y11 y12 y13 y14 y15 y16 y17 y18
      unfold spec_CredBytes.j0
      repeat' first
      | (with_reducible exact ih0 _ _ _ _ _ _ _ _ _ _ _ _ _ _ _ _ _ _ _)
      | (with_reducible exact ih1 _ _ _ _ _ _ _ _ _ _ _ _ _ _ _ _ _ _ _ _ _ _)
      | (with_reducible exact ih2 _ _ _ _ _ _ _ _ _ _ _ _ _ _ _ _ _ _ _ _)
      | (with_reducible exact spec_nameBytes.mono _ _ _ _)
      | (with_reducible exact spec_partsBytes.mono _ _)
      | (with_reducible exact LeO.refl _)
      | (with_reducible exact LeO.none _)
      | (with_reducible refine LeO.ite ?_ ?_)
      | (with_reducible refine LeO.bind ?_ (fun _ => ?_))
      | exact ih0 _ _ _ _ _ _ _ _ _ _ _ _ _ _ _ _ _ _ _
      | exact ih1 _ _ _ _ _ _ _ _ _ _ _ _ _ _ _ _ _ _ _ _ _ _
      | exact ih2 _ _ _ _ _ _ _ _ _ _ _ _ _ _ _ _ _ _ _ _
      | exact spec_nameBytes.mono _ _ _ _
      | exact spec_partsBytes.mono _ _
      | exact LeO.none _
      | refine LeO.ite ?_ ?_
      | refine LeO.bind ?_ (fun _ => ?_)
    · intro y0 y1 y2 y3 y4 y5 y6 y7 y8 y9 y10 y11 y12 y13 y14 y15 y16 y17 y18 y19 y20 y21
      unfold spec_CredBytes.l0
      repeat' first
      | (with_reducible exact ih0 _ _ _ _ _ _ _ _ _ _ _ _ _ _ _ _ _ _ _)
      | (with_reducible exact ih1 _ _ _ _ _ _ _ _ _ _ _ _ _ _ _ _ _ _ _ _ _ _)
      | (with_reducible exact ih2 _ _ _ _ _ _ _ _ _ _ _ _ _ _ _ _ _ _ _ _)
      | (with_reducible exact spec_nameBytes.mono _ _ _ _)
      | (with_reducible exact spec_partsBytes.mono _ _)
      | (with_reducible exact LeO.refl _)
      | (with_reducible exact LeO.none _)
      | (with_reducible refine LeO.ite ?_ ?_)
      | (with_reducible refine LeO.bind ?_ (fun _ => ?_))
      | exact ih0 _ _ _ _ _ _ _ _ _ _ _ _ _ _ _ _ _ _ _
      | exact ih1 _ _ _ _ _ _ _ _ _ _ _ _ _ _ _ _ _ _ _ _ _ _
      | exact ih2 _ _ _ _ _ _ _ _ _ _ _ _ _ _ _ _ _ _ _ _
      | exact spec_nameBytes.mono _ _ _ _
      | exact spec_partsBytes.mono _ _
      | exact LeO.none _
      | refine LeO.ite ?_ ?_
      | refine LeO.bind ?_ (fun _ => ?_)
    · intro y0 y1 y2 y3 y4 y5 y6 y7 y8 y9 y10 y11 y12 y13 y14 y15 y16 y17 y18 y19
      unfold spec_CredBytes.j2
      repeat' first
      | (with_reducible exact ih0 _ _ _ _ _ _ _ _ _ _ _ _ _ _ _ _ _ _ _)
      | (with_reducible exact ih1 _ _ _ _ _ _ _ _ _ _ _ _ _ _ _ _ _ _ _ _ _ _)
      | (with_reducible exact ih2 _ _ _ _ _ _ _ _ _ _ _ _ _ _ _ _ _ _ _ _)
      | (with_reducible exact spec_nameBytes.mono _ _ _ _)
      | (with_reducible exact spec_partsBytes.mono _ _)
      | (with_reducible exact LeO.refl _)
      | (with_reducible exact LeO.none _)
      | (with_reducible refine LeO.ite ?_ ?_)
      | (with_reducible refine LeO.bind ?_ (fun _ => ?_))
      | exact ih0 _ _ _ _ _ _ _ _ _ _ _ _ _ _ _ _ _ _ _
      | exact ih1 _ _ _ _ _ _ _ _ _ _ _ _ _ _ _ _ _ _ _ _ _ _
      | exact ih2 _ _ _ _ _ _ _ _ _ _ _ _ _ _ _ _ _ _ _ _
      | exact spec_nameBytes.mono _ _ _ _
      | exact spec_partsBytes.mono _ _
      | exact LeO.none _
      | refine LeO.ite ?_ ?_
      | refine LeO.bind ?_ (fun _ => ?_)
set_option maxRecDepth 100000 in
theorem spec_CredBytes.mono : ∀ a0 a1 a2 a3 a4 a5 a6 a7 a8 a9 a10 a11 a12 a13 a14 a15 a16 a17 a18 k, LeO (spec_CredBytes.f k a0 a1 a2 a3 a4 a5 a6 a7 a8 a9 a10 a11 a12 a13 a14 a15 a16 a17 a18) (spec_CredBytes.f (k + 1) a0 a1 a2 a3 a4 a5 a6 a7 a8 a9 a10 a11 a12 a13 a14 a15 a16 a17 a18) := by
  intro a0 a1 a2 a3 a4 a5 a6 a7 a8 a9 a10 a11 a12 a13 a14 a15 a16 a17 a18 k
  obtain ⟨ih0, ih1, ih2⟩ := spec_CredBytes.mono_l k
  unfold spec_CredBytes.f
  repeat' first
      | (with_reducible exact ih0 _ _ _ _ _ _ _ _ _ _ _ _ _ _ _ _ _ _ _)
      | (with_reducible exact ih1 _ _ _ _ _ _ _ _ _ _ _ _ _ _ _ _ _ _ _ _ _ _)
      | (with_reducible exact ih2 _ _ _ _ _ _ _ _ _ _ _ _ _ _ _ _ _ _ _ _)
      | (with_reducible exact spec_nameBytes.mono _ _ _ _)
      | (with_reducible exact spec_partsBytes.mono _ _)
      | (with_reducible exact LeO.refl _)
      | (with_reducible exact LeO.none _)
      | (with_reducible refine LeO.ite ?_ ?_)
      | (with_reducible refine LeO.bind ?_ (fun _ => ?_))
      | exact ih0 _ _ _ _ _ _ _ _ _ _ _ _ _ _ _ _ _ _ _
      | exact ih1 _ _ _ _ _ _ _ _ _ _ _ _ _ _ _ _ _ _ _ _ _ _
      | exact ih2 _ _ _ _ _ _ _ _ _ _ _ _ _ _ _ _ _ _ _ _
      | exact spec_nameBytes.mono _ _ _ _
      | exact spec_partsBytes.mono _ _
      | exact LeO.none _
      | refine LeO.ite ?_ ?_
      | refine LeO.bind ?_ (fun _ => ?_)
def spec_CredBytes.T1 : Bool × List (List Nat × List Nat) := (true, [([], []), ([0], [0]), ([1], [1]), ([], []), ([3], [3]), ([4, 2], [4]), ([2, 5], [2, 5]), ([], []), ([7], [7]), ([8], [8]), ([9], [9]), ([10, 5], [10]), ([6, 11], [6, 11]), ([12, 11, 0, 1, 2, 3, 4, 5, 6, 7, 8, 9, 10, 11, 12], [12])])
def spec_CredBytes.B1 : List Nat := [0, 1, 3, 0, 8, 31, 63, 0, 128, 384, 896, 1983, 4095, 8191]
theorem spec_CredBytes.tab1 : rtab .any (opsOf Try.f14 1) = spec_CredBytes.T1 := by kernel_rfl
theorem spec_CredBytes.bits1 : waitsOk spec_CredBytes.T1.2 spec_CredBytes.B1 = true := by kernel_rfl
def spec_CredBytes.T13 : Bool × List (List Nat × List Nat) := (true, [([], []), ([], []), ([1], [1]), ([0, 2], [0, 2]), ([], []), ([4], [4]), ([5], [5]), ([6, 2], [6]), ([3, 7], [3, 7]), ([], []), ([9], [9]), ([10, 7], [10]), ([8, 11], [8, 11]), ([], []), ([13], [13]), ([14, 11], [14]), ([12, 15], [12, 15]), ([], []), ([17], [17]), ([18, 15], [18]), ([16, 19], [16, 19]), ([], []), ([21], [21]), ([22, 19], [22]), ([20, 23], [20, 23]), ([24, 23, 0, 1, 2, 3, 4, 5, 6, 7, 8, 9, 10, 11, 12, 13, 14, 15, 16, 17, 18, 19, 20, 21, 22, 23, 24], [24])])
def spec_CredBytes.B13 : List Nat := [0, 0, 2, 7, 0, 16, 48, 118, 255, 0, 512, 1782, 4095, 0, 8192, 28406, 65535, 0, 131072, 454390, 1048575, 0, 2097152, 7270134, 16777215, 33554431]
theorem spec_CredBytes.tab13 : rtab .any (opsOf Try.f14 13) = spec_CredBytes.T13 := by kernel_rfl
theorem spec_CredBytes.bits13 : waitsOk spec_CredBytes.T13.2 spec_CredBytes.B13 = true := by kernel_rfl
set_option maxHeartbeats 8000000 in
set_option maxRecDepth 100000 in
theorem spec_CredBytes.calls (k : Nat) (a0_0 : ByteArray) (A0_1 : Option Addr) (c0_1 : Nat) (l0_1 : List ByteArray) (a0_2 : Int) (a0_3 : ByteArray) (A0_4 : Option Addr) (c0_4 : Nat) (l0_4 : List ByteArray) (a0_5 : Int) (a0_6 : Int) (a0_7 : ByteArray) (a0_8 : Int) (a0_9 : Int) (a0_10 : Int) (a0_11 : Int) (a0_12 : Bool) (a0_13 : Int) (A0_14 : Option Addr) (c0_14 : Nat) (l0_14 : List (S63)) (A0_15 : Option Addr) (c0_15 : Nat) (l0_15 : List (S63)) (a0_16 : ByteArray) (a0_17 : ByteArray) (a1 : Int) (r : ByteArray) (w : World) (hr0_1 : Kd.C Kd.string w A0_1 l0_1.length l0_1) (hc0_1 : l0_1.length ≤ c0_1) (hr0_4 : Kd.C Kd.string w A0_4 l0_4.length l0_4) (hc0_4 : l0_4.length ≤ c0_4) (hr0_14 : Kd.C k63 w A0_14 l0_14.length l0_14) (hc0_14 : l0_14.length ≤ c0_14) (hr0_15 : Kd.C k63 w A0_15 l0_15.length l0_15) (hc0_15 : l0_15.length ≤ c0_15) (h : spec_CredBytes.f k a0_0 l0_1 a0_2 a0_3 l0_4 a0_5 a0_6 a0_7 a0_8 a0_9 a0_10 a0_11 a0_12 a0_13 l0_14 l0_15 a0_16 a0_17 a1 = some r) :
    Calls Try.prog 14 #[.agg #[.string a0_0, .slice A0_1 l0_1.length c0_1, .int .i32 a0_2, .string a0_3, .slice A0_4 l0_4.length c0_4, .int .i32 a0_5, .int .i32 a0_6, .string a0_7, .int .i64 a0_8, .int .i64 a0_9, .int .i64 a0_10, .int .i64 a0_11, .bool a0_12, .int .u32 a0_13, .slice A0_14 l0_14.length c0_14, .slice A0_15 l0_15.length c0_15, .string a0_16, .string a0_17], .int .u8 a1] w fun e w' => e = .returned (.string r) ∧ Below w.heap.size w w' := by
  have hu36 := Try.underlying36
  have hu24 := Try.underlying24
  have HR0_1 := Aside0.mk hr0_1
  have HC0_1 := Aside0.mk hc0_1
  clear hr0_1 hc0_1
  have HR0_4 := Aside0.mk hr0_4
  have HC0_4 := Aside0.mk hc0_4
  clear hr0_4 hc0_4
  have HR0_14 := Aside0.mk hr0_14
  have HC0_14 := Aside0.mk hc0_14
  clear hr0_14 hc0_14
  have HR0_15 := Aside0.mk hr0_15
  have HC0_15 := Aside0.mk hc0_15
  clear hr0_15 hc0_15
  have HB := Aside0.mk (Below.refl w.heap.size w)
  have H : ((spec_nameBytes.f k a0_0 l0_1 a0_2).bind fun t122 => ((spec_nameBytes.f k a0_3 l0_4 a0_5).bind fun t123 => (if t122.size + t123.size ≤ 9223372036854775807 then ((spec_big.f (IntKind.u64.wrap (IntKind.u16.wrap (a0_6))) 2).bind fun t124 => (if (t122 ++ t123).size + t124.size ≤ 9223372036854775807 then (if a1 = 3 then ((spec_big.f (IntKind.u64.wrap (IntKind.u16.wrap (a0_6))) 2).bind fun t125 => (if ((t122 ++ t123) ++ t124).size + t125.size ≤ 9223372036854775807 then (spec_CredBytes.j0 k (((t122 ++ t123) ++ t124) ++ t125) a0_0 l0_1 a0_2 a0_3 l0_4 a0_5 a0_6 a0_7 a0_8 a0_9 a0_10 a0_11 a0_12 a0_13 l0_14 l0_15 a0_16 a0_17) else (none))) else (spec_CredBytes.j0 k ((t122 ++ t123) ++ t124) a0_0 l0_1 a0_2 a0_3 l0_4 a0_5 a0_6 a0_7 a0_8 a0_9 a0_10 a0_11 a0_12 a0_13 l0_14 l0_15 a0_16 a0_17)) else (none))) else (none)))) = some r := h
  clear h
  replace H := Option.bind_eq_some_iff.mp H
  obtain ⟨t122, A30, H⟩ := H
  replace H : ((spec_nameBytes.f k a0_3 l0_4 a0_5).bind fun t123 => (if t122.size + t123.size ≤ 9223372036854775807 then ((spec_big.f (IntKind.u64.wrap (IntKind.u16.wrap (a0_6))) 2).bind fun t124 => (if (t122 ++ t123).size + t124.size ≤ 9223372036854775807 then (if a1 = 3 then ((spec_big.f (IntKind.u64.wrap (IntKind.u16.wrap (a0_6))) 2).bind fun t125 => (if ((t122 ++ t123) ++ t124).size + t125.size ≤ 9223372036854775807 then (spec_CredBytes.j0 k (((t122 ++ t123) ++ t124) ++ t125) a0_0 l0_1 a0_2 a0_3 l0_4 a0_5 a0_6 a0_7 a0_8 a0_9 a0_10 a0_11 a0_12 a0_13 l0_14 l0_15 a0_16 a0_17) else (none))) else (spec_CredBytes.j0 k ((t122 ++ t123) ++ t124) a0_0 l0_1 a0_2 a0_3 l0_4 a0_5 a0_6 a0_7 a0_8 a0_9 a0_10 a0_11 a0_12 a0_13 l0_14 l0_15 a0_16 a0_17)) else (none))) else (none))) = some r := H
  have A3 := Aside0.mk A30
  clear A30
  replace H := Option.bind_eq_some_iff.mp H
  obtain ⟨t123, A40, H⟩ := H
  replace H : (if t122.size + t123.size ≤ 9223372036854775807 then ((spec_big.f (IntKind.u64.wrap (IntKind.u16.wrap (a0_6))) 2).bind fun t124 => (if (t122 ++ t123).size + t124.size ≤ 9223372036854775807 then (if a1 = 3 then ((spec_big.f (IntKind.u64.wrap (IntKind.u16.wrap (a0_6))) 2).bind fun t125 => (if ((t122 ++ t123) ++ t124).size + t125.size ≤ 9223372036854775807 then (spec_CredBytes.j0 k (((t122 ++ t123) ++ t124) ++ t125) a0_0 l0_1 a0_2 a0_3 l0_4 a0_5 a0_6 a0_7 a0_8 a0_9 a0_10 a0_11 a0_12 a0_13 l0_14 l0_15 a0_16 a0_17) else (none))) else (spec_CredBytes.j0 k ((t122 ++ t123) ++ t124) a0_0 l0_1 a0_2 a0_3 l0_4 a0_5 a0_6 a0_7 a0_8 a0_9 a0_10 a0_11 a0_12 a0_13 l0_14 l0_15 a0_16 a0_17)) else (none))) else (none)) = some r := H
  have A4 := Aside0.mk A40
  clear A40
  by_cases c5 : t122.size + t123.size ≤ 9223372036854775807
  · rw [if_pos c5] at H
    have c5b0 := eq_true c5
    have c5b1 : decide (t122.size + t123.size ≤ 9223372036854775807) = true := decide_eq_true c5
    try have c5b2 : (9223372036854775807 < t122.size + t123.size) = False := eq_false (Nat.not_lt.2 c5)
    replace H := Option.bind_eq_some_iff.mp H
    obtain ⟨t124, A60, H⟩ := H
    replace H : (if (t122 ++ t123).size + t124.size ≤ 9223372036854775807 then (if a1 = 3 then ((spec_big.f (IntKind.u64.wrap (IntKind.u16.wrap (a0_6))) 2).bind fun t125 => (if ((t122 ++ t123) ++ t124).size + t125.size ≤ 9223372036854775807 then (spec_CredBytes.j0 k (((t122 ++ t123) ++ t124) ++ t125) a0_0 l0_1 a0_2 a0_3 l0_4 a0_5 a0_6 a0_7 a0_8 a0_9 a0_10 a0_11 a0_12 a0_13 l0_14 l0_15 a0_16 a0_17) else (none))) else (spec_CredBytes.j0 k ((t122 ++ t123) ++ t124) a0_0 l0_1 a0_2 a0_3 l0_4 a0_5 a0_6 a0_7 a0_8 a0_9 a0_10 a0_11 a0_12 a0_13 l0_14 l0_15 a0_16 a0_17)) else (none)) = some r := H
    have A6 := Aside0.mk A60
    clear A60
    by_cases c7 : (t122 ++ t123).size + t124.size ≤ 9223372036854775807
    · rw [if_pos c7] at H
      have c7b0 := eq_true c7
      have c7b1 : decide ((t122 ++ t123).size + t124.size ≤ 9223372036854775807) = true := decide_eq_true c7
      try have c7b2 : (9223372036854775807 < (t122 ++ t123).size + t124.size) = False := eq_false (Nat.not_lt.2 c7)
      try (have c7b3 := c7b2; simp only [ByteArray.size_append] at c7b3)
      have HC8 := Aside0.mk H
      clear H
      go_enter Try.func14, Try.ntmps14
      try go_wp2_with (first | ((with_reducible refine gate_dst (N := 2) rfl ?_); refine box_event ?hg (N := 2) ?hd (cs := #[.string a0_0, .slice A0_1 l0_1.length c0_1, .int .i32 a0_2, .string a0_3, .slice A0_4 l0_4.length c0_4, .int .i32 a0_5, .int .i32 a0_6, .string a0_7, .int .i64 a0_8, .int .i64 a0_9, .int .i64 a0_10, .int .i64 a0_11, .bool a0_12, .int .u32 a0_13, .slice A0_14 l0_14.length c0_14, .slice A0_15 l0_15.length c0_15, .string a0_16, .string a0_17]) (t := 36) ?hr ?_; (case hd => rfl); (case hg => rfl); (case hr => first | (go_simp; done) | (go_simp; rfl)); intro gb121 hg w9 hbox hb; have n0_ := Aside0.mk (below_step (by repeat (first | (with_reducible first | exact HB.out | apply below_alloc | apply pw_below_drewN | apply below_drew1) | exact HB.out)) hb); have n1_ := Aside0.mk (hbox); have n2_ := Aside0.mk ((by rw [hg]; exact (below_size (by repeat (first | (with_reducible first | exact HB.out | apply below_alloc | apply pw_below_drewN | apply below_drew1) | exact HB.out))) : w.heap.size ≤ gb121)); have n3_ := Aside0.mk ((by rw [hg]; exact (below_size (by repeat (first | (with_reducible first | exact HB.out | apply below_alloc | apply pw_below_drewN | apply below_drew1) | exact HB.out))) : w.heap.size ≤ gb121)); clear HB; have HB := n0_; have BK121 := n1_; have GW121 := n2_; have GE121 := n3_; clear n0_ n1_ n2_ n3_; clear hb hbox hg))
      have n0_ := Aside0.mk (blk_drew BK121.out)
      have n1_ := Aside0.mk (below_drew1 HB.out)
      clear BK121
      clear HB
      have BK121 := n0_
      have HB := n1_
      clear n0_ n1_
      refine start_ (n := 14) (S := fun w' => w'.cell? ⟨gb121, 0, none⟩ = some (.string a0_0) ∧ w'.cell? ⟨gb121, 1, none⟩ = some (.slice A0_1 l0_1.length c0_1) ∧ w'.cell? ⟨gb121, 2, none⟩ = some (.int .i32 a0_2) ∧ w'.cell? ⟨gb121, 3, none⟩ = some (.string a0_3) ∧ w'.cell? ⟨gb121, 4, none⟩ = some (.slice A0_4 l0_4.length c0_4) ∧ w'.cell? ⟨gb121, 5, none⟩ = some (.int .i32 a0_5) ∧ w'.cell? ⟨gb121, 6, none⟩ = some (.int .i32 a0_6) ∧ w'.cell? ⟨gb121, 7, none⟩ = some (.string a0_7) ∧ w'.cell? ⟨gb121, 8, none⟩ = some (.int .i64 a0_8) ∧ w'.cell? ⟨gb121, 9, none⟩ = some (.int .i64 a0_9) ∧ w'.cell? ⟨gb121, 10, none⟩ = some (.int .i64 a0_10) ∧ w'.cell? ⟨gb121, 11, none⟩ = some (.int .i64 a0_11) ∧ w'.cell? ⟨gb121, 12, none⟩ = some (.bool a0_12) ∧ w'.cell? ⟨gb121, 13, none⟩ = some (.int .u32 a0_13) ∧ w'.cell? ⟨gb121, 14, none⟩ = some (.slice A0_14 l0_14.length c0_14) ∧ w'.cell? ⟨gb121, 15, none⟩ = some (.slice A0_15 l0_15.length c0_15) ∧ w'.cell? ⟨gb121, 16, none⟩ = some (.string a0_16) ∧ w'.cell? ⟨gb121, 17, none⟩ = some (.string a0_17)) (ds := []) #[false, false, false, false, false, false, false, false, false, false, false, false, false, false] (by kernel_rfl) rfl rfl ⟨(blk_cell BK121.out 0).trans rfl, (blk_cell BK121.out 1).trans rfl, (blk_cell BK121.out 2).trans rfl, (blk_cell BK121.out 3).trans rfl, (blk_cell BK121.out 4).trans rfl, (blk_cell BK121.out 5).trans rfl, (blk_cell BK121.out 6).trans rfl, (blk_cell BK121.out 7).trans rfl, (blk_cell BK121.out 8).trans rfl, (blk_cell BK121.out 9).trans rfl, (blk_cell BK121.out 10).trans rfl, (blk_cell BK121.out 11).trans rfl, (blk_cell BK121.out 12).trans rfl, (blk_cell BK121.out 13).trans rfl, (blk_cell BK121.out 14).trans rfl, (blk_cell BK121.out 15).trans rfl, (blk_cell BK121.out 16).trans rfl, (blk_cell BK121.out 17).trans rfl⟩ (fun hHeld => ?_); refine with_tabW spec_CredBytes.tab1 spec_CredBytes.bits1 (fun HT_ HW_ => ?_)
      generalize w9.drew = w10 at BK121 HB hHeld ⊢
      refine pure_ (i := 0) (N := some 9) (v := ?_) (a' := ?_) #[true, false, false, false, false, false, false, false, false, false, false, false, false, false] rfl rfl (any_of HT_.out (by kernel_rfl)) (fun _ _ _ h => h) (Or.inl ⟨by rfl, ?_⟩) ?_ ?_
      rotate_left
      · intro w'
        go_simp
        with_reducible rfl
      rotate_left
      · simp only [Act.put, List.setIfInBounds_toArray, List.set_cons_zero, List.set_cons_succ, i64_w, i32_w]
        rfl
      refine pure_ (i := 3) (N := some 12) (v := ?_) (a' := ?_) #[true, false, false, true, false, false, false, false, false, false, false, false, false, false] rfl rfl (any_of HT_.out (by kernel_rfl)) (fun _ _ _ h => h) (Or.inl ⟨by rfl, ?_⟩) ?_ ?_
      rotate_left
      · intro w'
        go_simp
        with_reducible rfl
      rotate_left
      · simp only [Act.put, List.setIfInBounds_toArray, List.set_cons_zero, List.set_cons_succ, i64_w, i32_w]
        rfl
      refine pure_ (i := 7) (N := some 16) (v := ?_) (a' := ?_) #[true, false, false, true, false, false, false, true, false, false, false, false, false, false] rfl rfl (any_of HT_.out (by kernel_rfl)) (fun _ _ _ h => h) (Or.inl ⟨by rfl, ?_⟩) ?_ ?_
      rotate_left
      · intro w'
        go_simp
        with_reducible rfl
      rotate_left
      · simp only [Act.put, List.setIfInBounds_toArray, List.set_cons_zero, List.set_cons_succ, i64_w, i32_w]
        rfl
      refine take_ (i := 1) (N := some 10) (v := ?_) (a' := ?_) #[true, true, false, true, false, false, false, true, false, false, false, false, false, false] rfl rfl (take_ofW HT_.out HW_.out (by kernel_rfl)) (fun _ _ _ h => h) (Or.inl ⟨by rfl, ?_⟩) hHeld ?_ ?_
      rotate_left
      · rintro w' ⟨s0, s1, s2, s3, s4, s5, s6, s7, s8, s9, s10, s11, s12, s13, s14, s15, s16, s17⟩
        go_simp
        with_reducible rfl
      rotate_left
      · simp only [Act.put, List.setIfInBounds_toArray, List.set_cons_zero, List.set_cons_succ, i64_w, i32_w]
        rfl
      refine take_ (i := 4) (N := some 13) (v := ?_) (a' := ?_) #[true, true, false, true, true, false, false, true, false, false, false, false, false, false] rfl rfl (take_ofW HT_.out HW_.out (by kernel_rfl)) (fun _ _ _ h => h) (Or.inl ⟨by rfl, ?_⟩) hHeld ?_ ?_
      rotate_left
      · rintro w' ⟨s0, s1, s2, s3, s4, s5, s6, s7, s8, s9, s10, s11, s12, s13, s14, s15, s16, s17⟩
        go_simp
        with_reducible rfl
      rotate_left
      · simp only [Act.put, List.setIfInBounds_toArray, List.set_cons_zero, List.set_cons_succ, i64_w, i32_w]
        rfl
      refine take_ (i := 8) (N := some 17) (v := ?_) (a' := ?_) #[true, true, false, true, true, false, false, true, true, false, false, false, false, false] rfl rfl (take_ofW HT_.out HW_.out (by kernel_rfl)) (fun _ _ _ h => h) (Or.inl ⟨by rfl, ?_⟩) hHeld ?_ ?_
      rotate_left
      · rintro w' ⟨s0, s1, s2, s3, s4, s5, s6, s7, s8, s9, s10, s11, s12, s13, s14, s15, s16, s17⟩
        go_simp
        with_reducible rfl
      rotate_left
      · simp only [Act.put, List.setIfInBounds_toArray, List.set_cons_zero, List.set_cons_succ, i64_w, i32_w]
        rfl
      refine pure_ (i := 9) (N := some 18) (v := ?_) (a' := ?_) #[true, true, false, true, true, false, false, true, true, true, false, false, false, false] rfl rfl (any_of HT_.out (by kernel_rfl)) (fun _ _ _ h => h) (Or.inl ⟨by rfl, ?_⟩) ?_ ?_
      rotate_left
      · intro w'
        go_simp
        with_reducible rfl
      rotate_left
      · simp only [Act.put, List.setIfInBounds_toArray, List.set_cons_zero, List.set_cons_succ, i64_w, i32_w]
        rfl
      refine pure_ (i := 10) (N := some 19) (v := ?_) (a' := ?_) #[true, true, false, true, true, false, false, true, true, true, true, false, false, false] rfl rfl (any_of HT_.out (by kernel_rfl)) (fun _ _ _ h => h) (Or.inl ⟨by rfl, ?_⟩) ?_ ?_
      rotate_left
      · intro w'
        go_simp
        with_reducible rfl
      rotate_left
      · simp only [Act.put, List.setIfInBounds_toArray, List.set_cons_zero, List.set_cons_succ, i64_w, i32_w]
        rfl
      refine one_ (i := 2) (N := some 11) #[true, true, true, true, true, false, false, true, true, true, true, false, false, false] rfl rfl (one_of HT_.out (by kernel_rfl)) (by decide) (fun K hK => ?_)
      refine goes_ Try.func29 (by kernel_rfl) rfl #[.agg #[.string a0_0, .slice A0_1 l0_1.length c0_1, .int .i32 a0_2]] (by rfl) rfl rfl (by (try simp only [List.map_toArray, List.map_cons, List.map_nil]); first | done | rfl | (simp only [List.length_drop, List.length_take]; rfl) | (rw [← B.u64u32]; rfl)) ?_
      with_reducible refine (spec_nameBytes.calls k a0_0 _ _ l0_1 a0_2 t122 _ ?side1 ?side2 A3.out).mono ?_
      (case side1 => repeat (first | exact (Kd.C_below HR0_1.out HB.out) | (with_reducible refine Kd.C_alloc ?_ _) | (with_reducible refine Kd.C_drewN ?_ _) | (with_reducible refine Kd.C_drew ?_)))
      (case side2 => exact HC0_1.out)
      rintro e w11 ⟨rfl, hb⟩
      refine ⟨_, rfl, ?_⟩
      have n0_ := Aside0.mk (blk_below (g := gb121) (o := .cells #[.string a0_0, .slice A0_1 l0_1.length c0_1, .int .i32 a0_2, .string a0_3, .slice A0_4 l0_4.length c0_4, .int .i32 a0_5, .int .i32 a0_6, .string a0_7, .int .i64 a0_8, .int .i64 a0_9, .int .i64 a0_10, .int .i64 a0_11, .bool a0_12, .int .u32 a0_13, .slice A0_14 l0_14.length c0_14, .slice A0_15 l0_15.length c0_15, .string a0_16, .string a0_17] 36 (0, 0)) (by (with_reducible repeat (first | refine blk_drewN ?_ _ | refine blk_drew ?_ | refine blk_alloc ?_ _)); exact BK121.out) hb)
      have n1_ := Aside0.mk (below_step (by repeat (first | (with_reducible first | exact HB.out | apply below_alloc | apply pw_below_drewN | apply below_drew1 | refine below_set ?_ GE121.out) | exact HB.out)) hb)
      clear BK121
      clear HB
      have BK121 := n0_
      have HB := n1_
      clear n0_ n1_
      (try clear hb)
      (try clear hb2)
      (try clear hk)
      (try clear hi)
      refine hK.out _ _ ⟨(blk_cell BK121.out 0).trans rfl, (blk_cell BK121.out 1).trans rfl, (blk_cell BK121.out 2).trans rfl, (blk_cell BK121.out 3).trans rfl, (blk_cell BK121.out 4).trans rfl, (blk_cell BK121.out 5).trans rfl, (blk_cell BK121.out 6).trans rfl, (blk_cell BK121.out 7).trans rfl, (blk_cell BK121.out 8).trans rfl, (blk_cell BK121.out 9).trans rfl, (blk_cell BK121.out 10).trans rfl, (blk_cell BK121.out 11).trans rfl, (blk_cell BK121.out 12).trans rfl, (blk_cell BK121.out 13).trans rfl, (blk_cell BK121.out 14).trans rfl, (blk_cell BK121.out 15).trans rfl, (blk_cell BK121.out 16).trans rfl, (blk_cell BK121.out 17).trans rfl⟩ (fun hHeld => ?_)
      clear hK K
      refine norm_ (a' := ?_) ?_ ?_
      rotate_left
      · show Act.put _ (some 11) _ = _
        simp only [Act.put, List.setIfInBounds_toArray, List.set_cons_zero, List.set_cons_succ, i64_w, i32_w]
        rfl
      refine one_ (i := 5) (N := some 14) #[true, true, true, true, true, true, false, true, true, true, true, false, false, false] rfl rfl (one_of HT_.out (by kernel_rfl)) (by decide) (fun K hK => ?_)
      refine goes_ Try.func29 (by kernel_rfl) rfl #[.agg #[.string a0_3, .slice A0_4 l0_4.length c0_4, .int .i32 a0_5]] (by rfl) rfl rfl (by (try simp only [List.map_toArray, List.map_cons, List.map_nil]); first | done | rfl | (simp only [List.length_drop, List.length_take]; rfl) | (rw [← B.u64u32]; rfl)) ?_
      with_reducible refine (spec_nameBytes.calls k a0_3 _ _ l0_4 a0_5 t123 _ ?side1 ?side2 A4.out).mono ?_
      (case side1 => repeat (first | exact (Kd.C_below HR0_4.out HB.out) | (with_reducible refine Kd.C_alloc ?_ _) | (with_reducible refine Kd.C_drewN ?_ _) | (with_reducible refine Kd.C_drew ?_)))
      (case side2 => exact HC0_4.out)
      rintro e w12 ⟨rfl, hb⟩
      refine ⟨_, rfl, ?_⟩
      have n0_ := Aside0.mk (blk_below (g := gb121) (o := .cells #[.string a0_0, .slice A0_1 l0_1.length c0_1, .int .i32 a0_2, .string a0_3, .slice A0_4 l0_4.length c0_4, .int .i32 a0_5, .int .i32 a0_6, .string a0_7, .int .i64 a0_8, .int .i64 a0_9, .int .i64 a0_10, .int .i64 a0_11, .bool a0_12, .int .u32 a0_13, .slice A0_14 l0_14.length c0_14, .slice A0_15 l0_15.length c0_15, .string a0_16, .string a0_17] 36 (0, 0)) (by (with_reducible repeat (first | refine blk_drewN ?_ _ | refine blk_drew ?_ | refine blk_alloc ?_ _)); exact BK121.out) hb)
      have n1_ := Aside0.mk (below_step (by repeat (first | (with_reducible first | exact HB.out | apply below_alloc | apply pw_below_drewN | apply below_drew1 | refine below_set ?_ GE121.out) | exact HB.out)) hb)
      clear BK121
      clear HB
      have BK121 := n0_
      have HB := n1_
      clear n0_ n1_
      (try clear hb)
      (try clear hb2)
      (try clear hk)
      (try clear hi)
      refine hK.out _ _ ⟨(blk_cell BK121.out 0).trans rfl, (blk_cell BK121.out 1).trans rfl, (blk_cell BK121.out 2).trans rfl, (blk_cell BK121.out 3).trans rfl, (blk_cell BK121.out 4).trans rfl, (blk_cell BK121.out 5).trans rfl, (blk_cell BK121.out 6).trans rfl, (blk_cell BK121.out 7).trans rfl, (blk_cell BK121.out 8).trans rfl, (blk_cell BK121.out 9).trans rfl, (blk_cell BK121.out 10).trans rfl, (blk_cell BK121.out 11).trans rfl, (blk_cell BK121.out 12).trans rfl, (blk_cell BK121.out 13).trans rfl, (blk_cell BK121.out 14).trans rfl, (blk_cell BK121.out 15).trans rfl, (blk_cell BK121.out 16).trans rfl, (blk_cell BK121.out 17).trans rfl⟩ (fun hHeld => ?_)
      clear hK K
      refine norm_ (a' := ?_) ?_ ?_
      rotate_left
      · show Act.put _ (some 14) _ = _
        simp only [Act.put, List.setIfInBounds_toArray, List.set_cons_zero, List.set_cons_succ, i64_w, i32_w]
        rfl
      refine pure_ (i := 6) (N := some 15) (v := ?_) (a' := ?_) #[true, true, true, true, true, true, true, true, true, true, true, false, false, false] rfl rfl (any_of HT_.out (by kernel_rfl)) (fun _ _ _ h => h) (Or.inl ⟨by rfl, ?_⟩) ?_ ?_
      rotate_left
      · intro w'
        go_simp
        with_reducible rfl
      rotate_left
      · simp only [Act.put, List.setIfInBounds_toArray, List.set_cons_zero, List.set_cons_succ, i64_w, i32_w]
        rfl
      refine one_ (i := 11) (N := some 20) #[true, true, true, true, true, true, true, true, true, true, true, true, false, false] rfl rfl (one_of HT_.out (by kernel_rfl)) (by decide) (fun K hK => ?_)
      refine goes_ Try.func27 (by kernel_rfl) rfl #[.int .u64 (IntKind.u64.wrap (IntKind.u16.wrap (a0_6))), .int .i64 2] (by rfl) rfl rfl (by (try simp only [List.map_toArray, List.map_cons, List.map_nil]); first | done | rfl | (simp only [List.length_drop, List.length_take]; rfl) | (rw [← B.u64u32]; rfl)) ?_
      with_reducible refine (spec_big.calls (IntKind.u64.wrap (IntKind.u16.wrap (a0_6))) 2 t124 _ A6.out).mono ?_
      rintro e w13 ⟨rfl, hb⟩
      refine ⟨_, rfl, ?_⟩
      have n0_ := Aside0.mk (blk_below (g := gb121) (o := .cells #[.string a0_0, .slice A0_1 l0_1.length c0_1, .int .i32 a0_2, .string a0_3, .slice A0_4 l0_4.length c0_4, .int .i32 a0_5, .int .i32 a0_6, .string a0_7, .int .i64 a0_8, .int .i64 a0_9, .int .i64 a0_10, .int .i64 a0_11, .bool a0_12, .int .u32 a0_13, .slice A0_14 l0_14.length c0_14, .slice A0_15 l0_15.length c0_15, .string a0_16, .string a0_17] 36 (0, 0)) (by (with_reducible repeat (first | refine blk_drewN ?_ _ | refine blk_drew ?_ | refine blk_alloc ?_ _)); exact BK121.out) hb)
      have n1_ := Aside0.mk (below_step (by repeat (first | (with_reducible first | exact HB.out | apply below_alloc | apply pw_below_drewN | apply below_drew1 | refine below_set ?_ GE121.out) | exact HB.out)) hb)
      clear BK121
      clear HB
      have BK121 := n0_
      have HB := n1_
      clear n0_ n1_
      (try clear hb)
      (try clear hb2)
      (try clear hk)
      (try clear hi)
      refine hK.out _ _ ⟨(blk_cell BK121.out 0).trans rfl, (blk_cell BK121.out 1).trans rfl, (blk_cell BK121.out 2).trans rfl, (blk_cell BK121.out 3).trans rfl, (blk_cell BK121.out 4).trans rfl, (blk_cell BK121.out 5).trans rfl, (blk_cell BK121.out 6).trans rfl, (blk_cell BK121.out 7).trans rfl, (blk_cell BK121.out 8).trans rfl, (blk_cell BK121.out 9).trans rfl, (blk_cell BK121.out 10).trans rfl, (blk_cell BK121.out 11).trans rfl, (blk_cell BK121.out 12).trans rfl, (blk_cell BK121.out 13).trans rfl, (blk_cell BK121.out 14).trans rfl, (blk_cell BK121.out 15).trans rfl, (blk_cell BK121.out 16).trans rfl, (blk_cell BK121.out 17).trans rfl⟩ (fun hHeld => ?_)
      clear hK K
      refine norm_ (a' := ?_) ?_ ?_
      rotate_left
      · show Act.put _ (some 20) _ = _
        simp only [Act.put, List.setIfInBounds_toArray, List.set_cons_zero, List.set_cons_succ, i64_w, i32_w]
        rfl
      refine pure_ (i := 12) (N := some 21) (v := ?_) (a' := ?_) #[true, true, true, true, true, true, true, true, true, true, true, true, true, false] rfl rfl (any_of HT_.out (by kernel_rfl)) (fun _ _ _ h => h) (Or.inl ⟨by rfl, ?_⟩) ?_ ?_
      rotate_left
      · intro w'
        go_simp
        with_reducible rfl
      rotate_left
      · simp only [Act.put, List.setIfInBounds_toArray, List.set_cons_zero, List.set_cons_succ, i64_w, i32_w]
        rfl
      refine pure_ (i := 13) (N := some 5) (v := ?_) (a' := ?_) #[true, true, true, true, true, true, true, true, true, true, true, true, true, true] rfl rfl (any_of HT_.out (by kernel_rfl)) (fun _ _ _ h => h) (Or.inl ⟨by rfl, ?_⟩) ?_ ?_
      rotate_left
      · intro w'
        go_simp
        with_reducible rfl
      rotate_left
      · simp only [Act.put, List.setIfInBounds_toArray, List.set_cons_zero, List.set_cons_succ, i64_w, i32_w]
        rfl
      refine done_ (done_of HT_.out (by kernel_rfl)) ?_
      go_upto_if 23 with (fail)
      go_cut [5] (fun v5 wc => ∃ (kq : Nat) (x5_7 : ByteArray), v5 = .string x5_7 ∧ Aside0 (spec_CredBytes.j0 kq x5_7 a0_0 l0_1 a0_2 a0_3 l0_4 a0_5 a0_6 a0_7 a0_8 a0_9 a0_10 a0_11 a0_12 a0_13 l0_14 l0_15 a0_16 a0_17 = some r) ∧ Aside0 (kq ≤ k) ∧ Aside0 (wc.heap[gb121]? = some (.cells #[.string a0_0, (.slice A0_1 l0_1.length c0_1), .int .i32 a0_2, .string a0_3, (.slice A0_4 l0_4.length c0_4), .int .i32 a0_5, .int .i32 a0_6, .string a0_7, .int .i64 a0_8, .int .i64 a0_9, .int .i64 a0_10, .int .i64 a0_11, .bool a0_12, .int .u32 a0_13, (.slice A0_14 l0_14.length c0_14), (.slice A0_15 l0_15.length c0_15), .string a0_16, .string a0_17] 36 (0, 0))) ∧ Aside0 (Below w.heap.size w wc))
      case first =>
        have H := HC8.out
        clear HC8
        by_cases c14 : a1 = 3
        · rw [if_pos c14] at H
          have c14b0 : (a1 == 3) = true := beq_iff_eq.mpr c14
          have c14b1 : (a1 != 3) = false := bne_eq_false_iff_eq.mpr c14
          clear c14
          (first | rw [c14b0] | (simp only [i64_w, i32_w]; rw [c14b0]) | skip)
          replace H := Option.bind_eq_some_iff.mp H
          obtain ⟨t125, A150, H⟩ := H
          replace H : (if ((t122 ++ t123) ++ t124).size + t125.size ≤ 9223372036854775807 then (spec_CredBytes.j0 k (((t122 ++ t123) ++ t124) ++ t125) a0_0 l0_1 a0_2 a0_3 l0_4 a0_5 a0_6 a0_7 a0_8 a0_9 a0_10 a0_11 a0_12 a0_13 l0_14 l0_15 a0_16 a0_17) else (none)) = some r := H
          have A15 := Aside0.mk A150
          clear A150
          by_cases c16 : ((t122 ++ t123) ++ t124).size + t125.size ≤ 9223372036854775807
          · rw [if_pos c16] at H
            have c16b0 := eq_true c16
            have c16b1 : decide (((t122 ++ t123) ++ t124).size + t125.size ≤ 9223372036854775807) = true := decide_eq_true c16
            try have c16b2 : (9223372036854775807 < ((t122 ++ t123) ++ t124).size + t125.size) = False := eq_false (Nat.not_lt.2 c16)
            try (have c16b3 := c16b2; simp only [ByteArray.size_append] at c16b3)
            have H' := Aside0.mk H
            clear H
            have hcz17_0 : w13.cell? ⟨gb121, 0, none⟩ = some (.string a0_0) := (blk_cell BK121.out 0).trans rfl
            have hcz17_1 : w13.cell? ⟨gb121, 1, none⟩ = some (.slice A0_1 l0_1.length c0_1) := (blk_cell BK121.out 1).trans rfl
            have hcz17_2 : w13.cell? ⟨gb121, 2, none⟩ = some (.int .i32 a0_2) := (blk_cell BK121.out 2).trans rfl
            have hcz17_3 : w13.cell? ⟨gb121, 3, none⟩ = some (.string a0_3) := (blk_cell BK121.out 3).trans rfl
            have hcz17_4 : w13.cell? ⟨gb121, 4, none⟩ = some (.slice A0_4 l0_4.length c0_4) := (blk_cell BK121.out 4).trans rfl
            have hcz17_5 : w13.cell? ⟨gb121, 5, none⟩ = some (.int .i32 a0_5) := (blk_cell BK121.out 5).trans rfl
            have hcz17_6 : w13.cell? ⟨gb121, 6, none⟩ = some (.int .i32 a0_6) := (blk_cell BK121.out 6).trans rfl
            have hcz17_7 : w13.cell? ⟨gb121, 7, none⟩ = some (.string a0_7) := (blk_cell BK121.out 7).trans rfl
            have hcz17_8 : w13.cell? ⟨gb121, 8, none⟩ = some (.int .i64 a0_8) := (blk_cell BK121.out 8).trans rfl
            have hcz17_9 : w13.cell? ⟨gb121, 9, none⟩ = some (.int .i64 a0_9) := (blk_cell BK121.out 9).trans rfl
            have hcz17_10 : w13.cell? ⟨gb121, 10, none⟩ = some (.int .i64 a0_10) := (blk_cell BK121.out 10).trans rfl
            have hcz17_11 : w13.cell? ⟨gb121, 11, none⟩ = some (.int .i64 a0_11) := (blk_cell BK121.out 11).trans rfl
            have hcz17_12 : w13.cell? ⟨gb121, 12, none⟩ = some (.bool a0_12) := (blk_cell BK121.out 12).trans rfl
            have hcz17_13 : w13.cell? ⟨gb121, 13, none⟩ = some (.int .u32 a0_13) := (blk_cell BK121.out 13).trans rfl
            have hcz17_14 : w13.cell? ⟨gb121, 14, none⟩ = some (.slice A0_14 l0_14.length c0_14) := (blk_cell BK121.out 14).trans rfl
            have hcz17_15 : w13.cell? ⟨gb121, 15, none⟩ = some (.slice A0_15 l0_15.length c0_15) := (blk_cell BK121.out 15).trans rfl
            have hcz17_16 : w13.cell? ⟨gb121, 16, none⟩ = some (.string a0_16) := (blk_cell BK121.out 16).trans rfl
            have hcz17_17 : w13.cell? ⟨gb121, 17, none⟩ = some (.string a0_17) := (blk_cell BK121.out 17).trans rfl
            have hfz17_0 := blk_frozen BK121.out 0
            have hfz17_1 := blk_frozen BK121.out 1
            have hfz17_2 := blk_frozen BK121.out 2
            have hfz17_3 := blk_frozen BK121.out 3
            have hfz17_4 := blk_frozen BK121.out 4
            have hfz17_5 := blk_frozen BK121.out 5
            have hfz17_6 := blk_frozen BK121.out 6
            have hfz17_7 := blk_frozen BK121.out 7
            have hfz17_8 := blk_frozen BK121.out 8
            have hfz17_9 := blk_frozen BK121.out 9
            have hfz17_10 := blk_frozen BK121.out 10
            have hfz17_11 := blk_frozen BK121.out 11
            have hfz17_12 := blk_frozen BK121.out 12
            have hfz17_13 := blk_frozen BK121.out 13
            have hfz17_14 := blk_frozen BK121.out 14
            have hfz17_15 := blk_frozen BK121.out 15
            have hfz17_16 := blk_frozen BK121.out 16
            have hfz17_17 := blk_frozen BK121.out 17
            go_wp2_with (first | ((with_reducible refine gate_callee (f := 27) rfl ?_); refine goesL_ (some 29) rfl rfl Try.func27 (by kernel_rfl) rfl #[.int .u64 (IntKind.u64.wrap (IntKind.u16.wrap (a0_6))), .int .i64 2] rfl (by (try simp only [List.map_toArray, List.map_cons, List.map_nil]); first | done | rfl | (simp only [List.length_drop, List.length_take]; rfl) | (rw [← B.u64u32]; rfl)) ?_; (with_reducible refine (spec_big.calls (IntKind.u64.wrap (IntKind.u16.wrap (a0_6))) 2 t125 _ A15.out).mono ?_); rintro e w18 ⟨rfl, hb⟩; refine ⟨_, rfl, ?_⟩; have n0_ := Aside0.mk (blk_below (g := gb121) (o := .cells #[.string a0_0, .slice A0_1 l0_1.length c0_1, .int .i32 a0_2, .string a0_3, .slice A0_4 l0_4.length c0_4, .int .i32 a0_5, .int .i32 a0_6, .string a0_7, .int .i64 a0_8, .int .i64 a0_9, .int .i64 a0_10, .int .i64 a0_11, .bool a0_12, .int .u32 a0_13, .slice A0_14 l0_14.length c0_14, .slice A0_15 l0_15.length c0_15, .string a0_16, .string a0_17] 36 (0, 0)) (by (with_reducible repeat (first | refine blk_drewN ?_ _ | refine blk_drew ?_ | refine blk_alloc ?_ _)); exact BK121.out) hb); have n1_ := Aside0.mk (below_step (by repeat (first | (with_reducible first | exact HB.out | apply below_alloc | apply pw_below_drewN | apply below_drew1 | refine below_set ?_ GE121.out) | exact HB.out)) hb); clear BK121; clear HB; have BK121 := n0_; have HB := n1_; clear n0_ n1_; (try clear hb); (try clear hb2); (try clear hk); (try clear hi)))
            go_meet
            case rel => exact ⟨_, (((t122 ++ t123) ++ t124) ++ t125), (by first | rfl | (simp; done) | (simp [*]; done)), H', ⟨by first | omega | exact Nat.le_refl _⟩, ⟨by (with_reducible repeat (first | refine blk_drewN ?_ _ | refine blk_drew ?_ | refine blk_alloc ?_ _)); exact BK121.out⟩, ⟨by repeat (first | (with_reducible first | exact HB.out | apply below_alloc | apply pw_below_drewN | apply below_drew1 | refine below_set ?_ GE121.out) | exact HB.out)⟩⟩
          · rw [if_neg c16] at H
            exact absurd H (by simp)
        · rw [if_neg c14] at H
          have c14b0 : (a1 == 3) = false := beq_eq_false_iff_ne.mpr c14
          have c14b1 : (a1 != 3) = true := bne_iff_ne.mpr c14
          (first | rw [c14b0] | (simp only [i64_w, i32_w]; rw [c14b0]) | skip)
          have H' := Aside0.mk H
          clear H
          go_wp2
          go_meet
          case rel => exact ⟨_, ((t122 ++ t123) ++ t124), (by first | rfl | (simp; done) | (simp [*]; done)), H', ⟨by first | omega | exact Nat.le_refl _⟩, ⟨by (with_reducible repeat (first | refine blk_drewN ?_ _ | refine blk_drew ?_ | refine blk_alloc ?_ _)); exact BK121.out⟩, ⟨by repeat (first | (with_reducible first | exact HB.out | apply below_alloc | apply pw_below_drewN | apply below_drew1 | refine below_set ?_ GE121.out) | exact HB.out)⟩⟩
      case rest =>
        clear HC8
        try clear c1
        try clear c2
        try clear p2
        try clear c5
        try clear c5b0
        try clear c5b1
        try clear c5b2
        try clear c7
        try clear c7b0
        try clear c7b1
        try clear c7b2
        try clear c14
        try clear c14b0
        try clear c14b1
        try clear c16
        try clear c16b0
        try clear c16b1
        try clear c16b2
        try clear hcz17_0
        try clear hcz17_1
        try clear hcz17_10
        try clear hcz17_11
        try clear hcz17_12
        try clear hcz17_13
        try clear hcz17_14
        try clear hcz17_15
        try clear hcz17_16
        try clear hcz17_17
        try clear hcz17_2
        try clear hcz17_3
        try clear hcz17_4
        try clear hcz17_5
        try clear hcz17_6
        try clear hcz17_7
        try clear hcz17_8
        try clear hcz17_9
        try clear hfz17_0
        try clear hfz17_1
        try clear hfz17_10
        try clear hfz17_11
        try clear hfz17_12
        try clear hfz17_13
        try clear hfz17_14
        try clear hfz17_15
        try clear hfz17_16
        try clear hfz17_17
        try clear hfz17_2
        try clear hfz17_3
        try clear hfz17_4
        try clear hfz17_5
        try clear hfz17_6
        try clear hfz17_7
        try clear hfz17_8
        try clear hfz17_9
        obtain ⟨kq, x5_7, rfl, HA, HJ7, BK121, HB⟩ := hcut
        cases kq with
        | zero => exact absurd HA.out (by simp [spec_CredBytes.j0])
        | succ kj7 =>
          have H := HA.out
          clear HA
          simp only [spec_CredBytes.j0] at H
          replace H := Option.bind_eq_some_iff.mp H
          obtain ⟨t126, A190, H⟩ := H
          replace H : (if x5_7.size + t126.size ≤ 9223372036854775807 then ((some (([a0_8, a0_9, a0_10, a0_11] : List Int) : List Int)).bind fun y127 => (spec_CredBytes.l0 kj7 (x5_7 ++ t126) y127 (y127.length : Int) 0 a0_0 l0_1 a0_2 a0_3 l0_4 a0_5 a0_6 a0_7 a0_8 a0_9 a0_10 a0_11 a0_12 a0_13 l0_14 l0_15 a0_16 a0_17)) else (none)) = some r := H
          have A19 := Aside0.mk A190
          clear A190
          by_cases c20 : x5_7.size + t126.size ≤ 9223372036854775807
          · rw [if_pos c20] at H
            have c20b0 := eq_true c20
            have c20b1 : decide (x5_7.size + t126.size ≤ 9223372036854775807) = true := decide_eq_true c20
            try have c20b2 : (9223372036854775807 < x5_7.size + t126.size) = False := eq_false (Nat.not_lt.2 c20)
            obtain ⟨y127, hy127⟩ : ∃ y_ : List Int, y_ = (([a0_8, a0_9, a0_10, a0_11] : List Int)) := ⟨_, rfl⟩
            replace H : (spec_CredBytes.l0 kj7 (x5_7 ++ t126) y127 (y127.length : Int) 0 a0_0 l0_1 a0_2 a0_3 l0_4 a0_5 a0_6 a0_7 a0_8 a0_9 a0_10 a0_11 a0_12 a0_13 l0_14 l0_15 a0_16 a0_17) = some r := by first | (rw [hy127]; with_reducible exact H) | (have H2_ := (Option.bind_some _ _).symm.trans H; rw [hy127]; with_reducible exact H2_) | (have H2_ := (Option.bind_some _ _).symm.trans H; with_reducible exact H2_) | with_reducible exact H | (rw [hy127]; exact H) | exact H
            have Ny127 := Aside0.mk hy127
            clear hy127
            have H' := Aside0.mk H
            clear H
            have hcz21_0 : wc.cell? ⟨gb121, 0, none⟩ = some (.string a0_0) := (blk_cell BK121.out 0).trans rfl
            have hcz21_1 : wc.cell? ⟨gb121, 1, none⟩ = some (.slice A0_1 l0_1.length c0_1) := (blk_cell BK121.out 1).trans rfl
            have hcz21_2 : wc.cell? ⟨gb121, 2, none⟩ = some (.int .i32 a0_2) := (blk_cell BK121.out 2).trans rfl
            have hcz21_3 : wc.cell? ⟨gb121, 3, none⟩ = some (.string a0_3) := (blk_cell BK121.out 3).trans rfl
            have hcz21_4 : wc.cell? ⟨gb121, 4, none⟩ = some (.slice A0_4 l0_4.length c0_4) := (blk_cell BK121.out 4).trans rfl
            have hcz21_5 : wc.cell? ⟨gb121, 5, none⟩ = some (.int .i32 a0_5) := (blk_cell BK121.out 5).trans rfl
            have hcz21_6 : wc.cell? ⟨gb121, 6, none⟩ = some (.int .i32 a0_6) := (blk_cell BK121.out 6).trans rfl
            have hcz21_7 : wc.cell? ⟨gb121, 7, none⟩ = some (.string a0_7) := (blk_cell BK121.out 7).trans rfl
            have hcz21_8 : wc.cell? ⟨gb121, 8, none⟩ = some (.int .i64 a0_8) := (blk_cell BK121.out 8).trans rfl
            have hcz21_9 : wc.cell? ⟨gb121, 9, none⟩ = some (.int .i64 a0_9) := (blk_cell BK121.out 9).trans rfl
            have hcz21_10 : wc.cell? ⟨gb121, 10, none⟩ = some (.int .i64 a0_10) := (blk_cell BK121.out 10).trans rfl
            have hcz21_11 : wc.cell? ⟨gb121, 11, none⟩ = some (.int .i64 a0_11) := (blk_cell BK121.out 11).trans rfl
            have hcz21_12 : wc.cell? ⟨gb121, 12, none⟩ = some (.bool a0_12) := (blk_cell BK121.out 12).trans rfl
            have hcz21_13 : wc.cell? ⟨gb121, 13, none⟩ = some (.int .u32 a0_13) := (blk_cell BK121.out 13).trans rfl
            have hcz21_14 : wc.cell? ⟨gb121, 14, none⟩ = some (.slice A0_14 l0_14.length c0_14) := (blk_cell BK121.out 14).trans rfl
            have hcz21_15 : wc.cell? ⟨gb121, 15, none⟩ = some (.slice A0_15 l0_15.length c0_15) := (blk_cell BK121.out 15).trans rfl
            have hcz21_16 : wc.cell? ⟨gb121, 16, none⟩ = some (.string a0_16) := (blk_cell BK121.out 16).trans rfl
            have hcz21_17 : wc.cell? ⟨gb121, 17, none⟩ = some (.string a0_17) := (blk_cell BK121.out 17).trans rfl
            have hfz21_0 := blk_frozen BK121.out 0
            have hfz21_1 := blk_frozen BK121.out 1
            have hfz21_2 := blk_frozen BK121.out 2
            have hfz21_3 := blk_frozen BK121.out 3
            have hfz21_4 := blk_frozen BK121.out 4
            have hfz21_5 := blk_frozen BK121.out 5
            have hfz21_6 := blk_frozen BK121.out 6
            have hfz21_7 := blk_frozen BK121.out 7
            have hfz21_8 := blk_frozen BK121.out 8
            have hfz21_9 := blk_frozen BK121.out 9
            have hfz21_10 := blk_frozen BK121.out 10
            have hfz21_11 := blk_frozen BK121.out 11
            have hfz21_12 := blk_frozen BK121.out 12
            have hfz21_13 := blk_frozen BK121.out 13
            have hfz21_14 := blk_frozen BK121.out 14
            have hfz21_15 := blk_frozen BK121.out 15
            have hfz21_16 := blk_frozen BK121.out 16
            have hfz21_17 := blk_frozen BK121.out 17
            go_wp2_with (first | ((with_reducible refine gate_callee (f := 28) rfl ?_); refine goesL_ (some 34) rfl rfl Try.func28 (by kernel_rfl) rfl #[.string a0_7, .int .i64 4] rfl (by (try simp only [List.map_toArray, List.map_cons, List.map_nil]); first | done | rfl | (simp only [List.length_drop, List.length_take]; rfl) | (rw [← B.u64u32]; rfl)) ?_; (with_reducible refine (spec_counted.calls a0_7 4 t126 _ A19.out).mono ?_); rintro e w22 ⟨rfl, hb⟩; refine ⟨_, rfl, ?_⟩; have n0_ := Aside0.mk (blk_below (g := gb121) (o := .cells #[.string a0_0, .slice A0_1 l0_1.length c0_1, .int .i32 a0_2, .string a0_3, .slice A0_4 l0_4.length c0_4, .int .i32 a0_5, .int .i32 a0_6, .string a0_7, .int .i64 a0_8, .int .i64 a0_9, .int .i64 a0_10, .int .i64 a0_11, .bool a0_12, .int .u32 a0_13, .slice A0_14 l0_14.length c0_14, .slice A0_15 l0_15.length c0_15, .string a0_16, .string a0_17] 36 (0, 0)) (by (with_reducible repeat (first | refine blk_drewN ?_ _ | refine blk_drew ?_ | refine blk_alloc ?_ _)); exact BK121.out) hb); have n1_ := Aside0.mk (below_step (by repeat (first | (with_reducible first | exact HB.out | apply below_alloc | apply pw_below_drewN | apply below_drew1 | refine below_set ?_ GE121.out) | exact HB.out)) hb); clear BK121; clear HB; have BK121 := n0_; have HB := n1_; clear n0_ n1_; (try clear hb); (try clear hb2); (try clear hk); (try clear hi); have hcz23_0 : w22.cell? ⟨gb121, 0, none⟩ = some (.string a0_0) := (blk_cell BK121.out 0).trans rfl; have hcz23_1 : w22.cell? ⟨gb121, 1, none⟩ = some (.slice A0_1 l0_1.length c0_1) := (blk_cell BK121.out 1).trans rfl; have hcz23_2 : w22.cell? ⟨gb121, 2, none⟩ = some (.int .i32 a0_2) := (blk_cell BK121.out 2).trans rfl; have hcz23_3 : w22.cell? ⟨gb121, 3, none⟩ = some (.string a0_3) := (blk_cell BK121.out 3).trans rfl; have hcz23_4 : w22.cell? ⟨gb121, 4, none⟩ = some (.slice A0_4 l0_4.length c0_4) := (blk_cell BK121.out 4).trans rfl; have hcz23_5 : w22.cell? ⟨gb121, 5, none⟩ = some (.int .i32 a0_5) := (blk_cell BK121.out 5).trans rfl; have hcz23_6 : w22.cell? ⟨gb121, 6, none⟩ = some (.int .i32 a0_6) := (blk_cell BK121.out 6).trans rfl; have hcz23_7 : w22.cell? ⟨gb121, 7, none⟩ = some (.string a0_7) := (blk_cell BK121.out 7).trans rfl; have hcz23_8 : w22.cell? ⟨gb121, 8, none⟩ = some (.int .i64 a0_8) := (blk_cell BK121.out 8).trans rfl; have hcz23_9 : w22.cell? ⟨gb121, 9, none⟩ = some (.int .i64 a0_9) := (blk_cell BK121.out 9).trans rfl; have hcz23_10 : w22.cell? ⟨gb121, 10, none⟩ = some (.int .i64 a0_10) := (blk_cell BK121.out 10).trans rfl; have hcz23_11 : w22.cell? ⟨gb121, 11, none⟩ = some (.int .i64 a0_11) := (blk_cell BK121.out 11).trans rfl; have hcz23_12 : w22.cell? ⟨gb121, 12, none⟩ = some (.bool a0_12) := (blk_cell BK121.out 12).trans rfl; have hcz23_13 : w22.cell? ⟨gb121, 13, none⟩ = some (.int .u32 a0_13) := (blk_cell BK121.out 13).trans rfl; have hcz23_14 : w22.cell? ⟨gb121, 14, none⟩ = some (.slice A0_14 l0_14.length c0_14) := (blk_cell BK121.out 14).trans rfl; have hcz23_15 : w22.cell? ⟨gb121, 15, none⟩ = some (.slice A0_15 l0_15.length c0_15) := (blk_cell BK121.out 15).trans rfl; have hcz23_16 : w22.cell? ⟨gb121, 16, none⟩ = some (.string a0_16) := (blk_cell BK121.out 16).trans rfl; have hcz23_17 : w22.cell? ⟨gb121, 17, none⟩ = some (.string a0_17) := (blk_cell BK121.out 17).trans rfl; have hfz23_0 := blk_frozen BK121.out 0; have hfz23_1 := blk_frozen BK121.out 1; have hfz23_2 := blk_frozen BK121.out 2; have hfz23_3 := blk_frozen BK121.out 3; have hfz23_4 := blk_frozen BK121.out 4; have hfz23_5 := blk_frozen BK121.out 5; have hfz23_6 := blk_frozen BK121.out 6; have hfz23_7 := blk_frozen BK121.out 7; have hfz23_8 := blk_frozen BK121.out 8; have hfz23_9 := blk_frozen BK121.out 9; have hfz23_10 := blk_frozen BK121.out 10; have hfz23_11 := blk_frozen BK121.out 11; have hfz23_12 := blk_frozen BK121.out 12; have hfz23_13 := blk_frozen BK121.out 13; have hfz23_14 := blk_frozen BK121.out 14; have hfz23_15 := blk_frozen BK121.out 15; have hfz23_16 := blk_frozen BK121.out 16; have hfz23_17 := blk_frozen BK121.out 17) | ((with_reducible refine gate_dst (N := 44) rfl ?_); refine Kd.R_lit (Kd.int .i64) _ 2 ?hg (N := 44) ?hd (xs := ([a0_8, a0_9, a0_10, a0_11] : List Int)) (inner := [.int .i64 a0_8, .int .i64 a0_9, .int .i64 a0_10, .int .i64 a0_11]) (ok := fun _ => True) (okp := fun _ => True) ?hr ?hp (fun _ hk => hk) trivial (Below.refl _ _) (Nat.le_refl _) (by simp) ?_; (case hd => rfl); (case hg => rfl); (case hr => first | (go_simp; done) | (go_simp; rfl)); (case hp => exact (Reps.one (show Kd.M (Kd.int .i64) _ _ _ a0_8 [.int .i64 a0_8] from rfl) (Reps.one (show Kd.M (Kd.int .i64) _ _ _ a0_9 [.int .i64 a0_9] from rfl) (Reps.one (show Kd.M (Kd.int .i64) _ _ _ a0_10 [.int .i64 a0_10] from rfl) (Reps.one (show Kd.M (Kd.int .i64) _ _ _ a0_11 [.int .i64 a0_11] from rfl) (Reps.none _ _)))))); intro v128 w24 ho25 hb hg_ hnew_; clear hg_ hnew_; (first | rw [← Ny127.out] at ho25 | (simp only [Int.reduceToNat] at ho25; rw [← Ny127.out] at ho25)); have n0_ := Aside0.mk (Kd.R_lower ho25 (below_size (by repeat (first | (with_reducible first | exact HB.out | apply below_alloc | apply pw_below_drewN | apply below_drew1 | refine below_set ?_ GE121.out) | exact HB.out)))); have n1_ := Aside0.mk (blk_below (g := gb121) (o := .cells #[.string a0_0, .slice A0_1 l0_1.length c0_1, .int .i32 a0_2, .string a0_3, .slice A0_4 l0_4.length c0_4, .int .i32 a0_5, .int .i32 a0_6, .string a0_7, .int .i64 a0_8, .int .i64 a0_9, .int .i64 a0_10, .int .i64 a0_11, .bool a0_12, .int .u32 a0_13, .slice A0_14 l0_14.length c0_14, .slice A0_15 l0_15.length c0_15, .string a0_16, .string a0_17] 36 (0, 0)) (by (with_reducible repeat (first | refine blk_drewN ?_ _ | refine blk_drew ?_ | refine blk_alloc ?_ _)); exact BK121.out) hb); have n2_ := Aside0.mk (below_step (by repeat (first | (with_reducible first | exact HB.out | apply below_alloc | apply pw_below_drewN | apply below_drew1 | refine below_set ?_ GE121.out) | exact HB.out)) hb); clear BK121; clear HB; have HO129 := n0_; have BK121 := n1_; have HB := n2_; clear n0_ n1_ n2_; clear hb ho25; obtain ⟨Ao26, co26, eo26⟩ := Kd.R_slice HO129.out; subst eo26))
            go_loopg [5, 46] kj7 (fun kq v5 v46 w' => ∃ (x5_2 : ByteArray) (x46_2 : Int), v5 = .string x5_2 ∧ v46 = .int .i64 x46_2 ∧ Aside0 (spec_CredBytes.l0 kq x5_2 y127 (y127.length : Int) x46_2 a0_0 l0_1 a0_2 a0_3 l0_4 a0_5 a0_6 a0_7 a0_8 a0_9 a0_10 a0_11 a0_12 a0_13 l0_14 l0_15 a0_16 a0_17 = some r) ∧ Aside0 (kq ≤ kj7) ∧ Aside0 (Kd.R (Kd.int .i64) 2 w' w.heap.size (fun _ => True) (.slice Ao26 y127.length co26) y127) ∧ Aside0 (w'.heap[gb121]? = some (.cells #[.string a0_0, (.slice A0_1 l0_1.length c0_1), .int .i32 a0_2, .string a0_3, (.slice A0_4 l0_4.length c0_4), .int .i32 a0_5, .int .i32 a0_6, .string a0_7, .int .i64 a0_8, .int .i64 a0_9, .int .i64 a0_10, .int .i64 a0_11, .bool a0_12, .int .u32 a0_13, (.slice A0_14 l0_14.length c0_14), (.slice A0_15 l0_15.length c0_15), .string a0_16, .string a0_17] 36 (0, 0))) ∧ Aside0 (Below w.heap.size w w'))
            case atStart => exact ⟨(x5_7 ++ t126), (0), (by first | rfl | (simp; done) | (simp [*]; done)), (by first | rfl | (simp; done) | (simp [*]; done)), H', ⟨Nat.le_refl _⟩, ⟨by (with_reducible repeat (first | apply Kd.R_alloc | apply Kd.R_drewN | apply Kd.R_drew)); exact HO129.out⟩, ⟨by (with_reducible repeat (first | refine blk_drewN ?_ _ | refine blk_drew ?_ | refine blk_alloc ?_ _)); exact BK121.out⟩, ⟨by repeat (first | (with_reducible first | exact HB.out | apply below_alloc | apply pw_below_drewN | apply below_drew1 | refine below_set ?_ GE121.out) | exact HB.out)⟩⟩
            case round =>
              clear H'
              try clear c1
              try clear c2
              try clear p2
              try clear c5
              try clear c5b0
              try clear c5b1
              try clear c5b2
              try clear c7
              try clear c7b0
              try clear c7b1
              try clear c7b2
              try clear c14
              try clear c14b0
              try clear c14b1
              try clear c16
              try clear c16b0
              try clear c16b1
              try clear c16b2
              try clear c20
              try clear c20b0
              try clear c20b1
              try clear c20b2
              try clear hcz17_0
              try clear hcz17_1
              try clear hcz17_10
              try clear hcz17_11
              try clear hcz17_12
              try clear hcz17_13
              try clear hcz17_14
              try clear hcz17_15
              try clear hcz17_16
              try clear hcz17_17
              try clear hcz17_2
              try clear hcz17_3
              try clear hcz17_4
              try clear hcz17_5
              try clear hcz17_6
              try clear hcz17_7
              try clear hcz17_8
              try clear hcz17_9
              try clear hcz21_0
              try clear hcz21_1
              try clear hcz21_10
              try clear hcz21_11
              try clear hcz21_12
              try clear hcz21_13
              try clear hcz21_14
              try clear hcz21_15
              try clear hcz21_16
              try clear hcz21_17
              try clear hcz21_2
              try clear hcz21_3
              try clear hcz21_4
              try clear hcz21_5
              try clear hcz21_6
              try clear hcz21_7
              try clear hcz21_8
              try clear hcz21_9
              try clear hcz23_0
              try clear hcz23_1
              try clear hcz23_10
              try clear hcz23_11
              try clear hcz23_12
              try clear hcz23_13
              try clear hcz23_14
              try clear hcz23_15
              try clear hcz23_16
              try clear hcz23_17
              try clear hcz23_2
              try clear hcz23_3
              try clear hcz23_4
              try clear hcz23_5
              try clear hcz23_6
              try clear hcz23_7
              try clear hcz23_8
              try clear hcz23_9
              try clear hfz17_0
              try clear hfz17_1
              try clear hfz17_10
              try clear hfz17_11
              try clear hfz17_12
              try clear hfz17_13
              try clear hfz17_14
              try clear hfz17_15
              try clear hfz17_16
              try clear hfz17_17
              try clear hfz17_2
              try clear hfz17_3
              try clear hfz17_4
              try clear hfz17_5
              try clear hfz17_6
              try clear hfz17_7
              try clear hfz17_8
              try clear hfz17_9
              try clear hfz21_0
              try clear hfz21_1
              try clear hfz21_10
              try clear hfz21_11
              try clear hfz21_12
              try clear hfz21_13
              try clear hfz21_14
              try clear hfz21_15
              try clear hfz21_16
              try clear hfz21_17
              try clear hfz21_2
              try clear hfz21_3
              try clear hfz21_4
              try clear hfz21_5
              try clear hfz21_6
              try clear hfz21_7
              try clear hfz21_8
              try clear hfz21_9
              try clear hfz23_0
              try clear hfz23_1
              try clear hfz23_10
              try clear hfz23_11
              try clear hfz23_12
              try clear hfz23_13
              try clear hfz23_14
              try clear hfz23_15
              try clear hfz23_16
              try clear hfz23_17
              try clear hfz23_2
              try clear hfz23_3
              try clear hfz23_4
              try clear hfz23_5
              try clear hfz23_6
              try clear hfz23_7
              try clear hfz23_8
              try clear hfz23_9
              try clear p2
              obtain ⟨x5_2, x46_2, rfl, rfl, HA, HK2, HO_44, BK121, HB⟩ := hrel
              cases gk with
              | zero => exact absurd HA.out (by simp [spec_CredBytes.l0])
              | succ k2 =>
                have H := HA.out
                clear HA
                simp only [spec_CredBytes.l0] at H
                by_cases c27 : x46_2 < (y127.length : Int)
                · rw [if_pos c27] at H
                  have c27b0 : decide (x46_2 < (y127.length : Int)) = true := decide_eq_true c27
                  clear c27
                  by_cases c28 : 0 ≤ x46_2
                  · rw [if_pos c28] at H
                    have c28b0 : decide (0 ≤ x46_2) = true := decide_eq_true c28
                    clear c28
                    by_cases c29 : x46_2 < (y127.length : Int)
                    · rw [if_pos c29] at H
                      have c29b0 : decide (x46_2 < (y127.length : Int)) = true := decide_eq_true c29
                      clear c29
                      replace H := Option.bind_eq_some_iff.mp H
                      obtain ⟨t131, A300, H⟩ := H
                      replace H : (if x5_2.size + t131.size ≤ 9223372036854775807 then (spec_CredBytes.l0 k2 (x5_2 ++ t131) y127 (y127.length : Int) (wrap64 (x46_2 + 1)) a0_0 l0_1 a0_2 a0_3 l0_4 a0_5 a0_6 a0_7 a0_8 a0_9 a0_10 a0_11 a0_12 a0_13 l0_14 l0_15 a0_16 a0_17) else (none)) = some r := H
                      have A30 := Aside0.mk A300
                      clear A300
                      by_cases c31 : x5_2.size + t131.size ≤ 9223372036854775807
                      · rw [if_pos c31] at H
                        have c31b0 := eq_true c31
                        have c31b1 : decide (x5_2.size + t131.size ≤ 9223372036854775807) = true := decide_eq_true c31
                        try have c31b2 : (9223372036854775807 < x5_2.size + t131.size) = False := eq_false (Nat.not_lt.2 c31)
                        have H' := Aside0.mk H
                        clear H
                        have p130 : 0 ≤ (x46_2 : Int) := of_decide_eq_true (by first | (with_reducible assumption) | assumption)
                        have q130 : x46_2 < (y127.length : Int) := of_decide_eq_true (by first | (with_reducible assumption) | assumption)
                        obtain ⟨ad130, e130, hx130_0⟩ := Kd.at_int (Kd.R_reads' HO_44.out).2.2 x46_2 p130 q130
                        cases e130
                        replace p130 := eq_true p130
                        replace q130 := eq_true q130
                        go_wp2_with (first | ((with_reducible refine gate_callee (f := 27) rfl ?_); refine goesL_ (some 53) rfl rfl Try.func27 (by kernel_rfl) rfl #[.int .u64 (IntKind.u64.wrap (rd y127 x46_2)), .int .i64 4] rfl (by (try simp only [List.map_toArray, List.map_cons, List.map_nil]); first | done | rfl | (simp only [List.length_drop, List.length_take]; rfl) | (rw [← B.u64u32]; rfl)) ?_; (with_reducible refine (spec_big.calls (IntKind.u64.wrap (rd y127 x46_2)) 4 t131 _ A30.out).mono ?_); rintro e w32 ⟨rfl, hb⟩; refine ⟨_, rfl, ?_⟩; have n0_ := Aside0.mk (Kd.R_below (by (with_reducible repeat (first | apply Kd.R_alloc | apply Kd.R_drewN | apply Kd.R_drew)); exact HO_44.out) hb); have n1_ := Aside0.mk (blk_below (g := gb121) (o := .cells #[.string a0_0, .slice A0_1 l0_1.length c0_1, .int .i32 a0_2, .string a0_3, .slice A0_4 l0_4.length c0_4, .int .i32 a0_5, .int .i32 a0_6, .string a0_7, .int .i64 a0_8, .int .i64 a0_9, .int .i64 a0_10, .int .i64 a0_11, .bool a0_12, .int .u32 a0_13, .slice A0_14 l0_14.length c0_14, .slice A0_15 l0_15.length c0_15, .string a0_16, .string a0_17] 36 (0, 0)) (by (with_reducible repeat (first | refine blk_drewN ?_ _ | refine blk_drew ?_ | refine blk_alloc ?_ _)); exact BK121.out) hb); have n2_ := Aside0.mk (below_step (by repeat (first | (with_reducible first | exact HB.out | apply below_alloc | apply pw_below_drewN | apply below_drew1 | refine below_set ?_ GE121.out) | exact HB.out)) hb); clear HO_44; clear BK121; clear HB; have HO_44 := n0_; have BK121 := n1_; have HB := n2_; clear n0_ n1_ n2_; (try clear hb); (try clear hb2); (try clear hk); (try clear hi)))
                        go_roundg k2
                        case measure => have := HJ7.out; have := HK2.out; omega
                        case rel => exact ⟨(x5_2 ++ t131), (wrap64 (x46_2 + 1)), (by first | rfl | (simp; done) | (simp [*]; done)), (by first | rfl | (simp; done) | (simp [*]; done)), H', ⟨by have := HJ7.out; have := HK2.out; omega⟩, ⟨by (with_reducible repeat (first | apply Kd.R_alloc | apply Kd.R_drewN | apply Kd.R_drew)); exact HO_44.out⟩, ⟨by (with_reducible repeat (first | refine blk_drewN ?_ _ | refine blk_drew ?_ | refine blk_alloc ?_ _)); exact BK121.out⟩, ⟨by repeat (first | (with_reducible first | exact HB.out | apply below_alloc | apply pw_below_drewN | apply below_drew1 | refine below_set ?_ GE121.out) | exact HB.out)⟩⟩
                      · rw [if_neg c31] at H
                        exact absurd H (by simp)
                    · rw [if_neg c29] at H
                      exact absurd H (by simp)
                  · rw [if_neg c28] at H
                    exact absurd H (by simp)
                · rw [if_neg c27] at H
                  have c27b0 : decide (x46_2 < (y127.length : Int)) = false := decide_eq_false c27
                  clear c27
                  have HC33 := Aside0.mk H
                  clear H
                  have hcz34_0 : wr.cell? ⟨gb121, 0, none⟩ = some (.string a0_0) := (blk_cell BK121.out 0).trans rfl
                  have hcz34_1 : wr.cell? ⟨gb121, 1, none⟩ = some (.slice A0_1 l0_1.length c0_1) := (blk_cell BK121.out 1).trans rfl
                  have hcz34_2 : wr.cell? ⟨gb121, 2, none⟩ = some (.int .i32 a0_2) := (blk_cell BK121.out 2).trans rfl
                  have hcz34_3 : wr.cell? ⟨gb121, 3, none⟩ = some (.string a0_3) := (blk_cell BK121.out 3).trans rfl
                  have hcz34_4 : wr.cell? ⟨gb121, 4, none⟩ = some (.slice A0_4 l0_4.length c0_4) := (blk_cell BK121.out 4).trans rfl
                  have hcz34_5 : wr.cell? ⟨gb121, 5, none⟩ = some (.int .i32 a0_5) := (blk_cell BK121.out 5).trans rfl
                  have hcz34_6 : wr.cell? ⟨gb121, 6, none⟩ = some (.int .i32 a0_6) := (blk_cell BK121.out 6).trans rfl
                  have hcz34_7 : wr.cell? ⟨gb121, 7, none⟩ = some (.string a0_7) := (blk_cell BK121.out 7).trans rfl
                  have hcz34_8 : wr.cell? ⟨gb121, 8, none⟩ = some (.int .i64 a0_8) := (blk_cell BK121.out 8).trans rfl
                  have hcz34_9 : wr.cell? ⟨gb121, 9, none⟩ = some (.int .i64 a0_9) := (blk_cell BK121.out 9).trans rfl
                  have hcz34_10 : wr.cell? ⟨gb121, 10, none⟩ = some (.int .i64 a0_10) := (blk_cell BK121.out 10).trans rfl
                  have hcz34_11 : wr.cell? ⟨gb121, 11, none⟩ = some (.int .i64 a0_11) := (blk_cell BK121.out 11).trans rfl
                  have hcz34_12 : wr.cell? ⟨gb121, 12, none⟩ = some (.bool a0_12) := (blk_cell BK121.out 12).trans rfl
                  have hcz34_13 : wr.cell? ⟨gb121, 13, none⟩ = some (.int .u32 a0_13) := (blk_cell BK121.out 13).trans rfl
                  have hcz34_14 : wr.cell? ⟨gb121, 14, none⟩ = some (.slice A0_14 l0_14.length c0_14) := (blk_cell BK121.out 14).trans rfl
                  have hcz34_15 : wr.cell? ⟨gb121, 15, none⟩ = some (.slice A0_15 l0_15.length c0_15) := (blk_cell BK121.out 15).trans rfl
                  have hcz34_16 : wr.cell? ⟨gb121, 16, none⟩ = some (.string a0_16) := (blk_cell BK121.out 16).trans rfl
                  have hcz34_17 : wr.cell? ⟨gb121, 17, none⟩ = some (.string a0_17) := (blk_cell BK121.out 17).trans rfl
                  have hfz34_0 := blk_frozen BK121.out 0
                  have hfz34_1 := blk_frozen BK121.out 1
                  have hfz34_2 := blk_frozen BK121.out 2
                  have hfz34_3 := blk_frozen BK121.out 3
                  have hfz34_4 := blk_frozen BK121.out 4
                  have hfz34_5 := blk_frozen BK121.out 5
                  have hfz34_6 := blk_frozen BK121.out 6
                  have hfz34_7 := blk_frozen BK121.out 7
                  have hfz34_8 := blk_frozen BK121.out 8
                  have hfz34_9 := blk_frozen BK121.out 9
                  have hfz34_10 := blk_frozen BK121.out 10
                  have hfz34_11 := blk_frozen BK121.out 11
                  have hfz34_12 := blk_frozen BK121.out 12
                  have hfz34_13 := blk_frozen BK121.out 13
                  have hfz34_14 := blk_frozen BK121.out 14
                  have hfz34_15 := blk_frozen BK121.out 15
                  have hfz34_16 := blk_frozen BK121.out 16
                  have hfz34_17 := blk_frozen BK121.out 17
                  go_upto_if 57 with (fail)
                  go_cut [8] (fun v8 wc => ∃ (kq : Nat) (x8_32 : Int), v8 = .int .u64 x8_32 ∧ Aside0 (spec_CredBytes.j2 kq x5_2 x8_32 a0_0 l0_1 a0_2 a0_3 l0_4 a0_5 a0_6 a0_7 a0_8 a0_9 a0_10 a0_11 a0_12 a0_13 l0_14 l0_15 a0_16 a0_17 = some r) ∧ Aside0 (kq ≤ k2) ∧ Aside0 (wc.heap[gb121]? = some (.cells #[.string a0_0, (.slice A0_1 l0_1.length c0_1), .int .i32 a0_2, .string a0_3, (.slice A0_4 l0_4.length c0_4), .int .i32 a0_5, .int .i32 a0_6, .string a0_7, .int .i64 a0_8, .int .i64 a0_9, .int .i64 a0_10, .int .i64 a0_11, .bool a0_12, .int .u32 a0_13, (.slice A0_14 l0_14.length c0_14), (.slice A0_15 l0_15.length c0_15), .string a0_16, .string a0_17] 36 (0, 0))) ∧ Aside0 (Below w.heap.size w wc))
                  case first =>
                    have H := HC33.out
                    clear HC33
                    by_cases c35 : a0_12 = true
                    · subst c35
                      have H1 : (spec_CredBytes.j2 k2 x5_2 1 a0_0 l0_1 a0_2 a0_3 l0_4 a0_5 a0_6 a0_7 a0_8 a0_9 a0_10 a0_11 true a0_13 l0_14 l0_15 a0_16 a0_17) = some r := by rw [if_pos rfl] at H; exact H
                      clear H
                      have H := H1
                      clear H1
                      have H' := Aside0.mk H
                      clear H
                      go_wp2
                      go_meet
                      case rel => exact ⟨_, (1), (by first | rfl | (simp; done) | (simp [*]; done)), H', ⟨by have := HJ7.out; have := HK2.out; first | omega | exact Nat.le_refl _⟩, ⟨by (with_reducible repeat (first | refine blk_drewN ?_ _ | refine blk_drew ?_ | refine blk_alloc ?_ _)); exact BK121.out⟩, ⟨by repeat (first | (with_reducible first | exact HB.out | apply below_alloc | apply pw_below_drewN | apply below_drew1 | refine below_set ?_ GE121.out) | exact HB.out)⟩⟩
                    · replace c35 := Bool.eq_false_iff.mpr c35
                      subst c35
                      have H1 : (spec_CredBytes.j2 k2 x5_2 0 a0_0 l0_1 a0_2 a0_3 l0_4 a0_5 a0_6 a0_7 a0_8 a0_9 a0_10 a0_11 false a0_13 l0_14 l0_15 a0_16 a0_17) = some r := by rw [if_neg (show ¬ (false = true) by decide)] at H; exact H
                      clear H
                      have H := H1
                      clear H1
                      have H' := Aside0.mk H
                      clear H
                      go_wp2
                      go_meet
                      case rel => exact ⟨_, (0), (by first | rfl | (simp; done) | (simp [*]; done)), H', ⟨by have := HJ7.out; have := HK2.out; first | omega | exact Nat.le_refl _⟩, ⟨by (with_reducible repeat (first | refine blk_drewN ?_ _ | refine blk_drew ?_ | refine blk_alloc ?_ _)); exact BK121.out⟩, ⟨by repeat (first | (with_reducible first | exact HB.out | apply below_alloc | apply pw_below_drewN | apply below_drew1 | refine below_set ?_ GE121.out) | exact HB.out)⟩⟩
                  case rest =>
                    clear HC33
                    try clear c1
                    try clear p1
                    try clear q1
                    try clear hx1
                    try clear c2
                    try clear p2
                    try clear c3
                    try clear c5
                    try clear c5b0
                    try clear c5b1
                    try clear c5b2
                    try clear p6
                    try clear c7
                    try clear c7b0
                    try clear c7b1
                    try clear c7b2
                    try clear p13
                    try clear q13
                    try clear hx13
                    try clear c14
                    try clear c14b0
                    try clear c14b1
                    try clear c16
                    try clear c16b0
                    try clear c16b1
                    try clear c16b2
                    try clear c20
                    try clear c20b0
                    try clear c20b1
                    try clear c20b2
                    try clear c27
                    try clear c27b0
                    try clear c28
                    try clear c28b0
                    try clear c29
                    try clear c29b0
                    try clear c31
                    try clear c31b0
                    try clear c31b1
                    try clear c31b2
                    try clear c35
                    try clear hcz17_0
                    try clear hcz17_1
                    try clear hcz17_10
                    try clear hcz17_11
                    try clear hcz17_12
                    try clear hcz17_13
                    try clear hcz17_14
                    try clear hcz17_15
                    try clear hcz17_16
                    try clear hcz17_17
                    try clear hcz17_2
                    try clear hcz17_3
                    try clear hcz17_4
                    try clear hcz17_5
                    try clear hcz17_6
                    try clear hcz17_7
                    try clear hcz17_8
                    try clear hcz17_9
                    try clear hcz21_0
                    try clear hcz21_1
                    try clear hcz21_10
                    try clear hcz21_11
                    try clear hcz21_12
                    try clear hcz21_13
                    try clear hcz21_14
                    try clear hcz21_15
                    try clear hcz21_16
                    try clear hcz21_17
                    try clear hcz21_2
                    try clear hcz21_3
                    try clear hcz21_4
                    try clear hcz21_5
                    try clear hcz21_6
                    try clear hcz21_7
                    try clear hcz21_8
                    try clear hcz21_9
                    try clear hcz23_0
                    try clear hcz23_1
                    try clear hcz23_10
                    try clear hcz23_11
                    try clear hcz23_12
                    try clear hcz23_13
                    try clear hcz23_14
                    try clear hcz23_15
                    try clear hcz23_16
                    try clear hcz23_17
                    try clear hcz23_2
                    try clear hcz23_3
                    try clear hcz23_4
                    try clear hcz23_5
                    try clear hcz23_6
                    try clear hcz23_7
                    try clear hcz23_8
                    try clear hcz23_9
                    try clear hcz34_0
                    try clear hcz34_1
                    try clear hcz34_10
                    try clear hcz34_11
                    try clear hcz34_12
                    try clear hcz34_13
                    try clear hcz34_14
                    try clear hcz34_15
                    try clear hcz34_16
                    try clear hcz34_17
                    try clear hcz34_2
                    try clear hcz34_3
                    try clear hcz34_4
                    try clear hcz34_5
                    try clear hcz34_6
                    try clear hcz34_7
                    try clear hcz34_8
                    try clear hcz34_9
                    try clear hfz17_0
                    try clear hfz17_1
                    try clear hfz17_10
                    try clear hfz17_11
                    try clear hfz17_12
                    try clear hfz17_13
                    try clear hfz17_14
                    try clear hfz17_15
                    try clear hfz17_16
                    try clear hfz17_17
                    try clear hfz17_2
                    try clear hfz17_3
                    try clear hfz17_4
                    try clear hfz17_5
                    try clear hfz17_6
                    try clear hfz17_7
                    try clear hfz17_8
                    try clear hfz17_9
                    try clear hfz21_0
                    try clear hfz21_1
                    try clear hfz21_10
                    try clear hfz21_11
                    try clear hfz21_12
                    try clear hfz21_13
                    try clear hfz21_14
                    try clear hfz21_15
                    try clear hfz21_16
                    try clear hfz21_17
                    try clear hfz21_2
                    try clear hfz21_3
                    try clear hfz21_4
                    try clear hfz21_5
                    try clear hfz21_6
                    try clear hfz21_7
                    try clear hfz21_8
                    try clear hfz21_9
                    try clear hfz23_0
                    try clear hfz23_1
                    try clear hfz23_10
                    try clear hfz23_11
                    try clear hfz23_12
                    try clear hfz23_13
                    try clear hfz23_14
                    try clear hfz23_15
                    try clear hfz23_16
                    try clear hfz23_17
                    try clear hfz23_2
                    try clear hfz23_3
                    try clear hfz23_4
                    try clear hfz23_5
                    try clear hfz23_6
                    try clear hfz23_7
                    try clear hfz23_8
                    try clear hfz23_9
                    try clear hfz34_0
                    try clear hfz34_1
                    try clear hfz34_10
                    try clear hfz34_11
                    try clear hfz34_12
                    try clear hfz34_13
                    try clear hfz34_14
                    try clear hfz34_15
                    try clear hfz34_16
                    try clear hfz34_17
                    try clear hfz34_2
                    try clear hfz34_3
                    try clear hfz34_4
                    try clear hfz34_5
                    try clear hfz34_6
                    try clear hfz34_7
                    try clear hfz34_8
                    try clear hfz34_9
                    try clear hx130_0
                    try clear p130
                    try clear p2
                    try clear q130
                    obtain ⟨kq, x8_32, rfl, HA, HJ32, BK121, HB⟩ := hcut
                    cases kq with
                    | zero => exact absurd HA.out (by simp [spec_CredBytes.j2])
                    | succ kj32 =>
                      have H := HA.out
                      clear HA
                      simp only [spec_CredBytes.j2] at H
                      replace H := Option.bind_eq_some_iff.mp H
                      obtain ⟨t132, A360, H⟩ := H
                      replace H : (if x5_2.size + t132.size ≤ 9223372036854775807 then ((spec_big.f (IntKind.u64.wrap (a0_13)) 4).bind fun t133 => (if (x5_2 ++ t132).size + t133.size ≤ 9223372036854775807 then ((spec_partsBytes.f kj32 l0_14).bind fun t134 => (if ((x5_2 ++ t132) ++ t133).size + t134.size ≤ 9223372036854775807 then ((spec_partsBytes.f kj32 l0_15).bind fun t135 => (if (((x5_2 ++ t132) ++ t133) ++ t134).size + t135.size ≤ 9223372036854775807 then ((spec_counted.f a0_16 4).bind fun t136 => (if ((((x5_2 ++ t132) ++ t133) ++ t134) ++ t135).size + t136.size ≤ 9223372036854775807 then ((spec_counted.f a0_17 4).bind fun t137 => (if (((((x5_2 ++ t132) ++ t133) ++ t134) ++ t135) ++ t136).size + t137.size ≤ 9223372036854775807 then (some ((((((x5_2 ++ t132) ++ t133) ++ t134) ++ t135) ++ t136) ++ t137)) else (none))) else (none))) else (none))) else (none))) else (none))) else (none)) = some r := H
                      have A36 := Aside0.mk A360
                      clear A360
                      by_cases c37 : x5_2.size + t132.size ≤ 9223372036854775807
                      · rw [if_pos c37] at H
                        have c37b0 := eq_true c37
                        have c37b1 : decide (x5_2.size + t132.size ≤ 9223372036854775807) = true := decide_eq_true c37
                        try have c37b2 : (9223372036854775807 < x5_2.size + t132.size) = False := eq_false (Nat.not_lt.2 c37)
                        replace H := Option.bind_eq_some_iff.mp H
                        obtain ⟨t133, A380, H⟩ := H
                        replace H : (if (x5_2 ++ t132).size + t133.size ≤ 9223372036854775807 then ((spec_partsBytes.f kj32 l0_14).bind fun t134 => (if ((x5_2 ++ t132) ++ t133).size + t134.size ≤ 9223372036854775807 then ((spec_partsBytes.f kj32 l0_15).bind fun t135 => (if (((x5_2 ++ t132) ++ t133) ++ t134).size + t135.size ≤ 9223372036854775807 then ((spec_counted.f a0_16 4).bind fun t136 => (if ((((x5_2 ++ t132) ++ t133) ++ t134) ++ t135).size + t136.size ≤ 9223372036854775807 then ((spec_counted.f a0_17 4).bind fun t137 => (if (((((x5_2 ++ t132) ++ t133) ++ t134) ++ t135) ++ t136).size + t137.size ≤ 9223372036854775807 then (some ((((((x5_2 ++ t132) ++ t133) ++ t134) ++ t135) ++ t136) ++ t137)) else (none))) else (none))) else (none))) else (none))) else (none)) = some r := H
                        have A38 := Aside0.mk A380
                        clear A380
                        by_cases c39 : (x5_2 ++ t132).size + t133.size ≤ 9223372036854775807
                        · rw [if_pos c39] at H
                          have c39b0 := eq_true c39
                          have c39b1 : decide ((x5_2 ++ t132).size + t133.size ≤ 9223372036854775807) = true := decide_eq_true c39
                          try have c39b2 : (9223372036854775807 < (x5_2 ++ t132).size + t133.size) = False := eq_false (Nat.not_lt.2 c39)
                          try (have c39b3 := c39b2; simp only [ByteArray.size_append] at c39b3)
                          replace H := Option.bind_eq_some_iff.mp H
                          obtain ⟨t134, A400, H⟩ := H
                          replace H : (if ((x5_2 ++ t132) ++ t133).size + t134.size ≤ 9223372036854775807 then ((spec_partsBytes.f kj32 l0_15).bind fun t135 => (if (((x5_2 ++ t132) ++ t133) ++ t134).size + t135.size ≤ 9223372036854775807 then ((spec_counted.f a0_16 4).bind fun t136 => (if ((((x5_2 ++ t132) ++ t133) ++ t134) ++ t135).size + t136.size ≤ 9223372036854775807 then ((spec_counted.f a0_17 4).bind fun t137 => (if (((((x5_2 ++ t132) ++ t133) ++ t134) ++ t135) ++ t136).size + t137.size ≤ 9223372036854775807 then (some ((((((x5_2 ++ t132) ++ t133) ++ t134) ++ t135) ++ t136) ++ t137)) else (none))) else (none))) else (none))) else (none)) = some r := H
                          have A40 := Aside0.mk A400
                          clear A400
                          by_cases c41 : ((x5_2 ++ t132) ++ t133).size + t134.size ≤ 9223372036854775807
                          · rw [if_pos c41] at H
                            have c41b0 := eq_true c41
                            have c41b1 : decide (((x5_2 ++ t132) ++ t133).size + t134.size ≤ 9223372036854775807) = true := decide_eq_true c41
                            try have c41b2 : (9223372036854775807 < ((x5_2 ++ t132) ++ t133).size + t134.size) = False := eq_false (Nat.not_lt.2 c41)
                            try (have c41b3 := c41b2; simp only [ByteArray.size_append] at c41b3)
                            replace H := Option.bind_eq_some_iff.mp H
                            obtain ⟨t135, A420, H⟩ := H
                            replace H : (if (((x5_2 ++ t132) ++ t133) ++ t134).size + t135.size ≤ 9223372036854775807 then ((spec_counted.f a0_16 4).bind fun t136 => (if ((((x5_2 ++ t132) ++ t133) ++ t134) ++ t135).size + t136.size ≤ 9223372036854775807 then ((spec_counted.f a0_17 4).bind fun t137 => (if (((((x5_2 ++ t132) ++ t133) ++ t134) ++ t135) ++ t136).size + t137.size ≤ 9223372036854775807 then (some ((((((x5_2 ++ t132) ++ t133) ++ t134) ++ t135) ++ t136) ++ t137)) else (none))) else (none))) else (none)) = some r := H
                            have A42 := Aside0.mk A420
                            clear A420
                            by_cases c43 : (((x5_2 ++ t132) ++ t133) ++ t134).size + t135.size ≤ 9223372036854775807
                            · rw [if_pos c43] at H
                              have c43b0 := eq_true c43
                              have c43b1 : decide ((((x5_2 ++ t132) ++ t133) ++ t134).size + t135.size ≤ 9223372036854775807) = true := decide_eq_true c43
                              try have c43b2 : (9223372036854775807 < (((x5_2 ++ t132) ++ t133) ++ t134).size + t135.size) = False := eq_false (Nat.not_lt.2 c43)
                              try (have c43b3 := c43b2; simp only [ByteArray.size_append] at c43b3)
                              replace H := Option.bind_eq_some_iff.mp H
                              obtain ⟨t136, A440, H⟩ := H
                              replace H : (if ((((x5_2 ++ t132) ++ t133) ++ t134) ++ t135).size + t136.size ≤ 9223372036854775807 then ((spec_counted.f a0_17 4).bind fun t137 => (if (((((x5_2 ++ t132) ++ t133) ++ t134) ++ t135) ++ t136).size + t137.size ≤ 9223372036854775807 then (some ((((((x5_2 ++ t132) ++ t133) ++ t134) ++ t135) ++ t136) ++ t137)) else (none))) else (none)) = some r := H
                              have A44 := Aside0.mk A440
                              clear A440
                              by_cases c45 : ((((x5_2 ++ t132) ++ t133) ++ t134) ++ t135).size + t136.size ≤ 9223372036854775807
                              · rw [if_pos c45] at H
                                have c45b0 := eq_true c45
                                have c45b1 : decide (((((x5_2 ++ t132) ++ t133) ++ t134) ++ t135).size + t136.size ≤ 9223372036854775807) = true := decide_eq_true c45
                                try have c45b2 : (9223372036854775807 < ((((x5_2 ++ t132) ++ t133) ++ t134) ++ t135).size + t136.size) = False := eq_false (Nat.not_lt.2 c45)
                                try (have c45b3 := c45b2; simp only [ByteArray.size_append] at c45b3)
                                replace H := Option.bind_eq_some_iff.mp H
                                obtain ⟨t137, A460, H⟩ := H
                                replace H : (if (((((x5_2 ++ t132) ++ t133) ++ t134) ++ t135) ++ t136).size + t137.size ≤ 9223372036854775807 then (some ((((((x5_2 ++ t132) ++ t133) ++ t134) ++ t135) ++ t136) ++ t137)) else (none)) = some r := H
                                have A46 := Aside0.mk A460
                                clear A460
                                by_cases c47 : (((((x5_2 ++ t132) ++ t133) ++ t134) ++ t135) ++ t136).size + t137.size ≤ 9223372036854775807
                                · rw [if_pos c47] at H
                                  have c47b0 := eq_true c47
                                  have c47b1 : decide ((((((x5_2 ++ t132) ++ t133) ++ t134) ++ t135) ++ t136).size + t137.size ≤ 9223372036854775807) = true := decide_eq_true c47
                                  try have c47b2 : (9223372036854775807 < (((((x5_2 ++ t132) ++ t133) ++ t134) ++ t135) ++ t136).size + t137.size) = False := eq_false (Nat.not_lt.2 c47)
                                  try (have c47b3 := c47b2; simp only [ByteArray.size_append] at c47b3)
                                  obtain rfl := Option.some.inj H
                                  try go_wp2
                                  have n0_ := Aside0.mk (blk_drew BK121.out)
                                  have n1_ := Aside0.mk (below_drew1 HB.out)
                                  clear BK121
                                  clear HB
                                  have BK121 := n0_
                                  have HB := n1_
                                  clear n0_ n1_
                                  refine start_ (n := 26) (S := fun w' => w'.cell? ⟨gb121, 0, none⟩ = some (.string a0_0) ∧ w'.cell? ⟨gb121, 1, none⟩ = some (.slice A0_1 l0_1.length c0_1) ∧ w'.cell? ⟨gb121, 2, none⟩ = some (.int .i32 a0_2) ∧ w'.cell? ⟨gb121, 3, none⟩ = some (.string a0_3) ∧ w'.cell? ⟨gb121, 4, none⟩ = some (.slice A0_4 l0_4.length c0_4) ∧ w'.cell? ⟨gb121, 5, none⟩ = some (.int .i32 a0_5) ∧ w'.cell? ⟨gb121, 6, none⟩ = some (.int .i32 a0_6) ∧ w'.cell? ⟨gb121, 7, none⟩ = some (.string a0_7) ∧ w'.cell? ⟨gb121, 8, none⟩ = some (.int .i64 a0_8) ∧ w'.cell? ⟨gb121, 9, none⟩ = some (.int .i64 a0_9) ∧ w'.cell? ⟨gb121, 10, none⟩ = some (.int .i64 a0_10) ∧ w'.cell? ⟨gb121, 11, none⟩ = some (.int .i64 a0_11) ∧ w'.cell? ⟨gb121, 12, none⟩ = some (.bool a0_12) ∧ w'.cell? ⟨gb121, 13, none⟩ = some (.int .u32 a0_13) ∧ w'.cell? ⟨gb121, 14, none⟩ = some (.slice A0_14 l0_14.length c0_14) ∧ w'.cell? ⟨gb121, 15, none⟩ = some (.slice A0_15 l0_15.length c0_15) ∧ w'.cell? ⟨gb121, 16, none⟩ = some (.string a0_16) ∧ w'.cell? ⟨gb121, 17, none⟩ = some (.string a0_17)) (ds := []) #[false, false, false, false, false, false, false, false, false, false, false, false, false, false, false, false, false, false, false, false, false, false, false, false, false, false] (by kernel_rfl) rfl rfl ⟨(blk_cell BK121.out 0).trans rfl, (blk_cell BK121.out 1).trans rfl, (blk_cell BK121.out 2).trans rfl, (blk_cell BK121.out 3).trans rfl, (blk_cell BK121.out 4).trans rfl, (blk_cell BK121.out 5).trans rfl, (blk_cell BK121.out 6).trans rfl, (blk_cell BK121.out 7).trans rfl, (blk_cell BK121.out 8).trans rfl, (blk_cell BK121.out 9).trans rfl, (blk_cell BK121.out 10).trans rfl, (blk_cell BK121.out 11).trans rfl, (blk_cell BK121.out 12).trans rfl, (blk_cell BK121.out 13).trans rfl, (blk_cell BK121.out 14).trans rfl, (blk_cell BK121.out 15).trans rfl, (blk_cell BK121.out 16).trans rfl, (blk_cell BK121.out 17).trans rfl⟩ (fun hHeld => ?_); refine with_tabW spec_CredBytes.tab13 spec_CredBytes.bits13 (fun HT_ HW_ => ?_)
                                  generalize wc.drew = w48 at BK121 HB hHeld ⊢
                                  refine pure_ (i := 0) (N := some 58) (v := ?_) (a' := ?_) #[true, false, false, false, false, false, false, false, false, false, false, false, false, false, false, false, false, false, false, false, false, false, false, false, false, false] rfl rfl (any_of HT_.out (by kernel_rfl)) (fun _ _ _ h => h) (Or.inl ⟨by rfl, ?_⟩) ?_ ?_
                                  rotate_left
                                  · intro w'
                                    go_simp
                                    with_reducible rfl
                                  rotate_left
                                  · simp only [Act.put, List.setIfInBounds_toArray, List.set_cons_zero, List.set_cons_succ, i64_w, i32_w]
                                    rfl
                                  refine pure_ (i := 1) (N := some 59) (v := ?_) (a' := ?_) #[true, true, false, false, false, false, false, false, false, false, false, false, false, false, false, false, false, false, false, false, false, false, false, false, false, false] rfl rfl (any_of HT_.out (by kernel_rfl)) (fun _ _ _ h => h) (Or.inl ⟨by rfl, ?_⟩) ?_ ?_
                                  rotate_left
                                  · intro w'
                                    go_simp
                                    with_reducible rfl
                                  rotate_left
                                  · simp only [Act.put, List.setIfInBounds_toArray, List.set_cons_zero, List.set_cons_succ, i64_w, i32_w]
                                    rfl
                                  refine pure_ (i := 4) (N := some 62) (v := ?_) (a' := ?_) #[true, true, false, false, true, false, false, false, false, false, false, false, false, false, false, false, false, false, false, false, false, false, false, false, false, false] rfl rfl (any_of HT_.out (by kernel_rfl)) (fun _ _ _ h => h) (Or.inl ⟨by rfl, ?_⟩) ?_ ?_
                                  rotate_left
                                  · intro w'
                                    go_simp
                                    with_reducible rfl
                                  rotate_left
                                  · simp only [Act.put, List.setIfInBounds_toArray, List.set_cons_zero, List.set_cons_succ, i64_w, i32_w]
                                    rfl
                                  refine pure_ (i := 9) (N := some 67) (v := ?_) (a' := ?_) #[true, true, false, false, true, false, false, false, false, true, false, false, false, false, false, false, false, false, false, false, false, false, false, false, false, false] rfl rfl (any_of HT_.out (by kernel_rfl)) (fun _ _ _ h => h) (Or.inl ⟨by rfl, ?_⟩) ?_ ?_
                                  rotate_left
                                  · intro w'
                                    go_simp
                                    with_reducible rfl
                                  rotate_left
                                  · simp only [Act.put, List.setIfInBounds_toArray, List.set_cons_zero, List.set_cons_succ, i64_w, i32_w]
                                    rfl
                                  refine pure_ (i := 13) (N := some 71) (v := ?_) (a' := ?_) #[true, true, false, false, true, false, false, false, false, true, false, false, false, true, false, false, false, false, false, false, false, false, false, false, false, false] rfl rfl (any_of HT_.out (by kernel_rfl)) (fun _ _ _ h => h) (Or.inl ⟨by rfl, ?_⟩) ?_ ?_
                                  rotate_left
                                  · intro w'
                                    go_simp
                                    with_reducible rfl
                                  rotate_left
                                  · simp only [Act.put, List.setIfInBounds_toArray, List.set_cons_zero, List.set_cons_succ, i64_w, i32_w]
                                    rfl
                                  refine pure_ (i := 17) (N := some 75) (v := ?_) (a' := ?_) #[true, true, false, false, true, false, false, false, false, true, false, false, false, true, false, false, false, true, false, false, false, false, false, false, false, false] rfl rfl (any_of HT_.out (by kernel_rfl)) (fun _ _ _ h => h) (Or.inl ⟨by rfl, ?_⟩) ?_ ?_
                                  rotate_left
                                  · intro w'
                                    go_simp
                                    with_reducible rfl
                                  rotate_left
                                  · simp only [Act.put, List.setIfInBounds_toArray, List.set_cons_zero, List.set_cons_succ, i64_w, i32_w]
                                    rfl
                                  refine pure_ (i := 21) (N := some 79) (v := ?_) (a' := ?_) #[true, true, false, false, true, false, false, false, false, true, false, false, false, true, false, false, false, true, false, false, false, true, false, false, false, false] rfl rfl (any_of HT_.out (by kernel_rfl)) (fun _ _ _ h => h) (Or.inl ⟨by rfl, ?_⟩) ?_ ?_
                                  rotate_left
                                  · intro w'
                                    go_simp
                                    with_reducible rfl
                                  rotate_left
                                  · simp only [Act.put, List.setIfInBounds_toArray, List.set_cons_zero, List.set_cons_succ, i64_w, i32_w]
                                    rfl
                                  refine take_ (i := 5) (N := some 63) (v := ?_) (a' := ?_) #[true, true, false, false, true, true, false, false, false, true, false, false, false, true, false, false, false, true, false, false, false, true, false, false, false, false] rfl rfl (take_ofW HT_.out HW_.out (by kernel_rfl)) (fun _ _ _ h => h) (Or.inl ⟨by rfl, ?_⟩) hHeld ?_ ?_
                                  rotate_left
                                  · rintro w' ⟨s0, s1, s2, s3, s4, s5, s6, s7, s8, s9, s10, s11, s12, s13, s14, s15, s16, s17⟩
                                    go_simp
                                    with_reducible rfl
                                  rotate_left
                                  · simp only [Act.put, List.setIfInBounds_toArray, List.set_cons_zero, List.set_cons_succ, i64_w, i32_w]
                                    rfl
                                  refine pure_ (i := 6) (N := some 64) (v := ?_) (a' := ?_) #[true, true, false, false, true, true, true, false, false, true, false, false, false, true, false, false, false, true, false, false, false, true, false, false, false, false] rfl rfl (any_of HT_.out (by kernel_rfl)) (fun _ _ _ h => h) (Or.inl ⟨by rfl, ?_⟩) ?_ ?_
                                  rotate_left
                                  · intro w'
                                    go_simp
                                    with_reducible rfl
                                  rotate_left
                                  · simp only [Act.put, List.setIfInBounds_toArray, List.set_cons_zero, List.set_cons_succ, i64_w, i32_w]
                                    rfl
                                  refine take_ (i := 10) (N := some 68) (v := ?_) (a' := ?_) #[true, true, false, false, true, true, true, false, false, true, true, false, false, true, false, false, false, true, false, false, false, true, false, false, false, false] rfl rfl (take_ofW HT_.out HW_.out (by kernel_rfl)) (fun _ _ _ h => h) (Or.inl ⟨by rfl, ?_⟩) hHeld ?_ ?_
                                  rotate_left
                                  · rintro w' ⟨s0, s1, s2, s3, s4, s5, s6, s7, s8, s9, s10, s11, s12, s13, s14, s15, s16, s17⟩
                                    go_simp
                                    with_reducible rfl
                                  rotate_left
                                  · simp only [Act.put, List.setIfInBounds_toArray, List.set_cons_zero, List.set_cons_succ, i64_w, i32_w]
                                    rfl
                                  refine take_ (i := 14) (N := some 72) (v := ?_) (a' := ?_) #[true, true, false, false, true, true, true, false, false, true, true, false, false, true, true, false, false, true, false, false, false, true, false, false, false, false] rfl rfl (take_ofW HT_.out HW_.out (by kernel_rfl)) (fun _ _ _ h => h) (Or.inl ⟨by rfl, ?_⟩) hHeld ?_ ?_
                                  rotate_left
                                  · rintro w' ⟨s0, s1, s2, s3, s4, s5, s6, s7, s8, s9, s10, s11, s12, s13, s14, s15, s16, s17⟩
                                    go_simp
                                    with_reducible rfl
                                  rotate_left
                                  · simp only [Act.put, List.setIfInBounds_toArray, List.set_cons_zero, List.set_cons_succ, i64_w, i32_w]
                                    rfl
                                  refine take_ (i := 18) (N := some 76) (v := ?_) (a' := ?_) #[true, true, false, false, true, true, true, false, false, true, true, false, false, true, true, false, false, true, true, false, false, true, false, false, false, false] rfl rfl (take_ofW HT_.out HW_.out (by kernel_rfl)) (fun _ _ _ h => h) (Or.inl ⟨by rfl, ?_⟩) hHeld ?_ ?_
                                  rotate_left
                                  · rintro w' ⟨s0, s1, s2, s3, s4, s5, s6, s7, s8, s9, s10, s11, s12, s13, s14, s15, s16, s17⟩
                                    go_simp
                                    with_reducible rfl
                                  rotate_left
                                  · simp only [Act.put, List.setIfInBounds_toArray, List.set_cons_zero, List.set_cons_succ, i64_w, i32_w]
                                    rfl
                                  refine take_ (i := 22) (N := some 80) (v := ?_) (a' := ?_) #[true, true, false, false, true, true, true, false, false, true, true, false, false, true, true, false, false, true, true, false, false, true, true, false, false, false] rfl rfl (take_ofW HT_.out HW_.out (by kernel_rfl)) (fun _ _ _ h => h) (Or.inl ⟨by rfl, ?_⟩) hHeld ?_ ?_
                                  rotate_left
                                  · rintro w' ⟨s0, s1, s2, s3, s4, s5, s6, s7, s8, s9, s10, s11, s12, s13, s14, s15, s16, s17⟩
                                    go_simp
                                    with_reducible rfl
                                  rotate_left
                                  · simp only [Act.put, List.setIfInBounds_toArray, List.set_cons_zero, List.set_cons_succ, i64_w, i32_w]
                                    rfl
                                  refine one_ (i := 2) (N := some 60) #[true, true, true, false, true, true, true, false, false, true, true, false, false, true, true, false, false, true, true, false, false, true, true, false, false, false] rfl rfl (one_of HT_.out (by kernel_rfl)) (by decide) (fun K hK => ?_)
                                  refine goes_ Try.func27 (by kernel_rfl) rfl #[.int .u64 x8_32, .int .i64 1] (by rfl) rfl rfl (by (try simp only [List.map_toArray, List.map_cons, List.map_nil]); first | done | rfl | (simp only [List.length_drop, List.length_take]; rfl) | (rw [← B.u64u32]; rfl)) ?_
                                  with_reducible refine (spec_big.calls x8_32 1 t132 _ A36.out).mono ?_
                                  rintro e w49 ⟨rfl, hb⟩
                                  refine ⟨_, rfl, ?_⟩
                                  have n0_ := Aside0.mk (blk_below (g := gb121) (o := .cells #[.string a0_0, .slice A0_1 l0_1.length c0_1, .int .i32 a0_2, .string a0_3, .slice A0_4 l0_4.length c0_4, .int .i32 a0_5, .int .i32 a0_6, .string a0_7, .int .i64 a0_8, .int .i64 a0_9, .int .i64 a0_10, .int .i64 a0_11, .bool a0_12, .int .u32 a0_13, .slice A0_14 l0_14.length c0_14, .slice A0_15 l0_15.length c0_15, .string a0_16, .string a0_17] 36 (0, 0)) (by (with_reducible repeat (first | refine blk_drewN ?_ _ | refine blk_drew ?_ | refine blk_alloc ?_ _)); exact BK121.out) hb)
                                  have n1_ := Aside0.mk (below_step (by repeat (first | (with_reducible first | exact HB.out | apply below_alloc | apply pw_below_drewN | apply below_drew1 | refine below_set ?_ GE121.out) | exact HB.out)) hb)
                                  clear BK121
                                  clear HB
                                  have BK121 := n0_
                                  have HB := n1_
                                  clear n0_ n1_
                                  (try clear hb)
                                  (try clear hb2)
                                  (try clear hk)
                                  (try clear hi)
                                  refine hK.out _ _ ⟨(blk_cell BK121.out 0).trans rfl, (blk_cell BK121.out 1).trans rfl, (blk_cell BK121.out 2).trans rfl, (blk_cell BK121.out 3).trans rfl, (blk_cell BK121.out 4).trans rfl, (blk_cell BK121.out 5).trans rfl, (blk_cell BK121.out 6).trans rfl, (blk_cell BK121.out 7).trans rfl, (blk_cell BK121.out 8).trans rfl, (blk_cell BK121.out 9).trans rfl, (blk_cell BK121.out 10).trans rfl, (blk_cell BK121.out 11).trans rfl, (blk_cell BK121.out 12).trans rfl, (blk_cell BK121.out 13).trans rfl, (blk_cell BK121.out 14).trans rfl, (blk_cell BK121.out 15).trans rfl, (blk_cell BK121.out 16).trans rfl, (blk_cell BK121.out 17).trans rfl⟩ (fun hHeld => ?_)
                                  clear hK K
                                  refine norm_ (a' := ?_) ?_ ?_
                                  rotate_left
                                  · show Act.put _ (some 60) _ = _
                                    simp only [Act.put, List.setIfInBounds_toArray, List.set_cons_zero, List.set_cons_succ, i64_w, i32_w]
                                    rfl
                                  refine pure_ (i := 3) (N := some 61) (v := ?_) (a' := ?_) #[true, true, true, true, true, true, true, false, false, true, true, false, false, true, true, false, false, true, true, false, false, true, true, false, false, false] rfl rfl (any_of HT_.out (by kernel_rfl)) (fun _ _ _ h => h) (Or.inl ⟨by rfl, ?_⟩) ?_ ?_
                                  rotate_left
                                  · intro w'
                                    go_simp
                                    with_reducible rfl
                                  rotate_left
                                  · simp only [Act.put, List.setIfInBounds_toArray, List.set_cons_zero, List.set_cons_succ, i64_w, i32_w]
                                    rfl
                                  refine one_ (i := 7) (N := some 65) #[true, true, true, true, true, true, true, true, false, true, true, false, false, true, true, false, false, true, true, false, false, true, true, false, false, false] rfl rfl (one_of HT_.out (by kernel_rfl)) (by decide) (fun K hK => ?_)
                                  refine goes_ Try.func27 (by kernel_rfl) rfl #[.int .u64 (IntKind.u64.wrap (a0_13)), .int .i64 4] (by rfl) rfl rfl (by (try simp only [List.map_toArray, List.map_cons, List.map_nil]); first | done | rfl | (simp only [List.length_drop, List.length_take]; rfl) | (rw [← B.u64u32]; rfl)) ?_
                                  with_reducible refine (spec_big.calls (IntKind.u64.wrap (a0_13)) 4 t133 _ A38.out).mono ?_
                                  rintro e w50 ⟨rfl, hb⟩
                                  refine ⟨_, rfl, ?_⟩
                                  have n0_ := Aside0.mk (blk_below (g := gb121) (o := .cells #[.string a0_0, .slice A0_1 l0_1.length c0_1, .int .i32 a0_2, .string a0_3, .slice A0_4 l0_4.length c0_4, .int .i32 a0_5, .int .i32 a0_6, .string a0_7, .int .i64 a0_8, .int .i64 a0_9, .int .i64 a0_10, .int .i64 a0_11, .bool a0_12, .int .u32 a0_13, .slice A0_14 l0_14.length c0_14, .slice A0_15 l0_15.length c0_15, .string a0_16, .string a0_17] 36 (0, 0)) (by (with_reducible repeat (first | refine blk_drewN ?_ _ | refine blk_drew ?_ | refine blk_alloc ?_ _)); exact BK121.out) hb)
                                  have n1_ := Aside0.mk (below_step (by repeat (first | (with_reducible first | exact HB.out | apply below_alloc | apply pw_below_drewN | apply below_drew1 | refine below_set ?_ GE121.out) | exact HB.out)) hb)
                                  clear BK121
                                  clear HB
                                  have BK121 := n0_
                                  have HB := n1_
                                  clear n0_ n1_
                                  (try clear hb)
                                  (try clear hb2)
                                  (try clear hk)
                                  (try clear hi)
                                  refine hK.out _ _ ⟨(blk_cell BK121.out 0).trans rfl, (blk_cell BK121.out 1).trans rfl, (blk_cell BK121.out 2).trans rfl, (blk_cell BK121.out 3).trans rfl, (blk_cell BK121.out 4).trans rfl, (blk_cell BK121.out 5).trans rfl, (blk_cell BK121.out 6).trans rfl, (blk_cell BK121.out 7).trans rfl, (blk_cell BK121.out 8).trans rfl, (blk_cell BK121.out 9).trans rfl, (blk_cell BK121.out 10).trans rfl, (blk_cell BK121.out 11).trans rfl, (blk_cell BK121.out 12).trans rfl, (blk_cell BK121.out 13).trans rfl, (blk_cell BK121.out 14).trans rfl, (blk_cell BK121.out 15).trans rfl, (blk_cell BK121.out 16).trans rfl, (blk_cell BK121.out 17).trans rfl⟩ (fun hHeld => ?_)
                                  clear hK K
                                  refine norm_ (a' := ?_) ?_ ?_
                                  rotate_left
                                  · show Act.put _ (some 65) _ = _
                                    simp only [Act.put, List.setIfInBounds_toArray, List.set_cons_zero, List.set_cons_succ, i64_w, i32_w]
                                    rfl
                                  refine pure_ (i := 8) (N := some 66) (v := ?_) (a' := ?_) #[true, true, true, true, true, true, true, true, true, true, true, false, false, true, true, false, false, true, true, false, false, true, true, false, false, false] rfl rfl (any_of HT_.out (by kernel_rfl)) (fun _ _ _ h => h) (Or.inl ⟨by rfl, ?_⟩) ?_ ?_
                                  rotate_left
                                  · intro w'
                                    go_simp
                                    with_reducible rfl
                                  rotate_left
                                  · simp only [Act.put, List.setIfInBounds_toArray, List.set_cons_zero, List.set_cons_succ, i64_w, i32_w]
                                    rfl
                                  refine one_ (i := 11) (N := some 69) #[true, true, true, true, true, true, true, true, true, true, true, true, false, true, true, false, false, true, true, false, false, true, true, false, false, false] rfl rfl (one_of HT_.out (by kernel_rfl)) (by decide) (fun K hK => ?_)
                                  refine goes_ Try.func30 (by kernel_rfl) rfl #[.slice A0_14 l0_14.length c0_14] (by rfl) rfl rfl (by (try simp only [List.map_toArray, List.map_cons, List.map_nil]); first | done | rfl | (simp only [List.length_drop, List.length_take]; rfl) | (rw [← B.u64u32]; rfl)) ?_
                                  with_reducible refine (spec_partsBytes.calls kj32 _ _ l0_14 t134 _ ?side1 ?side2 A40.out).mono ?_
                                  (case side1 => repeat (first | exact (Kd.C_below HR0_14.out HB.out) | (with_reducible refine Kd.C_alloc ?_ _) | (with_reducible refine Kd.C_drewN ?_ _) | (with_reducible refine Kd.C_drew ?_)))
                                  (case side2 => exact HC0_14.out)
                                  rintro e w51 ⟨rfl, hb⟩
                                  refine ⟨_, rfl, ?_⟩
                                  have n0_ := Aside0.mk (blk_below (g := gb121) (o := .cells #[.string a0_0, .slice A0_1 l0_1.length c0_1, .int .i32 a0_2, .string a0_3, .slice A0_4 l0_4.length c0_4, .int .i32 a0_5, .int .i32 a0_6, .string a0_7, .int .i64 a0_8, .int .i64 a0_9, .int .i64 a0_10, .int .i64 a0_11, .bool a0_12, .int .u32 a0_13, .slice A0_14 l0_14.length c0_14, .slice A0_15 l0_15.length c0_15, .string a0_16, .string a0_17] 36 (0, 0)) (by (with_reducible repeat (first | refine blk_drewN ?_ _ | refine blk_drew ?_ | refine blk_alloc ?_ _)); exact BK121.out) hb)
                                  have n1_ := Aside0.mk (below_step (by repeat (first | (with_reducible first | exact HB.out | apply below_alloc | apply pw_below_drewN | apply below_drew1 | refine below_set ?_ GE121.out) | exact HB.out)) hb)
                                  clear BK121
                                  clear HB
                                  have BK121 := n0_
                                  have HB := n1_
                                  clear n0_ n1_
                                  (try clear hb)
                                  (try clear hb2)
                                  (try clear hk)
                                  (try clear hi)
                                  refine hK.out _ _ ⟨(blk_cell BK121.out 0).trans rfl, (blk_cell BK121.out 1).trans rfl, (blk_cell BK121.out 2).trans rfl, (blk_cell BK121.out 3).trans rfl, (blk_cell BK121.out 4).trans rfl, (blk_cell BK121.out 5).trans rfl, (blk_cell BK121.out 6).trans rfl, (blk_cell BK121.out 7).trans rfl, (blk_cell BK121.out 8).trans rfl, (blk_cell BK121.out 9).trans rfl, (blk_cell BK121.out 10).trans rfl, (blk_cell BK121.out 11).trans rfl, (blk_cell BK121.out 12).trans rfl, (blk_cell BK121.out 13).trans rfl, (blk_cell BK121.out 14).trans rfl, (blk_cell BK121.out 15).trans rfl, (blk_cell BK121.out 16).trans rfl, (blk_cell BK121.out 17).trans rfl⟩ (fun hHeld => ?_)
                                  clear hK K
                                  refine norm_ (a' := ?_) ?_ ?_
                                  rotate_left
                                  · show Act.put _ (some 69) _ = _
                                    simp only [Act.put, List.setIfInBounds_toArray, List.set_cons_zero, List.set_cons_succ, i64_w, i32_w]
                                    rfl
                                  refine pure_ (i := 12) (N := some 70) (v := ?_) (a' := ?_) #[true, true, true, true, true, true, true, true, true, true, true, true, true, true, true, false, false, true, true, false, false, true, true, false, false, false] rfl rfl (any_of HT_.out (by kernel_rfl)) (fun _ _ _ h => h) (Or.inl ⟨by rfl, ?_⟩) ?_ ?_
                                  rotate_left
                                  · intro w'
                                    go_simp
                                    with_reducible rfl
                                  rotate_left
                                  · simp only [Act.put, List.setIfInBounds_toArray, List.set_cons_zero, List.set_cons_succ, i64_w, i32_w]
                                    rfl
                                  refine one_ (i := 15) (N := some 73) #[true, true, true, true, true, true, true, true, true, true, true, true, true, true, true, true, false, true, true, false, false, true, true, false, false, false] rfl rfl (one_of HT_.out (by kernel_rfl)) (by decide) (fun K hK => ?_)
                                  refine goes_ Try.func30 (by kernel_rfl) rfl #[.slice A0_15 l0_15.length c0_15] (by rfl) rfl rfl (by (try simp only [List.map_toArray, List.map_cons, List.map_nil]); first | done | rfl | (simp only [List.length_drop, List.length_take]; rfl) | (rw [← B.u64u32]; rfl)) ?_
                                  with_reducible refine (spec_partsBytes.calls kj32 _ _ l0_15 t135 _ ?side1 ?side2 A42.out).mono ?_
                                  (case side1 => repeat (first | exact (Kd.C_below HR0_15.out HB.out) | (with_reducible refine Kd.C_alloc ?_ _) | (with_reducible refine Kd.C_drewN ?_ _) | (with_reducible refine Kd.C_drew ?_)))
                                  (case side2 => exact HC0_15.out)
                                  rintro e w52 ⟨rfl, hb⟩
                                  refine ⟨_, rfl, ?_⟩
                                  have n0_ := Aside0.mk (blk_below (g := gb121) (o := .cells #[.string a0_0, .slice A0_1 l0_1.length c0_1, .int .i32 a0_2, .string a0_3, .slice A0_4 l0_4.length c0_4, .int .i32 a0_5, .int .i32 a0_6, .string a0_7, .int .i64 a0_8, .int .i64 a0_9, .int .i64 a0_10, .int .i64 a0_11, .bool a0_12, .int .u32 a0_13, .slice A0_14 l0_14.length c0_14, .slice A0_15 l0_15.length c0_15, .string a0_16, .string a0_17] 36 (0, 0)) (by (with_reducible repeat (first | refine blk_drewN ?_ _ | refine blk_drew ?_ | refine blk_alloc ?_ _)); exact BK121.out) hb)
                                  have n1_ := Aside0.mk (below_step (by repeat (first | (with_reducible first | exact HB.out | apply below_alloc | apply pw_below_drewN | apply below_drew1 | refine below_set ?_ GE121.out) | exact HB.out)) hb)
                                  clear BK121
                                  clear HB
                                  have BK121 := n0_
                                  have HB := n1_
                                  clear n0_ n1_
                                  (try clear hb)
                                  (try clear hb2)
                                  (try clear hk)
                                  (try clear hi)
                                  refine hK.out _ _ ⟨(blk_cell BK121.out 0).trans rfl, (blk_cell BK121.out 1).trans rfl, (blk_cell BK121.out 2).trans rfl, (blk_cell BK121.out 3).trans rfl, (blk_cell BK121.out 4).trans rfl, (blk_cell BK121.out 5).trans rfl, (blk_cell BK121.out 6).trans rfl, (blk_cell BK121.out 7).trans rfl, (blk_cell BK121.out 8).trans rfl, (blk_cell BK121.out 9).trans rfl, (blk_cell BK121.out 10).trans rfl, (blk_cell BK121.out 11).trans rfl, (blk_cell BK121.out 12).trans rfl, (blk_cell BK121.out 13).trans rfl, (blk_cell BK121.out 14).trans rfl, (blk_cell BK121.out 15).trans rfl, (blk_cell BK121.out 16).trans rfl, (blk_cell BK121.out 17).trans rfl⟩ (fun hHeld => ?_)
                                  clear hK K
                                  refine norm_ (a' := ?_) ?_ ?_
                                  rotate_left
                                  · show Act.put _ (some 73) _ = _
                                    simp only [Act.put, List.setIfInBounds_toArray, List.set_cons_zero, List.set_cons_succ, i64_w, i32_w]
                                    rfl
                                  refine pure_ (i := 16) (N := some 74) (v := ?_) (a' := ?_) #[true, true, true, true, true, true, true, true, true, true, true, true, true, true, true, true, true, true, true, false, false, true, true, false, false, false] rfl rfl (any_of HT_.out (by kernel_rfl)) (fun _ _ _ h => h) (Or.inl ⟨by rfl, ?_⟩) ?_ ?_
                                  rotate_left
                                  · intro w'
                                    go_simp
                                    with_reducible rfl
                                  rotate_left
                                  · simp only [Act.put, List.setIfInBounds_toArray, List.set_cons_zero, List.set_cons_succ, i64_w, i32_w]
                                    rfl
                                  refine one_ (i := 19) (N := some 77) #[true, true, true, true, true, true, true, true, true, true, true, true, true, true, true, true, true, true, true, true, false, true, true, false, false, false] rfl rfl (one_of HT_.out (by kernel_rfl)) (by decide) (fun K hK => ?_)
                                  refine goes_ Try.func28 (by kernel_rfl) rfl #[.string a0_16, .int .i64 4] (by rfl) rfl rfl (by (try simp only [List.map_toArray, List.map_cons, List.map_nil]); first | done | rfl | (simp only [List.length_drop, List.length_take]; rfl) | (rw [← B.u64u32]; rfl)) ?_
                                  with_reducible refine (spec_counted.calls a0_16 4 t136 _ A44.out).mono ?_
                                  rintro e w53 ⟨rfl, hb⟩
                                  refine ⟨_, rfl, ?_⟩
                                  have n0_ := Aside0.mk (blk_below (g := gb121) (o := .cells #[.string a0_0, .slice A0_1 l0_1.length c0_1, .int .i32 a0_2, .string a0_3, .slice A0_4 l0_4.length c0_4, .int .i32 a0_5, .int .i32 a0_6, .string a0_7, .int .i64 a0_8, .int .i64 a0_9, .int .i64 a0_10, .int .i64 a0_11, .bool a0_12, .int .u32 a0_13, .slice A0_14 l0_14.length c0_14, .slice A0_15 l0_15.length c0_15, .string a0_16, .string a0_17] 36 (0, 0)) (by (with_reducible repeat (first | refine blk_drewN ?_ _ | refine blk_drew ?_ | refine blk_alloc ?_ _)); exact BK121.out) hb)
                                  have n1_ := Aside0.mk (below_step (by repeat (first | (with_reducible first | exact HB.out | apply below_alloc | apply pw_below_drewN | apply below_drew1 | refine below_set ?_ GE121.out) | exact HB.out)) hb)
                                  clear BK121
                                  clear HB
                                  have BK121 := n0_
                                  have HB := n1_
                                  clear n0_ n1_
                                  (try clear hb)
                                  (try clear hb2)
                                  (try clear hk)
                                  (try clear hi)
                                  refine hK.out _ _ ⟨(blk_cell BK121.out 0).trans rfl, (blk_cell BK121.out 1).trans rfl, (blk_cell BK121.out 2).trans rfl, (blk_cell BK121.out 3).trans rfl, (blk_cell BK121.out 4).trans rfl, (blk_cell BK121.out 5).trans rfl, (blk_cell BK121.out 6).trans rfl, (blk_cell BK121.out 7).trans rfl, (blk_cell BK121.out 8).trans rfl, (blk_cell BK121.out 9).trans rfl, (blk_cell BK121.out 10).trans rfl, (blk_cell BK121.out 11).trans rfl, (blk_cell BK121.out 12).trans rfl, (blk_cell BK121.out 13).trans rfl, (blk_cell BK121.out 14).trans rfl, (blk_cell BK121.out 15).trans rfl, (blk_cell BK121.out 16).trans rfl, (blk_cell BK121.out 17).trans rfl⟩ (fun hHeld => ?_)
                                  clear hK K
                                  refine norm_ (a' := ?_) ?_ ?_
                                  rotate_left
                                  · show Act.put _ (some 77) _ = _
                                    simp only [Act.put, List.setIfInBounds_toArray, List.set_cons_zero, List.set_cons_succ, i64_w, i32_w]
                                    rfl
                                  refine pure_ (i := 20) (N := some 78) (v := ?_) (a' := ?_) #[true, true, true, true, true, true, true, true, true, true, true, true, true, true, true, true, true, true, true, true, true, true, true, false, false, false] rfl rfl (any_of HT_.out (by kernel_rfl)) (fun _ _ _ h => h) (Or.inl ⟨by rfl, ?_⟩) ?_ ?_
                                  rotate_left
                                  · intro w'
                                    go_simp
                                    with_reducible rfl
                                  rotate_left
                                  · simp only [Act.put, List.setIfInBounds_toArray, List.set_cons_zero, List.set_cons_succ, i64_w, i32_w]
                                    rfl
                                  refine one_ (i := 23) (N := some 81) #[true, true, true, true, true, true, true, true, true, true, true, true, true, true, true, true, true, true, true, true, true, true, true, true, false, false] rfl rfl (one_of HT_.out (by kernel_rfl)) (by decide) (fun K hK => ?_)
                                  refine goes_ Try.func28 (by kernel_rfl) rfl #[.string a0_17, .int .i64 4] (by rfl) rfl rfl (by (try simp only [List.map_toArray, List.map_cons, List.map_nil]); first | done | rfl | (simp only [List.length_drop, List.length_take]; rfl) | (rw [← B.u64u32]; rfl)) ?_
                                  with_reducible refine (spec_counted.calls a0_17 4 t137 _ A46.out).mono ?_
                                  rintro e w54 ⟨rfl, hb⟩
                                  refine ⟨_, rfl, ?_⟩
                                  have n0_ := Aside0.mk (blk_below (g := gb121) (o := .cells #[.string a0_0, .slice A0_1 l0_1.length c0_1, .int .i32 a0_2, .string a0_3, .slice A0_4 l0_4.length c0_4, .int .i32 a0_5, .int .i32 a0_6, .string a0_7, .int .i64 a0_8, .int .i64 a0_9, .int .i64 a0_10, .int .i64 a0_11, .bool a0_12, .int .u32 a0_13, .slice A0_14 l0_14.length c0_14, .slice A0_15 l0_15.length c0_15, .string a0_16, .string a0_17] 36 (0, 0)) (by (with_reducible repeat (first | refine blk_drewN ?_ _ | refine blk_drew ?_ | refine blk_alloc ?_ _)); exact BK121.out) hb)
                                  have n1_ := Aside0.mk (below_step (by repeat (first | (with_reducible first | exact HB.out | apply below_alloc | apply pw_below_drewN | apply below_drew1 | refine below_set ?_ GE121.out) | exact HB.out)) hb)
                                  clear BK121
                                  clear HB
                                  have BK121 := n0_
                                  have HB := n1_
                                  clear n0_ n1_
                                  (try clear hb)
                                  (try clear hb2)
                                  (try clear hk)
                                  (try clear hi)
                                  refine hK.out _ _ ⟨(blk_cell BK121.out 0).trans rfl, (blk_cell BK121.out 1).trans rfl, (blk_cell BK121.out 2).trans rfl, (blk_cell BK121.out 3).trans rfl, (blk_cell BK121.out 4).trans rfl, (blk_cell BK121.out 5).trans rfl, (blk_cell BK121.out 6).trans rfl, (blk_cell BK121.out 7).trans rfl, (blk_cell BK121.out 8).trans rfl, (blk_cell BK121.out 9).trans rfl, (blk_cell BK121.out 10).trans rfl, (blk_cell BK121.out 11).trans rfl, (blk_cell BK121.out 12).trans rfl, (blk_cell BK121.out 13).trans rfl, (blk_cell BK121.out 14).trans rfl, (blk_cell BK121.out 15).trans rfl, (blk_cell BK121.out 16).trans rfl, (blk_cell BK121.out 17).trans rfl⟩ (fun hHeld => ?_)
                                  clear hK K
                                  refine norm_ (a' := ?_) ?_ ?_
                                  rotate_left
                                  · show Act.put _ (some 81) _ = _
                                    simp only [Act.put, List.setIfInBounds_toArray, List.set_cons_zero, List.set_cons_succ, i64_w, i32_w]
                                    rfl
                                  refine pure_ (i := 24) (N := some 82) (v := ?_) (a' := ?_) #[true, true, true, true, true, true, true, true, true, true, true, true, true, true, true, true, true, true, true, true, true, true, true, true, true, false] rfl rfl (any_of HT_.out (by kernel_rfl)) (fun _ _ _ h => h) (Or.inl ⟨by rfl, ?_⟩) ?_ ?_
                                  rotate_left
                                  · intro w'
                                    go_simp
                                    with_reducible rfl
                                  rotate_left
                                  · simp only [Act.put, List.setIfInBounds_toArray, List.set_cons_zero, List.set_cons_succ, i64_w, i32_w]
                                    rfl
                                  refine pure_ (i := 25) (N := some 4) (v := ?_) (a' := ?_) #[true, true, true, true, true, true, true, true, true, true, true, true, true, true, true, true, true, true, true, true, true, true, true, true, true, true] rfl rfl (any_of HT_.out (by kernel_rfl)) (fun _ _ _ h => h) (Or.inl ⟨by rfl, ?_⟩) ?_ ?_
                                  rotate_left
                                  · intro w'
                                    go_simp
                                    with_reducible rfl
                                  rotate_left
                                  · simp only [Act.put, List.setIfInBounds_toArray, List.set_cons_zero, List.set_cons_succ, i64_w, i32_w]
                                    rfl
                                  refine done_ (done_of HT_.out (by kernel_rfl)) ?_
                                  try go_wp2
                                  go_ret
                                  exact ⟨by first | rfl | (simp [errW_none, errW_some] <;> rfl) | (simp [*, errW_none, errW_some] <;> rfl), by repeat (first | (with_reducible first | exact HB.out | apply below_alloc | apply pw_below_drewN | apply below_drew1 | refine below_set ?_ GE121.out) | exact HB.out)⟩
                                · rw [if_neg c47] at H
                                  exact absurd H (by simp)
                              · rw [if_neg c45] at H
                                exact absurd H (by simp)
                            · rw [if_neg c43] at H
                              exact absurd H (by simp)
                          · rw [if_neg c41] at H
                            exact absurd H (by simp)
                        · rw [if_neg c39] at H
                          exact absurd H (by simp)
                      · rw [if_neg c37] at H
                        exact absurd H (by simp)
          · rw [if_neg c20] at H
            exact absurd H (by simp)
    · rw [if_neg c7] at H
      exact absurd H (by simp)
  · rw [if_neg c5] at H
    exact absurd H (by simp)

end Go.Proofs.Ytnipcocllhfaoaa.A

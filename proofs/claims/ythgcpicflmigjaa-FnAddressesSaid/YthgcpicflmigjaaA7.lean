/- Go functions of this seat come to the answers of the Lean functions that stand here ('.calls'), under what each theorem states and nothing else. Written by pw.py, a program of this session, with texts of its own. -/
import Derived.Test.YthgcpicflmigjaaA0
import Derived.Test.YthgcpicflmigjaaA1
import Derived.Test.YthgcpicflmigjaaA2
import Derived.Test.YthgcpicflmigjaaA3
import Derived.Test.YthgcpicflmigjaaA4
import Derived.Test.YthgcpicflmigjaaA5
import Derived.Test.YthgcpicflmigjaaA6
namespace Go.Proofs.Ythgcpicflmigjaa.A
open Go.RowKit Go.Proofs.YthgcpicflmigjaaW.PrintWords Go.Proofs.YthgcpicflmigjaaW.PrintLast Go.Proofs.YthgcpicflmigjaaW.PrintMore
attribute [local go_sem] max2_int min2_int max_two min_two max_three min_three max_four min_four   -- for this text's walks alone
set_option linter.unusedVariables false
set_option linter.unusedSimpArgs false
set_option maxRecDepth 100000

/-! ### laws_FnAddresses: function 4 -/
mutual
def laws_FnAddresses.j0 : Nat → List ByteArray → List ByteArray → Int → Bool → Option (Bool)
  | 0, _, _, _, _ => none
  | k + 1, x0, x1, x2, x25 => if x25 = true then (some true) else ((laws_addressesRight.f k x0).bind fun t122 => (if t122 = true then ((laws_addressesRight.f k x1).bind fun t123 => (laws_FnAddresses.j1 k x0 x1 x2 (!t123))) else (laws_FnAddresses.j1 k x0 x1 x2 true)))
def laws_FnAddresses.j1 : Nat → List ByteArray → List ByteArray → Int → Bool → Option (Bool)
  | 0, _, _, _, _ => none
  | k + 1, x0, x1, x2, x33 => if x33 = true then ((laws_addressAwake.f).bind fun t124 => (some t124)) else ((laws_addressTo.f k x0).bind fun t125 => ((laws_addressTo.f k x1).bind fun t128 => (laws_FnAddresses.l0 k x0 x1 x2 t125 t128 ((x0.length : Int) == (x1.length : Int)) t125 (t125.length : Int) 0)))
def laws_FnAddresses.l0 : Nat → List ByteArray → List ByteArray → Int → List (S34) → List (S34) → Bool → List (S34) → Int → Int → Option (Bool)
  | 0, _, _, _, _, _, _, _, _, _ => none
  | k + 1, x0, x1, x2, x7, x8, x9, x44, x45, x46 => if x46 < x45 then (if 0 ≤ x46 then (if x46 < (x44.length : Int) then (if x46 < (x0.length : Int) then ((slices_Contains_string_string.f k x1 (rdOf ByteArray.empty x0 x46)).bind fun t134 => (if x9 = true then (laws_FnAddresses.j3 k x0 x1 x2 x7 x8 t134 x46 t134 x44 x45 x46 ((rd_T34 x44 x46).f0) ((rd_T34 x44 x46).f1)) else (laws_FnAddresses.j3 k x0 x1 x2 x7 x8 false x46 t134 x44 x45 x46 ((rd_T34 x44 x46).f0) ((rd_T34 x44 x46).f1)))) else (none)) else (none)) else (none)) else ((impl_Address.f x7).bind fun t142 => (if (x7.length : Int) > 0 then (if (x7.length : Int) = 0 then (none) else (if 0 ≤ (Int.tmod (wrap64 (x2)) (x7.length : Int)) then (if (Int.tmod (wrap64 (x2)) (x7.length : Int)) ≤ (x7.length : Int) then ((impl_Address.f (x7.drop ((Int.tmod (wrap64 (x2)) (x7.length : Int)) : Int).toNat)).bind fun t149 => ((some (x7.take ((Int.tmod (wrap64 (x2)) (x7.length : Int)) : Int).toNat : List (S34))).bind fun y152 => (if t149.length + y152.length < 5864062014805 then ((impl_AddressesEqual.f x7 x8).bind fun t159 => (if (t159 == x9) = true then ((impl_AddressesEqual.f x7 (t149 ++ y152)).bind fun t160 => (if t160 = true then ((laws_addressAwake.f).bind fun t161 => (some t161)) else (some false))) else (some false))) else (none)))) else (none)) else (none))) else ((impl_AddressesEqual.f x7 x8).bind fun t162 => (if (t162 == x9) = true then ((impl_AddressesEqual.f x7 t142).bind fun t163 => (if t163 = true then ((laws_addressAwake.f).bind fun t164 => (some t164)) else (some false))) else (some false)))))
def laws_FnAddresses.j3 : Nat → List ByteArray → List ByteArray → Int → List (S34) → List (S34) → Bool → Int → Bool → List (S34) → Int → Int → Int → ByteArray → Option (Bool)
  | 0, _, _, _, _, _, _, _, _, _, _, _, _, _ => none
  | k + 1, x0, x1, x2, x7, x8, x9, x10, x12, x44, x45, x46, x133000, x133001 => (impl_AddressIn.f x8 x133000 x133001).bind fun t135 => (if (t135 != x12) = true then (laws_FnAddresses.j4 k x0 x1 x2 x7 x8 x9 x10 x44 x45 x46 true x133000 x133001) else ((impl_AddressIn.f x7 x133000 x133001).bind fun t136 => (laws_FnAddresses.j4 k x0 x1 x2 x7 x8 x9 x10 x44 x45 x46 (!t136) x133000 x133001)))
def laws_FnAddresses.j4 : Nat → List ByteArray → List ByteArray → Int → List (S34) → List (S34) → Bool → Int → List (S34) → Int → Int → Bool → Int → ByteArray → Option (Bool)
  | 0, _, _, _, _, _, _, _, _, _, _, _, _, _ => none
  | k + 1, x0, x1, x2, x7, x8, x9, x10, x44, x45, x46, x71, x133000, x133001 => if x71 = true then (some false) else (laws_FnAddresses.l1 k x0 x1 x2 x7 x8 x9 x10 x44 x45 x46 x8 (x8.length : Int) 0 x133000 x133001)
def laws_FnAddresses.l1 : Nat → List ByteArray → List ByteArray → Int → List (S34) → List (S34) → Bool → Int → List (S34) → Int → Int → List (S34) → Int → Int → Int → ByteArray → Option (Bool)
  | 0, _, _, _, _, _, _, _, _, _, _, _, _, _, _, _ => none
  | k + 1, x0, x1, x2, x7, x8, x9, x10, x44, x45, x46, x72, x73, x74, x133000, x133001 => if x74 < x73 then (if 0 ≤ x74 then (if x74 < (x72.length : Int) then ((impl_AddressEqual.f x133000 x133001 ((rd_T34 x72 x74).f0) ((rd_T34 x72 x74).f1)).bind fun t139 => (if 0 ≤ x10 then (if x10 < (x0.length : Int) then (if x74 < (x1.length : Int) then (if (t139 != ((rdOf ByteArray.empty x0 x10).toList == (rdOf ByteArray.empty x1 x74).toList)) = true then (some false) else (laws_FnAddresses.l1 k x0 x1 x2 x7 x8 x9 x10 x44 x45 x46 x72 x73 (wrap64 (x74 + 1)) x133000 x133001)) else (none)) else (none)) else (none))) else (none)) else (none)) else (laws_FnAddresses.l0 k x0 x1 x2 x7 x8 x9 x44 x45 (wrap64 (x46 + 1)))
end
def laws_FnAddresses.f (k : Nat) (l0 : List ByteArray) (l1 : List ByteArray) (a2 : Int) : Option (Bool) := (laws_zzFits4.f k l0).bind fun t120 => (if t120 = true then ((laws_zzFits4.f k l1).bind fun t121 => (laws_FnAddresses.j0 k l0 l1 a2 (!t121))) else (laws_FnAddresses.j0 k l0 l1 a2 true))
set_option maxRecDepth 100000 in
theorem laws_FnAddresses.mono_l : ∀ k, (∀ y0 y1 y2 y3, LeO (laws_FnAddresses.j0 k y0 y1 y2 y3) (laws_FnAddresses.j0 (k + 1) y0 y1 y2 y3)) ∧ (∀ y0 y1 y2 y3, LeO (laws_FnAddresses.j1 k y0 y1 y2 y3) (laws_FnAddresses.j1 (k + 1) y0 y1 y2 y3)) ∧ (∀ y0 y1 y2 y3 y4 y5 y6 y7 y8, LeO (laws_FnAddresses.l0 k y0 y1 y2 y3 y4 y5 y6 y7 y8) (laws_FnAddresses.l0 (k + 1) y0 y1 y2 y3 y4 y5 y6 y7 y8)) ∧ (∀ y0 y1 y2 y3 y4 y5 y6 y7 y8 y9 y10 y11 y12, LeO (laws_FnAddresses.j3 k y0 y1 y2 y3 y4 y5 y6 y7 y8 y9 y10 y11 y12) (laws_FnAddresses.j3 (k + 1) y0 y1 y2 y3 y4 y5 y6 y7 y8 y9 y10 y11 y12)) ∧ (∀ y0 y1 y2 y3 y4 y5 y6 y7 y8 y9 y10 y11 y12, LeO (laws_FnAddresses.j4 k y0 y1 y2 y3 y4 y5 y6 y7 y8 y9 y10 y11 y12) (laws_FnAddresses.j4 (k + 1) y0 y1 y2 y3 y4 y5 y6 y7 y8 y9 y10 y11 y12)) ∧ (∀ y0 y1 y2 y3 y4 y5 y6 y7 y8 y9 y10 y11 y12 y13 y14, LeO (laws_FnAddresses.l1 k y0 y1 y2 y3 y4 y5 y6 y7 y8 y9 y10 y11 y12 y13 y14) (laws_FnAddresses.l1 (k + 1) y0 y1 y2 y3 y4 y5 y6 y7 y8 y9 y10 y11 y12 y13 y14))
  | 0 => ⟨fun _ _ _ _ r h => by simp [laws_FnAddresses.j0] at h, fun _ _ _ _ r h => by simp [laws_FnAddresses.j1] at h, fun _ _ _ _ _ _ _ _ _ r h => by simp [laws_FnAddresses.l0] at h, fun _ _ _ _ _ _ _ _ _ _ _ _ _ r h => by simp [laws_FnAddresses.j3] at h, fun _ _ _ _ _ _ _ _ _ _ _ _ _ r h => by simp [laws_FnAddresses.j4] at h, fun _ _ _ _ _ _ _ _ _ _ _ _ _ _ _ r h => by simp [laws_FnAddresses.l1] at h⟩
  | k + 1 => by
    obtain ⟨ih0, ih1, ih2, ih3, ih4, ih5⟩ := laws_FnAddresses.mono_l k
    refine ⟨?_, ?_, ?_, ?_, ?_, ?_⟩
    · intro y0 y1 y2 y3
      unfold laws_FnAddresses.j0
      repeat' first
      | (with_reducible exact ih0 _ _ _ _)
      | (with_reducible exact ih1 _ _ _ _)
      | (with_reducible exact ih2 _ _ _ _ _ _ _ _ _)
      | (with_reducible exact ih3 _ _ _ _ _ _ _ _ _ _ _ _ _)
      | (with_reducible exact ih4 _ _ _ _ _ _ _ _ _ _ _ _ _)
      | (with_reducible exact ih5 _ _ _ _ _ _ _ _ _ _ _ _ _ _ _)
      | (with_reducible exact laws_addressTo.mono _ _)
      | (with_reducible exact laws_addressesRight.mono _ _)
      | (with_reducible exact laws_zzFits4.mono _ _)
      | (with_reducible exact slices_Contains_string_string.mono _ _ _)
      | (with_reducible exact LeO.refl _)
      | (with_reducible exact LeO.none _)
      | (with_reducible refine LeO.ite ?_ ?_)
      | (with_reducible refine LeO.bind ?_ (fun _ => ?_))
      | exact ih0 _ _ _ _
      | exact ih1 _ _ _ _
      | exact ih2 _ _ _ _ _ _ _ _ _
      | exact ih3 _ _ _ _ _ _ _ _ _ _ _ _ _
      | exact ih4 _ _ _ _ _ _ _ _ _ _ _ _ _
      | exact ih5 _ _ _ _ _ _ _ _ _ _ _ _ _ _ _
      | exact laws_addressTo.mono _ _
      | exact laws_addressesRight.mono _ _
      | exact laws_zzFits4.mono _ _
      | exact slices_Contains_string_string.mono _ _ _
      | exact LeO.none _
      | refine LeO.ite ?_ ?_
      | refine LeO.bind ?_ (fun _ => ?_)
    · intro y0 y1 y2 y3
      unfold laws_FnAddresses.j1
      repeat' first
      | (with_reducible exact ih0 _ _ _ _)
      | (with_reducible exact ih1 _ _ _ _)
      | (with_reducible exact ih2 _ _ _ _ _ _ _ _ _)
      | (with_reducible exact ih3 _ _ _ _ _ _ _ _ _ _ _ _ _)
      | (with_reducible exact ih4 _ _ _ _ _ _ _ _ _ _ _ _ _)
      | (with_reducible exact ih5 _ _ _ _ _ _ _ _ _ _ _ _ _ _ _)
      | (with_reducible exact laws_addressTo.mono _ _)
      | (with_reducible exact laws_addressesRight.mono _ _)
      | (with_reducible exact laws_zzFits4.mono _ _)
      | (with_reducible exact slices_Contains_string_string.mono _ _ _)
      | (with_reducible exact LeO.refl _)
      | (with_reducible exact LeO.none _)
      | (with_reducible refine LeO.ite ?_ ?_)
      | (with_reducible refine LeO.bind ?_ (fun _ => ?_))
      | exact ih0 _ _ _ _
      | exact ih1 _ _ _ _
      | exact ih2 _ _ _ _ _ _ _ _ _
      | exact ih3 _ _ _ _ _ _ _ _ _ _ _ _ _
      | exact ih4 _ _ _ _ _ _ _ _ _ _ _ _ _
      | exact ih5 _ _ _ _ _ _ _ _ _ _ _ _ _ _ _
      | exact laws_addressTo.mono _ _
      | exact laws_addressesRight.mono _ _
      | exact laws_zzFits4.mono _ _
      | exact slices_Contains_string_string.mono _ _ _
      | exact LeO.none _
      | refine LeO.ite ?_ ?_
      | refine LeO.bind ?_ (fun _ => ?_)
    · intro y0 y1 y2 y3 y4 y5 y6 y7 y8
      unfold laws_FnAddresses.l0
      repeat' first
      | (with_reducible exact ih0 _ _ _ _)
      | (with_reducible exact ih1 _ _ _ _)
      | (with_reducible exact ih2 _ _ _ _ _ _ _ _ _)
      | (with_reducible exact ih3 _ _ _ _ _ _ _ _ _ _ _ _ _)
      | (with_reducible exact ih4 _ _ _ _ _ _ _ _ _ _ _ _ _)
      | (with_reducible exact ih5 _ _ _ _ _ _ _ _ _ _ _ _ _ _ _)
      | (with_reducible exact laws_addressTo.mono _ _)
      | (with_reducible exact laws_addressesRight.mono _ _)
      | (with_reducible exact laws_zzFits4.mono _ _)
      | (with_reducible exact slices_Contains_string_string.mono _ _ _)
      | (with_reducible exact LeO.refl _)
      | (with_reducible exact LeO.none _)
      | (with_reducible refine LeO.ite ?_ ?_)
      | (with_reducible refine LeO.bind ?_ (fun _ => ?_))
      | exact ih0 _ _ _ _
      | exact ih1 _ _ _ _
      | exact ih2 _ _ _ _ _ _ _ _ _
      | exact ih3 _ _ _ _ _ _ _ _ _ _ _ _ _
      | exact ih4 _ _ _ _ _ _ _ _ _ _ _ _ _
      | exact ih5 _ _ _ _ _ _ _ _ _ _ _ _ _ _ _
      | exact laws_addressTo.mono _ _
      | exact laws_addressesRight.mono _ _
      | exact laws_zzFits4.mono _ _
      | exact slices_Contains_string_string.mono _ _ _
      | exact LeO.none _
      | refine LeO.ite ?_ ?_
      | refine LeO.bind ?_ (fun _ => ?_)
    · intro y0 y1 y2 y3 y4 y5 y6 y7 y8 y9 y10 y11 y12
      unfold laws_FnAddresses.j3
      repeat' first
      | (with_reducible exact ih0 _ _ _ _)
      | (with_reducible exact ih1 _ _ _ _)
      | (with_reducible exact ih2 _ _ _ _ _ _ _ _ _)
      | (with_reducible exact ih3 _ _ _ _ _ _ _ _ _ _ _ _ _)
      | (with_reducible exact ih4 _ _ _ _ _ _ _ _ _ _ _ _ _)
      | (with_reducible exact ih5 _ _ _ _ _ _ _ _ _ _ _ _ _ _ _)
      | (with_reducible exact laws_addressTo.mono _ _)
      | (with_reducible exact laws_addressesRight.mono _ _)
      | (with_reducible exact laws_zzFits4.mono _ _)
      | (with_reducible exact slices_Contains_string_string.mono _ _ _)
      | (with_reducible exact LeO.refl _)
      | (with_reducible exact LeO.none _)
      | (with_reducible refine LeO.ite ?_ ?_)
      | (with_reducible refine LeO.bind ?_ (fun _ => ?_))
      | exact ih0 _ _ _ _
      | exact ih1 _ _ _ _
      | exact ih2 _ _ _ _ _ _ _ _ _
      | exact ih3 _ _ _ _ _ _ _ _ _ _ _ _ _
      | exact ih4 _ _ _ _ _ _ _ _ _ _ _ _ _
      | exact ih5 _ _ _ _ _ _ _ _ _ _ _ _ _ _ _
      | exact laws_addressTo.mono _ _
      | exact laws_addressesRight.mono _ _
      | exact laws_zzFits4.mono _ _
      | exact slices_Contains_string_string.mono _ _ _
      | exact LeO.none _
      | refine LeO.ite ?_ ?_
      | refine LeO.bind ?_ (fun _ => ?_)
    · intro y0 y1 y2 y3 y4 y5 y6 y7 y8 y9 y10 y11 y12
      unfold laws_FnAddresses.j4
      repeat' first
      | (with_reducible exact ih0 _ _ _ _)
      | (with_reducible exact ih1 _ _ _ _)
      | (with_reducible exact ih2 _ _ _ _ _ _ _ _ _)
      | (with_reducible exact ih3 _ _ _ _ _ _ _ _ _ _ _ _ _)
      | (with_reducible exact ih4 _ _ _ _ _ _ _ _ _ _ _ _ _)
      | (with_reducible exact ih5 _ _ _ _ _ _ _ _ _ _ _ _ _ _ _)
      | (with_reducible exact laws_addressTo.mono _ _)
      | (with_reducible exact laws_addressesRight.mono _ _)
      | (with_reducible exact laws_zzFits4.mono _ _)
      | (with_reducible exact slices_Contains_string_string.mono _ _ _)
      | (with_reducible exact LeO.refl _)
      | (with_reducible exact LeO.none _)
      | (with_reducible refine LeO.ite ?_ ?_)
      | (with_reducible refine LeO.bind ?_ (fun _ => ?_))
      | exact ih0 _ _ _ _
      | exact ih1 _ _ _ _
      | exact ih2 _ _ _ _ _ _ _ _ _
      | exact ih3 _ _ _ _ _ _ _ _ _ _ _ _ _
      | exact ih4 _ _ _ _ _ _ _ _ _ _ _ _ _
      | exact ih5 _ _ _ _ _ _ _ _ _ _ _ _ _ _ _
      | exact laws_addressTo.mono _ _
      | exact laws_addressesRight.mono _ _
      | exact laws_zzFits4.mono _ _
      | exact slices_Contains_string_string.mono _ _ _
      | exact LeO.none _
      | refine LeO.ite ?_ ?_
      | refine LeO.bind ?_ (fun _ => ?_)
    · intro y0 y1 y2 y3 y4 y5 y6 y7 y8 y9 y10 y11 y12 y13 y14
      unfold laws_FnAddresses.l1
      repeat' first
      | (with_reducible exact ih0 _ _ _ _)
      | (with_reducible exact ih1 _ _ _ _)
      | (with_reducible exact ih2 _ _ _ _ _ _ _ _ _)
      | (with_reducible exact ih3 _ _ _ _ _ _ _ _ _ _ _ _ _)
      | (with_reducible exact ih4 _ _ _ _ _ _ _ _ _ _ _ _ _)
      | (with_reducible exact ih5 _ _ _ _ _ _ _ _ _ _ _ _ _ _ _)
      | (with_reducible exact laws_addressTo.mono _ _)
      | (with_reducible exact laws_addressesRight.mono _ _)
      | (with_reducible exact laws_zzFits4.mono _ _)
      | (with_reducible exact slices_Contains_string_string.mono _ _ _)
      | (with_reducible exact LeO.refl _)
      | (with_reducible exact LeO.none _)
      | (with_reducible refine LeO.ite ?_ ?_)
      | (with_reducible refine LeO.bind ?_ (fun _ => ?_))
      | exact ih0 _ _ _ _
      | exact ih1 _ _ _ _
      | exact ih2 _ _ _ _ _ _ _ _ _
      | exact ih3 _ _ _ _ _ _ _ _ _ _ _ _ _
      | exact ih4 _ _ _ _ _ _ _ _ _ _ _ _ _
      | exact ih5 _ _ _ _ _ _ _ _ _ _ _ _ _ _ _
      | exact laws_addressTo.mono _ _
      | exact laws_addressesRight.mono _ _
      | exact laws_zzFits4.mono _ _
      | exact slices_Contains_string_string.mono _ _ _
      | exact LeO.none _
      | refine LeO.ite ?_ ?_
      | refine LeO.bind ?_ (fun _ => ?_)
set_option maxRecDepth 100000 in
theorem laws_FnAddresses.mono : ∀ a0 a1 a2 k, LeO (laws_FnAddresses.f k a0 a1 a2) (laws_FnAddresses.f (k + 1) a0 a1 a2) := by
  intro a0 a1 a2 k
  obtain ⟨ih0, ih1, ih2, ih3, ih4, ih5⟩ := laws_FnAddresses.mono_l k
  unfold laws_FnAddresses.f
  repeat' first
      | (with_reducible exact ih0 _ _ _ _)
      | (with_reducible exact ih1 _ _ _ _)
      | (with_reducible exact ih2 _ _ _ _ _ _ _ _ _)
      | (with_reducible exact ih3 _ _ _ _ _ _ _ _ _ _ _ _ _)
      | (with_reducible exact ih4 _ _ _ _ _ _ _ _ _ _ _ _ _)
      | (with_reducible exact ih5 _ _ _ _ _ _ _ _ _ _ _ _ _ _ _)
      | (with_reducible exact laws_addressTo.mono _ _)
      | (with_reducible exact laws_addressesRight.mono _ _)
      | (with_reducible exact laws_zzFits4.mono _ _)
      | (with_reducible exact slices_Contains_string_string.mono _ _ _)
      | (with_reducible exact LeO.refl _)
      | (with_reducible exact LeO.none _)
      | (with_reducible refine LeO.ite ?_ ?_)
      | (with_reducible refine LeO.bind ?_ (fun _ => ?_))
      | exact ih0 _ _ _ _
      | exact ih1 _ _ _ _
      | exact ih2 _ _ _ _ _ _ _ _ _
      | exact ih3 _ _ _ _ _ _ _ _ _ _ _ _ _
      | exact ih4 _ _ _ _ _ _ _ _ _ _ _ _ _
      | exact ih5 _ _ _ _ _ _ _ _ _ _ _ _ _ _ _
      | exact laws_addressTo.mono _ _
      | exact laws_addressesRight.mono _ _
      | exact laws_zzFits4.mono _ _
      | exact slices_Contains_string_string.mono _ _ _
      | exact LeO.none _
      | refine LeO.ite ?_ ?_
      | refine LeO.bind ?_ (fun _ => ?_)
def laws_FnAddresses.T17 : Bool × List (List Nat × List Nat) := (true, [([], []), ([], []), ([0, 1], [0, 1]), ([], []), ([], []), ([3, 4], [3, 4]), ([5], [5]), ([], []), ([], []), ([7, 8], [7, 8]), ([9], [9]), ([6, 10], [6, 10]), ([2, 11], [2, 11])])
def laws_FnAddresses.B17 : List Nat := [0, 0, 3, 0, 0, 24, 56, 0, 0, 384, 896, 2040, 4095]
theorem laws_FnAddresses.tab17 : rtab .any (opsOf Try.f4 17) = laws_FnAddresses.T17 := by kernel_rfl
theorem laws_FnAddresses.bits17 : waitsOk laws_FnAddresses.T17.2 laws_FnAddresses.B17 = true := by kernel_rfl
def laws_FnAddresses.T25 : Bool × List (List Nat × List Nat) := (true, [([], []), ([], []), ([0, 1], [0, 1]), ([2], [2]), ([], []), ([], []), ([4, 5], [4, 5]), ([3, 6, 3], [3, 6]), ([7, 7, 0, 1, 2, 3, 4, 5, 6, 7], [7])])
def laws_FnAddresses.B25 : List Nat := [0, 0, 3, 7, 0, 0, 48, 127, 255]
theorem laws_FnAddresses.tab25 : rtab .any (opsOf Try.f4 25) = laws_FnAddresses.T25 := by kernel_rfl
theorem laws_FnAddresses.bits25 : waitsOk laws_FnAddresses.T25.2 laws_FnAddresses.B25 = true := by kernel_rfl
set_option maxHeartbeats 8000000 in
set_option maxRecDepth 100000 in
theorem laws_FnAddresses.calls (k : Nat) (A0 : Option Addr) (c0 : Nat) (l0 : List ByteArray) (A1 : Option Addr) (c1 : Nat) (l1 : List ByteArray) (a2 : Int) (r : Bool) (w : World) (hr0 : Kd.C Kd.string w A0 l0.length l0) (hc0 : l0.length ≤ c0) (hr1 : Kd.C Kd.string w A1 l1.length l1) (hc1 : l1.length ≤ c1) (h : laws_FnAddresses.f k l0 l1 a2 = some r) :
    Calls Try.prog 4 #[.slice A0 l0.length c0, .slice A1 l1.length c1, .int .u8 a2] w fun e w' => e = .returned (.bool r) ∧ Below w.heap.size w w' := by
  have hu34 := Try.underlying34
  have HR0 := Aside0.mk hr0
  have HC0 := Aside0.mk hc0
  clear hr0 hc0
  have HR1 := Aside0.mk hr1
  have HC1 := Aside0.mk hc1
  clear hr1 hc1
  have HB := Aside0.mk (Below.refl w.heap.size w)
  have H : ((laws_zzFits4.f k l0).bind fun t120 => (if t120 = true then ((laws_zzFits4.f k l1).bind fun t121 => (laws_FnAddresses.j0 k l0 l1 a2 (!t121))) else (laws_FnAddresses.j0 k l0 l1 a2 true))) = some r := h
  clear h
  have HC4 := Aside0.mk H
  clear H
  go_enter Try.func4, Try.ntmps4
  go_upto_region 1 with (fail)
  go_cut [25] (fun v25 wc => ∃ (kq : Nat) (x25_3 : Bool), v25 = .bool x25_3 ∧ Aside0 (laws_FnAddresses.j0 kq l0 l1 a2 x25_3 = some r) ∧ Aside0 (kq ≤ k) ∧ Aside0 (Below w.heap.size w wc))
  case first =>
    have H := HC4.out
    clear HC4
    replace H := Option.bind_eq_some_iff.mp H
    obtain ⟨t120, A50, H⟩ := H
    replace H : (if t120 = true then ((laws_zzFits4.f k l1).bind fun t121 => (laws_FnAddresses.j0 k l0 l1 a2 (!t121))) else (laws_FnAddresses.j0 k l0 l1 a2 true)) = some r := H
    have A5 := Aside0.mk A50
    clear A50
    by_cases c6 : t120 = true
    · subst c6
      have H1 : ((laws_zzFits4.f k l1).bind fun t121 => (laws_FnAddresses.j0 k l0 l1 a2 (!t121))) = some r := by rw [if_pos rfl] at H; exact H
      clear H
      have H := H1
      clear H1
      replace H := Option.bind_eq_some_iff.mp H
      obtain ⟨t121, A70, H⟩ := H
      replace H : (laws_FnAddresses.j0 k l0 l1 a2 (!t121)) = some r := H
      have A7 := Aside0.mk A70
      clear A70
      have H' := Aside0.mk H
      clear H
      go_wp2_with (first | ((with_reducible refine gate_callee (f := 14) rfl ?_); refine goesL_ (some 19) rfl rfl Try.func14 (by kernel_rfl) rfl #[.slice A0 l0.length c0] rfl (by (try simp only [List.map_toArray, List.map_cons, List.map_nil]); first | done | rfl | (simp only [List.length_drop, List.length_take]; rfl)) ?_; (with_reducible refine (laws_zzFits4.calls k _ _ l0 true _ ?side1 ?side2 A5.out).mono ?_); (case side1 => repeat (first | exact (Kd.C_below HR0.out HB.out) | (with_reducible refine Kd.C_alloc ?_ _) | (with_reducible refine Kd.C_drewN ?_ _) | (with_reducible refine Kd.C_drew ?_))); (case side2 => exact HC0.out); rintro e w' ⟨rfl, ⟨nd, rfl⟩⟩; refine ⟨_, rfl, ?_⟩) | (go_at_call 14; (with_reducible refine (laws_zzFits4.calls k _ _ l1 t121 _ ?side1 ?side2 A7.out).mono ?_); (case side1 => repeat (first | exact (Kd.C_below HR1.out (by repeat (first | (with_reducible first | exact HB.out | apply below_alloc | apply pw_below_drewN | apply below_drew1) | exact HB.out))) | (with_reducible refine Kd.C_alloc ?_ _) | (with_reducible refine Kd.C_drewN ?_ _) | (with_reducible refine Kd.C_drew ?_))); (case side2 => exact HC1.out); rintro e w' ⟨rfl, ⟨nd, rfl⟩⟩))
      go_meet
      case rel => exact ⟨_, (!t121), (by first | rfl | (simp; done) | (simp [*]; done)), H', ⟨by first | omega | exact Nat.le_refl _⟩, ⟨by repeat (first | (with_reducible first | exact HB.out | apply below_alloc | apply pw_below_drewN | apply below_drew1) | exact HB.out)⟩⟩
    · replace c6 := Bool.eq_false_iff.mpr c6
      subst c6
      have H1 : (laws_FnAddresses.j0 k l0 l1 a2 true) = some r := by rw [if_neg (show ¬ (false = true) by decide)] at H; exact H
      clear H
      have H := H1
      clear H1
      have H' := Aside0.mk H
      clear H
      go_wp2_with (first | ((with_reducible refine gate_callee (f := 14) rfl ?_); refine goesL_ (some 19) rfl rfl Try.func14 (by kernel_rfl) rfl #[.slice A0 l0.length c0] rfl (by (try simp only [List.map_toArray, List.map_cons, List.map_nil]); first | done | rfl | (simp only [List.length_drop, List.length_take]; rfl)) ?_; (with_reducible refine (laws_zzFits4.calls k _ _ l0 false _ ?side1 ?side2 A5.out).mono ?_); (case side1 => repeat (first | exact (Kd.C_below HR0.out HB.out) | (with_reducible refine Kd.C_alloc ?_ _) | (with_reducible refine Kd.C_drewN ?_ _) | (with_reducible refine Kd.C_drew ?_))); (case side2 => exact HC0.out); rintro e w' ⟨rfl, ⟨nd, rfl⟩⟩; refine ⟨_, rfl, ?_⟩))
      go_meet
      case rel => exact ⟨_, (true), (by first | rfl | (simp; done) | (simp [*]; done)), H', ⟨by first | omega | exact Nat.le_refl _⟩, ⟨by repeat (first | (with_reducible first | exact HB.out | apply below_alloc | apply pw_below_drewN | apply below_drew1) | exact HB.out)⟩⟩
  case rest =>
    clear HC4
    try clear c1
    try clear p2
    try clear c4
    try clear c6
    obtain ⟨kq, x25_3, rfl, HA, HJ3, HB⟩ := hcut
    cases kq with
    | zero => exact absurd HA.out (by simp [laws_FnAddresses.j0])
    | succ kj3 =>
      have H := HA.out
      clear HA
      simp only [laws_FnAddresses.j0] at H
      by_cases c8 : x25_3 = true
      · subst c8
        have H1 : (some true) = some r := by rw [if_pos rfl] at H; exact H
        clear H
        have H := H1
        clear H1
        obtain rfl := Option.some.inj H
        go_wp2
        go_ret
        exact ⟨by first | rfl | (simp [errW_none, errW_some] <;> rfl) | (simp [*, errW_none, errW_some] <;> rfl), by repeat (first | (with_reducible first | exact HB.out | apply below_alloc | apply pw_below_drewN | apply below_drew1) | exact HB.out)⟩
      · replace c8 := Bool.eq_false_iff.mpr c8
        subst c8
        have H1 : ((laws_addressesRight.f kj3 l0).bind fun t122 => (if t122 = true then ((laws_addressesRight.f kj3 l1).bind fun t123 => (laws_FnAddresses.j1 kj3 l0 l1 a2 (!t123))) else (laws_FnAddresses.j1 kj3 l0 l1 a2 true))) = some r := by rw [if_neg (show ¬ (false = true) by decide)] at H; exact H
        clear H
        have H := H1
        clear H1
        have HC9 := Aside0.mk H
        clear H
        go_upto_region 3 with (fail)
        go_cut [33] (fun v33 wc => ∃ (kq : Nat) (x33_8 : Bool), v33 = .bool x33_8 ∧ Aside0 (laws_FnAddresses.j1 kq l0 l1 a2 x33_8 = some r) ∧ Aside0 (kq ≤ kj3) ∧ Aside0 (Below w.heap.size w wc))
        case first =>
          have H := HC9.out
          clear HC9
          replace H := Option.bind_eq_some_iff.mp H
          obtain ⟨t122, A100, H⟩ := H
          replace H : (if t122 = true then ((laws_addressesRight.f kj3 l1).bind fun t123 => (laws_FnAddresses.j1 kj3 l0 l1 a2 (!t123))) else (laws_FnAddresses.j1 kj3 l0 l1 a2 true)) = some r := H
          have A10 := Aside0.mk A100
          clear A100
          by_cases c11 : t122 = true
          · subst c11
            have H1 : ((laws_addressesRight.f kj3 l1).bind fun t123 => (laws_FnAddresses.j1 kj3 l0 l1 a2 (!t123))) = some r := by rw [if_pos rfl] at H; exact H
            clear H
            have H := H1
            clear H1
            replace H := Option.bind_eq_some_iff.mp H
            obtain ⟨t123, A120, H⟩ := H
            replace H : (laws_FnAddresses.j1 kj3 l0 l1 a2 (!t123)) = some r := H
            have A12 := Aside0.mk A120
            clear A120
            have H' := Aside0.mk H
            clear H
            go_wp2_with (first | ((with_reducible refine gate_callee (f := 15) rfl ?_); refine goesL_ (some 27) rfl rfl Try.func15 (by kernel_rfl) rfl #[.slice A0 l0.length c0] rfl (by (try simp only [List.map_toArray, List.map_cons, List.map_nil]); first | done | rfl | (simp only [List.length_drop, List.length_take]; rfl)) ?_; (with_reducible refine (laws_addressesRight.calls kj3 _ _ l0 true _ ?side1 ?side2 A10.out).mono ?_); (case side1 => repeat (first | exact (Kd.C_below HR0.out HB.out) | (with_reducible refine Kd.C_alloc ?_ _) | (with_reducible refine Kd.C_drewN ?_ _) | (with_reducible refine Kd.C_drew ?_))); (case side2 => exact HC0.out); rintro e w' ⟨rfl, ⟨nd, rfl⟩⟩; refine ⟨_, rfl, ?_⟩) | (go_at_call 15; (with_reducible refine (laws_addressesRight.calls kj3 _ _ l1 t123 _ ?side1 ?side2 A12.out).mono ?_); (case side1 => repeat (first | exact (Kd.C_below HR1.out (by repeat (first | (with_reducible first | exact HB.out | apply below_alloc | apply pw_below_drewN | apply below_drew1) | exact HB.out))) | (with_reducible refine Kd.C_alloc ?_ _) | (with_reducible refine Kd.C_drewN ?_ _) | (with_reducible refine Kd.C_drew ?_))); (case side2 => exact HC1.out); rintro e w' ⟨rfl, ⟨nd, rfl⟩⟩))
            go_meet
            case rel => exact ⟨_, (!t123), (by first | rfl | (simp; done) | (simp [*]; done)), H', ⟨by have := HJ3.out; first | omega | exact Nat.le_refl _⟩, ⟨by repeat (first | (with_reducible first | exact HB.out | apply below_alloc | apply pw_below_drewN | apply below_drew1) | exact HB.out)⟩⟩
          · replace c11 := Bool.eq_false_iff.mpr c11
            subst c11
            have H1 : (laws_FnAddresses.j1 kj3 l0 l1 a2 true) = some r := by rw [if_neg (show ¬ (false = true) by decide)] at H; exact H
            clear H
            have H := H1
            clear H1
            have H' := Aside0.mk H
            clear H
            go_wp2_with (first | ((with_reducible refine gate_callee (f := 15) rfl ?_); refine goesL_ (some 27) rfl rfl Try.func15 (by kernel_rfl) rfl #[.slice A0 l0.length c0] rfl (by (try simp only [List.map_toArray, List.map_cons, List.map_nil]); first | done | rfl | (simp only [List.length_drop, List.length_take]; rfl)) ?_; (with_reducible refine (laws_addressesRight.calls kj3 _ _ l0 false _ ?side1 ?side2 A10.out).mono ?_); (case side1 => repeat (first | exact (Kd.C_below HR0.out HB.out) | (with_reducible refine Kd.C_alloc ?_ _) | (with_reducible refine Kd.C_drewN ?_ _) | (with_reducible refine Kd.C_drew ?_))); (case side2 => exact HC0.out); rintro e w' ⟨rfl, ⟨nd, rfl⟩⟩; refine ⟨_, rfl, ?_⟩))
            go_meet
            case rel => exact ⟨_, (true), (by first | rfl | (simp; done) | (simp [*]; done)), H', ⟨by have := HJ3.out; first | omega | exact Nat.le_refl _⟩, ⟨by repeat (first | (with_reducible first | exact HB.out | apply below_alloc | apply pw_below_drewN | apply below_drew1) | exact HB.out)⟩⟩
        case rest =>
          clear HC9
          try clear c1
          try clear p2
          try clear c4
          try clear c6
          try clear c8
          try clear c11
          try clear p2
          obtain ⟨kq, x33_8, rfl, HA, HJ8, HB⟩ := hcut
          cases kq with
          | zero => exact absurd HA.out (by simp [laws_FnAddresses.j1])
          | succ kj8 =>
            have H := HA.out
            clear HA
            simp only [laws_FnAddresses.j1] at H
            by_cases c13 : x33_8 = true
            · subst c13
              have H1 : ((laws_addressAwake.f).bind fun t124 => (some t124)) = some r := by rw [if_pos rfl] at H; exact H
              clear H
              have H := H1
              clear H1
              replace H := Option.bind_eq_some_iff.mp H
              obtain ⟨t124, A140, H⟩ := H
              replace H : (some t124) = some r := H
              have A14 := Aside0.mk A140
              clear A140
              obtain rfl := Option.some.inj H
              go_wp2_with (first | ((with_reducible refine gate_callee (f := 16) rfl ?_); refine goesL_ (some 34) rfl rfl Try.func16 (by kernel_rfl) rfl #[] rfl (by (try simp only [List.map_toArray, List.map_cons, List.map_nil]); first | done | rfl | (simp only [List.length_drop, List.length_take]; rfl)) ?_; (with_reducible refine (laws_addressAwake.calls  t124 _ A14.out).mono ?_); rintro e w15 ⟨rfl, hb⟩; refine ⟨_, rfl, ?_⟩; have n0_ := Aside0.mk (below_step (by repeat (first | (with_reducible first | exact HB.out | apply below_alloc | apply pw_below_drewN | apply below_drew1) | exact HB.out)) hb); clear HB; have HB := n0_; clear n0_; (try clear hb); (try clear hb2); (try clear hk); (try clear hi)))
              go_ret
              exact ⟨by first | rfl | (simp [errW_none, errW_some] <;> rfl) | (simp [*, errW_none, errW_some] <;> rfl), by repeat (first | (with_reducible first | exact HB.out | apply below_alloc | apply pw_below_drewN | apply below_drew1) | exact HB.out)⟩
            · replace c13 := Bool.eq_false_iff.mpr c13
              subst c13
              have H1 : ((laws_addressTo.f kj8 l0).bind fun t125 => ((laws_addressTo.f kj8 l1).bind fun t128 => (laws_FnAddresses.l0 kj8 l0 l1 a2 t125 t128 ((l0.length : Int) == (l1.length : Int)) t125 (t125.length : Int) 0))) = some r := by rw [if_neg (show ¬ (false = true) by decide)] at H; exact H
              clear H
              have H := H1
              clear H1
              replace H := Option.bind_eq_some_iff.mp H
              obtain ⟨t125, A160, H⟩ := H
              replace H : ((laws_addressTo.f kj8 l1).bind fun t128 => (laws_FnAddresses.l0 kj8 l0 l1 a2 t125 t128 ((l0.length : Int) == (l1.length : Int)) t125 (t125.length : Int) 0)) = some r := H
              have A16 := Aside0.mk A160
              clear A160
              replace H := Option.bind_eq_some_iff.mp H
              obtain ⟨t128, A170, H⟩ := H
              replace H : (laws_FnAddresses.l0 kj8 l0 l1 a2 t125 t128 ((l0.length : Int) == (l1.length : Int)) t125 (t125.length : Int) 0) = some r := H
              have A17 := Aside0.mk A170
              clear A170
              have H' := Aside0.mk H
              clear H
              go_wp2_with (first | ((with_reducible refine gate_callee (f := 17) rfl ?_); refine goesL_ (some 36) rfl rfl Try.func17 (by kernel_rfl) rfl #[.slice A0 l0.length c0] rfl (by (try simp only [List.map_toArray, List.map_cons, List.map_nil]); first | done | rfl | (simp only [List.length_drop, List.length_take]; rfl)) ?_; (with_reducible refine (laws_addressTo.calls kj8 _ _ l0 t125 _ ?side1 ?side2 A16.out).mono ?_); (case side1 => repeat (first | exact (Kd.C_below HR0.out HB.out) | (with_reducible refine Kd.C_alloc ?_ _) | (with_reducible refine Kd.C_drewN ?_ _) | (with_reducible refine Kd.C_drew ?_))); (case side2 => exact HC0.out); rintro e w18 ⟨v126, rfl, ho0, hb⟩; refine ⟨_, rfl, ?_⟩; have n0_ := Aside0.mk (Kd.R_lower ho0 (below_size (by repeat (first | (with_reducible first | exact HB.out | apply below_alloc | apply pw_below_drewN | apply below_drew1) | exact HB.out)))); have n1_ := Aside0.mk (below_step (by repeat (first | (with_reducible first | exact HB.out | apply below_alloc | apply pw_below_drewN | apply below_drew1) | exact HB.out)) hb); clear HB; have HO127 := n0_; have HB := n1_; clear n0_ n1_; (try clear hb); (try clear hb2); (try clear hk); (try clear hi); (try clear ho0)) | ((with_reducible refine gate_callee (f := 17) rfl ?_); refine goesL_ (some 38) rfl rfl Try.func17 (by kernel_rfl) rfl #[.slice A1 l1.length c1] rfl (by (try simp only [List.map_toArray, List.map_cons, List.map_nil]); first | done | rfl | (simp only [List.length_drop, List.length_take]; rfl)) ?_; (with_reducible refine (laws_addressTo.calls kj8 _ _ l1 t128 _ ?side1 ?side2 A17.out).mono ?_); (case side1 => repeat (first | exact (Kd.C_below HR1.out HB.out) | (with_reducible refine Kd.C_alloc ?_ _) | (with_reducible refine Kd.C_drewN ?_ _) | (with_reducible refine Kd.C_drew ?_))); (case side2 => exact HC1.out); rintro e w19 ⟨v129, rfl, ho0, hb⟩; refine ⟨_, rfl, ?_⟩; have n0_ := Aside0.mk (Kd.R_elder' (by (with_reducible repeat (first | apply Kd.R_alloc | apply Kd.R_drewN | apply Kd.R_drew)); exact HO127.out) (Kd.R_base ho0) hb); have n1_ := Aside0.mk (Kd.R_lower (Kd.R_new' ho0 (Kd.R_lt (by (with_reducible repeat (first | apply Kd.R_alloc | apply Kd.R_drewN | apply Kd.R_drew)); exact HO127.out))) (below_size (by repeat (first | (with_reducible first | exact HB.out | apply below_alloc | apply pw_below_drewN | apply below_drew1) | exact HB.out)))); have n2_ := Aside0.mk (below_step (by repeat (first | (with_reducible first | exact HB.out | apply below_alloc | apply pw_below_drewN | apply below_drew1) | exact HB.out)) hb); clear HO127; clear HB; have HO127 := n0_; have HO130 := n1_; have HB := n2_; clear n0_ n1_ n2_; (try clear hb); (try clear hb2); (try clear hk); (try clear hi); (try clear ho0); obtain ⟨Ao20, co20, eo20⟩ := Kd.R_slice HO127.out; subst eo20))
              go_loopg [9, 46] kj8 (fun kq v9 v46 w' => ∃ (x9_3 : Bool) (x46_3 : Int), v9 = .bool x9_3 ∧ v46 = .int .i64 x46_3 ∧ Aside0 (laws_FnAddresses.l0 kq l0 l1 a2 t125 t128 x9_3 t125 (t125.length : Int) x46_3 = some r) ∧ Aside0 (kq ≤ kj8) ∧ Aside0 (Kd.R k34 34 w' w.heap.size (fun k_ => some k_ ≠ (v129 : Value).ownBlock) (.slice Ao20 t125.length co20) t125) ∧ Aside0 (Kd.R k34 34 w' w.heap.size (fun k_ => some k_ ≠ ((.slice Ao20 t125.length co20) : Value).ownBlock ∧ some k_ ≠ ((.slice Ao20 t125.length co20) : Value).ownBlock) v129 t128) ∧ Aside0 (Kd.R k34 34 w' w.heap.size (fun k_ => some k_ ≠ (v129 : Value).ownBlock) (.slice Ao20 t125.length co20) t125) ∧ Aside0 (Below w.heap.size w w'))
              case atStart => exact ⟨(((l0.length : Int) == (l1.length : Int))), (0), (by first | rfl | (simp; done) | (simp [*]; done)), (by first | rfl | (simp; done) | (simp [*]; done)), H', ⟨Nat.le_refl _⟩, ⟨by (with_reducible repeat (first | apply Kd.R_alloc | apply Kd.R_drewN | apply Kd.R_drew)); exact Kd.R_mono HO127.out (fun _ hk => hk.2)⟩, ⟨by (with_reducible repeat (first | apply Kd.R_alloc | apply Kd.R_drewN | apply Kd.R_drew)); exact Kd.R_mono HO130.out (fun _ hk => ⟨hk.2, hk.2⟩)⟩, ⟨by (with_reducible repeat (first | apply Kd.R_alloc | apply Kd.R_drewN | apply Kd.R_drew)); exact Kd.R_mono HO127.out (fun _ hk => hk.2)⟩, ⟨by repeat (first | (with_reducible first | exact HB.out | apply below_alloc | apply pw_below_drewN | apply below_drew1) | exact HB.out)⟩⟩
              case round =>
                clear H'
                try clear c1
                try clear p2
                try clear c4
                try clear c6
                try clear c8
                try clear c11
                try clear c13
                try clear c14
                try clear c15
                try clear c16
                try clear c17
                try clear p2
                obtain ⟨x9_3, x46_3, rfl, rfl, HA, HK3, HO_7, HO_8, HO_44, HB⟩ := hrel
                cases gk with
                | zero => exact absurd HA.out (by simp [laws_FnAddresses.l0])
                | succ k3 =>
                  have H := HA.out
                  clear HA
                  simp only [laws_FnAddresses.l0] at H
                  by_cases c21 : x46_3 < (t125.length : Int)
                  · rw [if_pos c21] at H
                    have c21b0 : decide (x46_3 < (t125.length : Int)) = true := decide_eq_true c21
                    clear c21
                    by_cases c22 : 0 ≤ x46_3
                    · rw [if_pos c22] at H
                      have c22b0 : decide (0 ≤ x46_3) = true := decide_eq_true c22
                      clear c22
                      by_cases c23 : x46_3 < (t125.length : Int)
                      · rw [if_pos c23] at H
                        have c23b0 : decide (x46_3 < (t125.length : Int)) = true := decide_eq_true c23
                        clear c23
                        by_cases c24 : x46_3 < (l0.length : Int)
                        · rw [if_pos c24] at H
                          have c24b0 : decide (x46_3 < (l0.length : Int)) = true := decide_eq_true c24
                          clear c24
                          replace H := Option.bind_eq_some_iff.mp H
                          obtain ⟨t134, A250, H⟩ := H
                          replace H : (if x9_3 = true then (laws_FnAddresses.j3 k3 l0 l1 a2 t125 t128 t134 x46_3 t134 t125 (t125.length : Int) x46_3 ((rd_T34 t125 x46_3).f0) ((rd_T34 t125 x46_3).f1)) else (laws_FnAddresses.j3 k3 l0 l1 a2 t125 t128 false x46_3 t134 t125 (t125.length : Int) x46_3 ((rd_T34 t125 x46_3).f0) ((rd_T34 t125 x46_3).f1))) = some r := H
                          have A25 := Aside0.mk A250
                          clear A250
                          have HC26 := Aside0.mk H
                          clear H
                          have p131 : 0 ≤ (x46_3 : Int) := of_decide_eq_true (by first | (with_reducible assumption) | assumption)
                          have q131 : x46_3 < (t125.length : Int) := of_decide_eq_true (by first | (with_reducible assumption) | assumption)
                          obtain ⟨ad131, e131, hx131_0, hx131_1⟩ := at_T34 (Kd.R_reads' HO_44.out).2.2 x46_3 p131 q131
                          cases e131
                          replace p131 := eq_true p131
                          replace q131 := eq_true q131
                          go_upto_region 11 with (first | ((with_reducible refine gate_dst (N := 11) rfl ?_); refine box_event ?hg (N := 11) ?hd (cs := #[.int .i32 0, .string (⟨#[]⟩ : ByteArray)]) (t := 34) ?hr ?_; (case hd => rfl); (case hg => rfl); (case hr => first | (go_simp; done) | (go_simp; rfl)); intro gb132 hg w27 hbox hb; have n0_ := Aside0.mk (Kd.R_below (Kd.R_elderB (by (with_reducible repeat (first | apply Kd.R_alloc | apply Kd.R_drewN | apply Kd.R_drew)); exact HO_7.out) gb132 (Nat.le_of_eq hg.symm)) hb); have n1_ := Aside0.mk (Kd.R_below (Kd.R_elderB (by (with_reducible repeat (first | apply Kd.R_alloc | apply Kd.R_drewN | apply Kd.R_drew)); exact HO_8.out) gb132 (Nat.le_of_eq hg.symm)) hb); have n2_ := Aside0.mk (Kd.R_below (Kd.R_elderB (by (with_reducible repeat (first | apply Kd.R_alloc | apply Kd.R_drewN | apply Kd.R_drew)); exact HO_44.out) gb132 (Nat.le_of_eq hg.symm)) hb); have n3_ := Aside0.mk (below_step (by repeat (first | (with_reducible first | exact HB.out | apply below_alloc | apply pw_below_drewN | apply below_drew1) | exact HB.out)) hb); have n4_ := Aside0.mk (hbox); have n5_ := Aside0.mk ((by rw [hg]; exact (below_size (by repeat (first | (with_reducible first | exact HB.out | apply below_alloc | apply pw_below_drewN | apply below_drew1) | exact HB.out))) : w.heap.size ≤ gb132)); have n6_ := Aside0.mk ((by rw [hg]; exact (below_size (by repeat (first | (with_reducible first | exact HB.out | apply below_alloc | apply pw_below_drewN | apply below_drew1) | exact HB.out))) : w.heap.size ≤ gb132)); clear HO_7; clear HO_8; clear HO_44; clear HB; have HO_7 := n0_; have HO_8 := n1_; have HO_44 := n2_; have HB := n3_; have BK132 := n4_; have GW132 := n5_; have GE132 := n6_; clear n0_ n1_ n2_ n3_ n4_ n5_ n6_; clear hb hbox hg; have hcz28_0 : w27.cell? ⟨gb132, 0, none⟩ = some (.int .i32 0) := (blk_cell BK132.out 0).trans rfl; have hcz28_1 : w27.cell? ⟨gb132, 1, none⟩ = some (.string (⟨#[]⟩ : ByteArray)) := (blk_cell BK132.out 1).trans rfl; have hfz28_0 := blk_frozen BK132.out 0; have hfz28_1 := blk_frozen BK132.out 1; have p133 : 0 ≤ (x46_3 : Int) := of_decide_eq_true (by first | (with_reducible assumption) | assumption); have q133 : x46_3 < (l0.length : Int) := of_decide_eq_true (by first | (with_reducible assumption) | assumption); obtain ⟨ad133, e133, hx133_0⟩ := Kd.at_string HR0.out x46_3 p133 q133; cases e133; have hn133_0 : ad133.block ≠ gb132 := Nat.ne_of_lt (Nat.lt_of_lt_of_le (by have := World.block_lt_of_cell? _ _ hx133_0; first | rwa [add_block] at this | exact this) GW132.out); have hn133_1 : ad133.block ≠ gb132 := Nat.ne_of_lt (Nat.lt_of_lt_of_le (by have := World.block_lt_of_cell? _ _ hx133_0; first | rwa [add_block] at this | exact this) GW132.out); replace hx133_0 := (HB.out.cell (World.block_lt_of_cell? w _ hx133_0)).trans hx133_0; replace hx133_0 := (cell_far (p := ⟨gb132, 0, none⟩) (by first | (rw [add_block]; exact hn133_0) | (show (Addr.add _ _).block ≠ _; rw [add_block]; exact hn133_0) | exact hn133_0) (.int .i32 ((rd_T34 t125 x46_3).f0))).trans hx133_0; replace hx133_0 := (cell_far (p := ⟨gb132, 1, none⟩) (by first | (rw [add_block]; exact hn133_1) | (show (Addr.add _ _).block ≠ _; rw [add_block]; exact hn133_1) | exact hn133_1) (.string ((rd_T34 t125 x46_3).f1))).trans hx133_0; clear hn133_0; clear hn133_1; replace p133 := eq_true p133; replace q133 := eq_true q133) | ((with_reducible refine gate_callee (f := 18) rfl ?_); refine goesL_ (some 56) rfl rfl Try.func18 (by kernel_rfl) rfl #[.slice A1 l1.length c1, .string (rdOf ByteArray.empty l0 x46_3)] rfl (by (try simp only [List.map_toArray, List.map_cons, List.map_nil]); first | done | rfl | (simp only [List.length_drop, List.length_take]; rfl)) ?_; (with_reducible refine (slices_Contains_string_string.calls k3 _ _ l1 (rdOf ByteArray.empty l0 x46_3) t134 _ ?side1 ?side2 A25.out).mono ?_); (case side1 => exact Kd.C_below HR1.out (by repeat (first | (with_reducible first | exact HB.out | apply below_alloc | apply pw_below_drewN | apply below_drew1 | refine below_set ?_ GE132.out) | exact HB.out))); (case side2 => exact HC1.out); rintro e w' ⟨rfl, ⟨nd, rfl⟩⟩; refine ⟨_, rfl, ?_⟩))
                          (try simp only [Act.put, List.setIfInBounds_toArray, List.set_cons_zero, List.set_cons_succ])
                          go_cut [9] (fun v9 wc => ∃ (kq : Nat) (x9_25 : Bool), v9 = .bool x9_25 ∧ Aside0 (laws_FnAddresses.j3 kq l0 l1 a2 t125 t128 x9_25 x46_3 t134 t125 (t125.length : Int) x46_3 ((rd_T34 t125 x46_3).f0) ((rd_T34 t125 x46_3).f1) = some r) ∧ Aside0 (kq ≤ k3) ∧ Aside0 (Kd.R k34 34 wc w.heap.size (fun k_ => some k_ ≠ (v129 : Value).ownBlock ∧ k_ ≠ gb132) (.slice (some ad131) t125.length co20) t125) ∧ Aside0 (Kd.R k34 34 wc w.heap.size (fun k_ => some k_ ≠ ((.slice (some ad131) t125.length co20) : Value).ownBlock ∧ some k_ ≠ ((.slice (some ad131) t125.length co20) : Value).ownBlock ∧ k_ ≠ gb132) v129 t128) ∧ Aside0 (Kd.R k34 34 wc w.heap.size (fun k_ => some k_ ≠ (v129 : Value).ownBlock ∧ k_ ≠ gb132) (.slice (some ad131) t125.length co20) t125) ∧ Aside0 (wc.heap[gb132]? = some (.cells #[.int .i32 ((rd_T34 t125 x46_3).f0), .string ((rd_T34 t125 x46_3).f1)] 34 (0, 0))) ∧ Aside0 (Below w.heap.size w wc))
                          case first =>
                            have H := HC26.out
                            clear HC26
                            by_cases c29 : x9_3 = true
                            · subst c29
                              have H1 : (laws_FnAddresses.j3 k3 l0 l1 a2 t125 t128 t134 x46_3 t134 t125 (t125.length : Int) x46_3 ((rd_T34 t125 x46_3).f0) ((rd_T34 t125 x46_3).f1)) = some r := by rw [if_pos rfl] at H; exact H
                              clear H
                              have H := H1
                              clear H1
                              have H' := Aside0.mk H
                              clear H
                              go_wp2
                              go_meet
                              case rel => exact ⟨_, (t134), (by first | rfl | (simp; done) | (simp [*]; done)), H', ⟨by have := HJ3.out; have := HJ8.out; have := HK3.out; first | omega | exact Nat.le_refl _⟩, ⟨by (with_reducible repeat (first | apply Kd.R_alloc | apply Kd.R_drewN | apply Kd.R_drew)); exact Kd.R_mono (Kd.R_far (p := ⟨gb132, 1, none⟩) (Kd.R_far (p := ⟨gb132, 0, none⟩) (Kd.R_mono HO_7.out (fun k_ hk => (⟨hk, hk.2⟩ : _ ∧ k_ ≠ gb132))) (fun _ hk => hk.2) (.int .i32 ((rd_T34 t125 x46_3).f0))) (fun _ hk => hk.2) (.string ((rd_T34 t125 x46_3).f1))) (fun _ hk => ⟨hk.1.1, hk.1.2⟩)⟩, ⟨by (with_reducible repeat (first | apply Kd.R_alloc | apply Kd.R_drewN | apply Kd.R_drew)); exact Kd.R_mono (Kd.R_far (p := ⟨gb132, 1, none⟩) (Kd.R_far (p := ⟨gb132, 0, none⟩) (Kd.R_mono HO_8.out (fun k_ hk => (⟨hk, hk.2⟩ : _ ∧ k_ ≠ gb132))) (fun _ hk => hk.2) (.int .i32 ((rd_T34 t125 x46_3).f0))) (fun _ hk => hk.2) (.string ((rd_T34 t125 x46_3).f1))) (fun _ hk => ⟨hk.1.1.1, ⟨hk.1.1.2, hk.1.2⟩⟩)⟩, ⟨by (with_reducible repeat (first | apply Kd.R_alloc | apply Kd.R_drewN | apply Kd.R_drew)); exact Kd.R_mono (Kd.R_far (p := ⟨gb132, 1, none⟩) (Kd.R_far (p := ⟨gb132, 0, none⟩) (Kd.R_mono HO_44.out (fun k_ hk => (⟨hk, hk.2⟩ : _ ∧ k_ ≠ gb132))) (fun _ hk => hk.2) (.int .i32 ((rd_T34 t125 x46_3).f0))) (fun _ hk => hk.2) (.string ((rd_T34 t125 x46_3).f1))) (fun _ hk => ⟨hk.1.1, hk.1.2⟩)⟩, ⟨by (with_reducible repeat (first | refine blk_drewN ?_ _ | refine blk_drew ?_ | refine blk_alloc ?_ _)); refine blk_put (cs := #[.int .i32 ((rd_T34 t125 x46_3).f0), .string (⟨#[]⟩ : ByteArray)]) ?_ 1 _ rfl; (with_reducible repeat (first | refine blk_drewN ?_ _ | refine blk_drew ?_ | refine blk_alloc ?_ _)); refine blk_put (cs := #[.int .i32 0, .string (⟨#[]⟩ : ByteArray)]) ?_ 0 _ rfl; (with_reducible repeat (first | refine blk_drewN ?_ _ | refine blk_drew ?_ | refine blk_alloc ?_ _)); exact BK132.out⟩, ⟨by repeat (first | (with_reducible first | exact HB.out | apply below_alloc | apply pw_below_drewN | apply below_drew1 | refine below_set ?_ GE132.out) | exact HB.out)⟩⟩
                            · replace c29 := Bool.eq_false_iff.mpr c29
                              subst c29
                              have H1 : (laws_FnAddresses.j3 k3 l0 l1 a2 t125 t128 false x46_3 t134 t125 (t125.length : Int) x46_3 ((rd_T34 t125 x46_3).f0) ((rd_T34 t125 x46_3).f1)) = some r := by rw [if_neg (show ¬ (false = true) by decide)] at H; exact H
                              clear H
                              have H := H1
                              clear H1
                              have H' := Aside0.mk H
                              clear H
                              go_wp2
                              go_meet
                              case rel => exact ⟨_, (false), (by first | rfl | (simp; done) | (simp [*]; done)), H', ⟨by have := HJ3.out; have := HJ8.out; have := HK3.out; first | omega | exact Nat.le_refl _⟩, ⟨by (with_reducible repeat (first | apply Kd.R_alloc | apply Kd.R_drewN | apply Kd.R_drew)); exact Kd.R_mono (Kd.R_far (p := ⟨gb132, 1, none⟩) (Kd.R_far (p := ⟨gb132, 0, none⟩) (Kd.R_mono HO_7.out (fun k_ hk => (⟨hk, hk.2⟩ : _ ∧ k_ ≠ gb132))) (fun _ hk => hk.2) (.int .i32 ((rd_T34 t125 x46_3).f0))) (fun _ hk => hk.2) (.string ((rd_T34 t125 x46_3).f1))) (fun _ hk => ⟨hk.1.1, hk.1.2⟩)⟩, ⟨by (with_reducible repeat (first | apply Kd.R_alloc | apply Kd.R_drewN | apply Kd.R_drew)); exact Kd.R_mono (Kd.R_far (p := ⟨gb132, 1, none⟩) (Kd.R_far (p := ⟨gb132, 0, none⟩) (Kd.R_mono HO_8.out (fun k_ hk => (⟨hk, hk.2⟩ : _ ∧ k_ ≠ gb132))) (fun _ hk => hk.2) (.int .i32 ((rd_T34 t125 x46_3).f0))) (fun _ hk => hk.2) (.string ((rd_T34 t125 x46_3).f1))) (fun _ hk => ⟨hk.1.1.1, ⟨hk.1.1.2, hk.1.2⟩⟩)⟩, ⟨by (with_reducible repeat (first | apply Kd.R_alloc | apply Kd.R_drewN | apply Kd.R_drew)); exact Kd.R_mono (Kd.R_far (p := ⟨gb132, 1, none⟩) (Kd.R_far (p := ⟨gb132, 0, none⟩) (Kd.R_mono HO_44.out (fun k_ hk => (⟨hk, hk.2⟩ : _ ∧ k_ ≠ gb132))) (fun _ hk => hk.2) (.int .i32 ((rd_T34 t125 x46_3).f0))) (fun _ hk => hk.2) (.string ((rd_T34 t125 x46_3).f1))) (fun _ hk => ⟨hk.1.1, hk.1.2⟩)⟩, ⟨by (with_reducible repeat (first | refine blk_drewN ?_ _ | refine blk_drew ?_ | refine blk_alloc ?_ _)); refine blk_put (cs := #[.int .i32 ((rd_T34 t125 x46_3).f0), .string (⟨#[]⟩ : ByteArray)]) ?_ 1 _ rfl; (with_reducible repeat (first | refine blk_drewN ?_ _ | refine blk_drew ?_ | refine blk_alloc ?_ _)); refine blk_put (cs := #[.int .i32 0, .string (⟨#[]⟩ : ByteArray)]) ?_ 0 _ rfl; (with_reducible repeat (first | refine blk_drewN ?_ _ | refine blk_drew ?_ | refine blk_alloc ?_ _)); exact BK132.out⟩, ⟨by repeat (first | (with_reducible first | exact HB.out | apply below_alloc | apply pw_below_drewN | apply below_drew1 | refine below_set ?_ GE132.out) | exact HB.out)⟩⟩
                          case rest =>
                            clear HC26
                            try clear c1
                            try clear p1
                            try clear q1
                            try clear hx1
                            try clear c2
                            try clear p2
                            try clear c4
                            try clear c6
                            try clear c8
                            try clear c11
                            try clear c13
                            try clear p13
                            try clear q13
                            try clear hx13
                            try clear c14
                            try clear c15
                            try clear c16
                            try clear c17
                            try clear c18
                            try clear c21
                            try clear c21b0
                            try clear c22
                            try clear c22b0
                            try clear c23
                            try clear c23b0
                            try clear c24
                            try clear c24b0
                            try clear c29
                            try clear hcz28_0
                            try clear hcz28_1
                            try clear hfz28_0
                            try clear hfz28_1
                            try clear hx131_0
                            try clear hx131_1
                            try clear hx133_0
                            try clear p131
                            try clear p133
                            try clear p2
                            try clear q131
                            try clear q133
                            obtain ⟨kq, x9_25, rfl, HA, HJ25, HO_7, HO_8, HO_44, BK132, HB⟩ := hcut
                            cases kq with
                            | zero => exact absurd HA.out (by simp [laws_FnAddresses.j3])
                            | succ kj25 =>
                              have H := HA.out
                              clear HA
                              simp only [laws_FnAddresses.j3] at H
                              have HC30 := Aside0.mk H
                              clear H
                              go_upto_region 12 with (fail)
                              go_cut [71] (fun v71 wc => ∃ (kq : Nat) (x71_29 : Bool), v71 = .bool x71_29 ∧ Aside0 (laws_FnAddresses.j4 kq l0 l1 a2 t125 t128 x9_25 x46_3 t125 (t125.length : Int) x46_3 x71_29 ((rd_T34 t125 x46_3).f0) ((rd_T34 t125 x46_3).f1) = some r) ∧ Aside0 (kq ≤ kj25) ∧ Aside0 (Kd.R k34 34 wc w.heap.size (fun k_ => some k_ ≠ (v129 : Value).ownBlock ∧ k_ ≠ gb132) (.slice (some ad131) t125.length co20) t125) ∧ Aside0 (Kd.R k34 34 wc w.heap.size (fun k_ => some k_ ≠ ((.slice (some ad131) t125.length co20) : Value).ownBlock ∧ some k_ ≠ ((.slice (some ad131) t125.length co20) : Value).ownBlock ∧ k_ ≠ gb132) v129 t128) ∧ Aside0 (Kd.R k34 34 wc w.heap.size (fun k_ => some k_ ≠ (v129 : Value).ownBlock ∧ k_ ≠ gb132) (.slice (some ad131) t125.length co20) t125) ∧ Aside0 (wc.heap[gb132]? = some (.cells #[.int .i32 ((rd_T34 t125 x46_3).f0), .string ((rd_T34 t125 x46_3).f1)] 34 (0, 0))) ∧ Aside0 (Below w.heap.size w wc))
                              case first =>
                                have H := HC30.out
                                clear HC30
                                replace H := Option.bind_eq_some_iff.mp H
                                obtain ⟨t135, A310, H⟩ := H
                                replace H : (if (t135 != t134) = true then (laws_FnAddresses.j4 kj25 l0 l1 a2 t125 t128 x9_25 x46_3 t125 (t125.length : Int) x46_3 true ((rd_T34 t125 x46_3).f0) ((rd_T34 t125 x46_3).f1)) else ((impl_AddressIn.f t125 ((rd_T34 t125 x46_3).f0) ((rd_T34 t125 x46_3).f1)).bind fun t136 => (laws_FnAddresses.j4 kj25 l0 l1 a2 t125 t128 x9_25 x46_3 t125 (t125.length : Int) x46_3 (!t136) ((rd_T34 t125 x46_3).f0) ((rd_T34 t125 x46_3).f1)))) = some r := H
                                have A31 := Aside0.mk A310
                                clear A310
                                by_cases c32 : (t135 != t134) = true
                                · rw [if_pos c32] at H
                                  have c32b0 : (t135 != t134) = true := c32
                                  (try (have c32b1 : decide (t135 = t134) = false := by simpa using c32))
                                  (try (have c32b2 : (t135 == t134) = false := by simpa using c32))
                                  (try (have c32b3 : ¬ (t135 = t134) := by simpa using c32))
                                  clear c32
                                  (first | rw [c32b0] | (simp only [i64_w, i32_w]; rw [c32b0]) | skip)
                                  have H' := Aside0.mk H
                                  clear H
                                  have hcz33_0 : wc.cell? ⟨gb132, 0, none⟩ = some (.int .i32 ((rd_T34 t125 x46_3).f0)) := (blk_cell BK132.out 0).trans rfl
                                  have hcz33_1 : wc.cell? ⟨gb132, 1, none⟩ = some (.string ((rd_T34 t125 x46_3).f1)) := (blk_cell BK132.out 1).trans rfl
                                  have hfz33_0 := blk_frozen BK132.out 0
                                  have hfz33_1 := blk_frozen BK132.out 1
                                  obtain ⟨Ao34, co34, eo34⟩ := Kd.R_slice HO_8.out
                                  subst eo34
                                  go_wp2_with (first | ((with_reducible refine gate_callee (f := 19) rfl ?_); refine goesL_ (some 63) rfl rfl Try.func19 (by kernel_rfl) rfl #[.slice Ao34 t128.length co34, .agg #[.int .i32 ((rd_T34 t125 x46_3).f0), .string ((rd_T34 t125 x46_3).f1)]] rfl (by (try simp only [List.map_toArray, List.map_cons, List.map_nil]); first | done | rfl | (simp only [List.length_drop, List.length_take]; rfl)) ?_; (with_reducible refine (impl_AddressIn.calls _ _ t128 ((rd_T34 t125 x46_3).f0) ((rd_T34 t125 x46_3).f1) t135 _ ?side1 ?side2 A31.out).mono ?_); (case side1 => repeat (first | exact (Kd.R_reads' HO_8.out).2.2 | (with_reducible refine Kd.C_alloc ?_ _) | (with_reducible refine Kd.C_drewN ?_ _) | (with_reducible refine Kd.C_drew ?_))); (case side2 => exact (Kd.R_reads' HO_8.out).2.1); rintro e w35 ⟨rfl, hb⟩; refine ⟨_, rfl, ?_⟩; have n0_ := Aside0.mk (Kd.R_below (by (with_reducible repeat (first | apply Kd.R_alloc | apply Kd.R_drewN | apply Kd.R_drew)); exact HO_7.out) hb); have n1_ := Aside0.mk (Kd.R_below (by (with_reducible repeat (first | apply Kd.R_alloc | apply Kd.R_drewN | apply Kd.R_drew)); exact HO_8.out) hb); have n2_ := Aside0.mk (Kd.R_below (by (with_reducible repeat (first | apply Kd.R_alloc | apply Kd.R_drewN | apply Kd.R_drew)); exact HO_44.out) hb); have n3_ := Aside0.mk (blk_below (g := gb132) (o := .cells #[.int .i32 ((rd_T34 t125 x46_3).f0), .string ((rd_T34 t125 x46_3).f1)] 34 (0, 0)) (by (with_reducible repeat (first | refine blk_drewN ?_ _ | refine blk_drew ?_ | refine blk_alloc ?_ _)); exact BK132.out) hb); have n4_ := Aside0.mk (below_step (by repeat (first | (with_reducible first | exact HB.out | apply below_alloc | apply pw_below_drewN | apply below_drew1 | refine below_set ?_ GE132.out) | exact HB.out)) hb); clear HO_7; clear HO_8; clear HO_44; clear BK132; clear HB; have HO_7 := n0_; have HO_8 := n1_; have HO_44 := n2_; have BK132 := n3_; have HB := n4_; clear n0_ n1_ n2_ n3_ n4_; (try clear hb); (try clear hb2); (try clear hk); (try clear hi)))
                                  go_meet
                                  case rel => exact ⟨_, (true), (by first | rfl | (simp; done) | (simp [*]; done)), H', ⟨by have := HJ3.out; have := HJ8.out; have := HK3.out; have := HJ25.out; first | omega | exact Nat.le_refl _⟩, ⟨by (with_reducible repeat (first | apply Kd.R_alloc | apply Kd.R_drewN | apply Kd.R_drew)); exact HO_7.out⟩, ⟨by (with_reducible repeat (first | apply Kd.R_alloc | apply Kd.R_drewN | apply Kd.R_drew)); exact HO_8.out⟩, ⟨by (with_reducible repeat (first | apply Kd.R_alloc | apply Kd.R_drewN | apply Kd.R_drew)); exact HO_44.out⟩, ⟨by (with_reducible repeat (first | refine blk_drewN ?_ _ | refine blk_drew ?_ | refine blk_alloc ?_ _)); exact BK132.out⟩, ⟨by repeat (first | (with_reducible first | exact HB.out | apply below_alloc | apply pw_below_drewN | apply below_drew1 | refine below_set ?_ GE132.out) | exact HB.out)⟩⟩
                                · rw [if_neg c32] at H
                                  have c32b0 : (t135 != t134) = false := by simpa using c32
                                  (try (have c32b1 : decide (t135 = t134) = true := by simpa using c32))
                                  (try (have c32b2 : (t135 == t134) = true := by simpa using c32))
                                  clear c32
                                  (first | rw [c32b0] | (simp only [i64_w, i32_w]; rw [c32b0]) | skip)
                                  replace H := Option.bind_eq_some_iff.mp H
                                  obtain ⟨t136, A360, H⟩ := H
                                  replace H : (laws_FnAddresses.j4 kj25 l0 l1 a2 t125 t128 x9_25 x46_3 t125 (t125.length : Int) x46_3 (!t136) ((rd_T34 t125 x46_3).f0) ((rd_T34 t125 x46_3).f1)) = some r := H
                                  have A36 := Aside0.mk A360
                                  clear A360
                                  have H' := Aside0.mk H
                                  clear H
                                  have hcz37_0 : wc.cell? ⟨gb132, 0, none⟩ = some (.int .i32 ((rd_T34 t125 x46_3).f0)) := (blk_cell BK132.out 0).trans rfl
                                  have hcz37_1 : wc.cell? ⟨gb132, 1, none⟩ = some (.string ((rd_T34 t125 x46_3).f1)) := (blk_cell BK132.out 1).trans rfl
                                  have hfz37_0 := blk_frozen BK132.out 0
                                  have hfz37_1 := blk_frozen BK132.out 1
                                  obtain ⟨Ao38, co38, eo38⟩ := Kd.R_slice HO_8.out
                                  subst eo38
                                  go_wp2_with (first | ((with_reducible refine gate_callee (f := 19) rfl ?_); refine goesL_ (some 63) rfl rfl Try.func19 (by kernel_rfl) rfl #[.slice Ao38 t128.length co38, .agg #[.int .i32 ((rd_T34 t125 x46_3).f0), .string ((rd_T34 t125 x46_3).f1)]] rfl (by (try simp only [List.map_toArray, List.map_cons, List.map_nil]); first | done | rfl | (simp only [List.length_drop, List.length_take]; rfl)) ?_; (with_reducible refine (impl_AddressIn.calls _ _ t128 ((rd_T34 t125 x46_3).f0) ((rd_T34 t125 x46_3).f1) t135 _ ?side1 ?side2 A31.out).mono ?_); (case side1 => repeat (first | exact (Kd.R_reads' HO_8.out).2.2 | (with_reducible refine Kd.C_alloc ?_ _) | (with_reducible refine Kd.C_drewN ?_ _) | (with_reducible refine Kd.C_drew ?_))); (case side2 => exact (Kd.R_reads' HO_8.out).2.1); rintro e w39 ⟨rfl, hb⟩; refine ⟨_, rfl, ?_⟩; have n0_ := Aside0.mk (Kd.R_below (by (with_reducible repeat (first | apply Kd.R_alloc | apply Kd.R_drewN | apply Kd.R_drew)); exact HO_7.out) hb); have n1_ := Aside0.mk (Kd.R_below (by (with_reducible repeat (first | apply Kd.R_alloc | apply Kd.R_drewN | apply Kd.R_drew)); exact HO_8.out) hb); have n2_ := Aside0.mk (Kd.R_below (by (with_reducible repeat (first | apply Kd.R_alloc | apply Kd.R_drewN | apply Kd.R_drew)); exact HO_44.out) hb); have n3_ := Aside0.mk (blk_below (g := gb132) (o := .cells #[.int .i32 ((rd_T34 t125 x46_3).f0), .string ((rd_T34 t125 x46_3).f1)] 34 (0, 0)) (by (with_reducible repeat (first | refine blk_drewN ?_ _ | refine blk_drew ?_ | refine blk_alloc ?_ _)); exact BK132.out) hb); have n4_ := Aside0.mk (below_step (by repeat (first | (with_reducible first | exact HB.out | apply below_alloc | apply pw_below_drewN | apply below_drew1 | refine below_set ?_ GE132.out) | exact HB.out)) hb); clear HO_7; clear HO_8; clear HO_44; clear BK132; clear HB; have HO_7 := n0_; have HO_8 := n1_; have HO_44 := n2_; have BK132 := n3_; have HB := n4_; clear n0_ n1_ n2_ n3_ n4_; (try clear hb); (try clear hb2); (try clear hk); (try clear hi); have hcz40_0 : w39.cell? ⟨gb132, 0, none⟩ = some (.int .i32 ((rd_T34 t125 x46_3).f0)) := (blk_cell BK132.out 0).trans rfl; have hcz40_1 : w39.cell? ⟨gb132, 1, none⟩ = some (.string ((rd_T34 t125 x46_3).f1)) := (blk_cell BK132.out 1).trans rfl; have hfz40_0 := blk_frozen BK132.out 0; have hfz40_1 := blk_frozen BK132.out 1) | (go_at_call 19; (with_reducible refine (impl_AddressIn.calls _ _ t125 ((rd_T34 t125 x46_3).f0) ((rd_T34 t125 x46_3).f1) t136 _ ?side1 ?side2 A36.out).mono ?_); (case side1 => repeat (first | exact (Kd.R_reads' HO_7.out).2.2 | (with_reducible refine Kd.C_alloc ?_ _) | (with_reducible refine Kd.C_drewN ?_ _) | (with_reducible refine Kd.C_drew ?_))); (case side2 => exact (Kd.R_reads' HO_7.out).2.1); rintro e w41 ⟨rfl, hb⟩; have n0_ := Aside0.mk (Kd.R_below (by (with_reducible repeat (first | apply Kd.R_alloc | apply Kd.R_drewN | apply Kd.R_drew)); exact HO_7.out) hb); have n1_ := Aside0.mk (Kd.R_below (by (with_reducible repeat (first | apply Kd.R_alloc | apply Kd.R_drewN | apply Kd.R_drew)); exact HO_8.out) hb); have n2_ := Aside0.mk (Kd.R_below (by (with_reducible repeat (first | apply Kd.R_alloc | apply Kd.R_drewN | apply Kd.R_drew)); exact HO_44.out) hb); have n3_ := Aside0.mk (blk_below (g := gb132) (o := .cells #[.int .i32 ((rd_T34 t125 x46_3).f0), .string ((rd_T34 t125 x46_3).f1)] 34 (0, 0)) (by (with_reducible repeat (first | refine blk_drewN ?_ _ | refine blk_drew ?_ | refine blk_alloc ?_ _)); exact BK132.out) hb); have n4_ := Aside0.mk (below_step (by repeat (first | (with_reducible first | exact HB.out | apply below_alloc | apply pw_below_drewN | apply below_drew1 | refine below_set ?_ GE132.out) | exact HB.out)) hb); clear HO_7; clear HO_8; clear HO_44; clear BK132; clear HB; have HO_7 := n0_; have HO_8 := n1_; have HO_44 := n2_; have BK132 := n3_; have HB := n4_; clear n0_ n1_ n2_ n3_ n4_; (try clear hb); (try clear hb2); (try clear hk); (try clear hi)))
                                  go_meet
                                  case rel => exact ⟨_, (!t136), (by first | rfl | (simp; done) | (simp [*]; done)), H', ⟨by have := HJ3.out; have := HJ8.out; have := HK3.out; have := HJ25.out; first | omega | exact Nat.le_refl _⟩, ⟨by (with_reducible repeat (first | apply Kd.R_alloc | apply Kd.R_drewN | apply Kd.R_drew)); exact HO_7.out⟩, ⟨by (with_reducible repeat (first | apply Kd.R_alloc | apply Kd.R_drewN | apply Kd.R_drew)); exact HO_8.out⟩, ⟨by (with_reducible repeat (first | apply Kd.R_alloc | apply Kd.R_drewN | apply Kd.R_drew)); exact HO_44.out⟩, ⟨by (with_reducible repeat (first | refine blk_drewN ?_ _ | refine blk_drew ?_ | refine blk_alloc ?_ _)); exact BK132.out⟩, ⟨by repeat (first | (with_reducible first | exact HB.out | apply below_alloc | apply pw_below_drewN | apply below_drew1 | refine below_set ?_ GE132.out) | exact HB.out)⟩⟩
                              case rest =>
                                clear HC30
                                try clear c1
                                try clear p1
                                try clear q1
                                try clear hx1
                                try clear c2
                                try clear p2
                                try clear c3
                                try clear c4
                                try clear c6
                                try clear c8
                                try clear c11
                                try clear c13
                                try clear p13
                                try clear q13
                                try clear hx13
                                try clear c14
                                try clear c15
                                try clear c16
                                try clear c17
                                try clear c18
                                try clear c19
                                try clear c21
                                try clear c21b0
                                try clear c22
                                try clear c22b0
                                try clear c23
                                try clear c23b0
                                try clear c24
                                try clear c24b0
                                try clear c29
                                try clear c32
                                try clear c32b0
                                try clear c32b1
                                try clear c32b2
                                try clear hcz28_0
                                try clear hcz28_1
                                try clear hcz33_0
                                try clear hcz33_1
                                try clear hcz37_0
                                try clear hcz37_1
                                try clear hcz40_0
                                try clear hcz40_1
                                try clear hfz28_0
                                try clear hfz28_1
                                try clear hfz33_0
                                try clear hfz33_1
                                try clear hfz37_0
                                try clear hfz37_1
                                try clear hfz40_0
                                try clear hfz40_1
                                try clear hx131_0
                                try clear hx131_1
                                try clear hx133_0
                                try clear p1
                                try clear p13
                                try clear p131
                                try clear p133
                                try clear p2
                                try clear q1
                                try clear q13
                                try clear q131
                                try clear q133
                                obtain ⟨kq, x71_29, rfl, HA, HJ29, HO_7, HO_8, HO_44, BK132, HB⟩ := hcut
                                cases kq with
                                | zero => exact absurd HA.out (by simp [laws_FnAddresses.j4])
                                | succ kj29 =>
                                  have H := HA.out
                                  clear HA
                                  simp only [laws_FnAddresses.j4] at H
                                  by_cases c42 : x71_29 = true
                                  · subst c42
                                    have H1 : (some false) = some r := by rw [if_pos rfl] at H; exact H
                                    clear H
                                    have H := H1
                                    clear H1
                                    obtain rfl := Option.some.inj H
                                    go_wp2
                                    go_ret
                                    exact ⟨by first | rfl | (simp [errW_none, errW_some] <;> rfl) | (simp [*, errW_none, errW_some] <;> rfl), by repeat (first | (with_reducible first | exact HB.out | apply below_alloc | apply pw_below_drewN | apply below_drew1 | refine below_set ?_ GE132.out) | exact HB.out)⟩
                                  · replace c42 := Bool.eq_false_iff.mpr c42
                                    subst c42
                                    have H1 : (laws_FnAddresses.l1 kj29 l0 l1 a2 t125 t128 x9_25 x46_3 t125 (t125.length : Int) x46_3 t128 (t128.length : Int) 0 ((rd_T34 t125 x46_3).f0) ((rd_T34 t125 x46_3).f1)) = some r := by rw [if_neg (show ¬ (false = true) by decide)] at H; exact H
                                    clear H
                                    have H := H1
                                    clear H1
                                    have H' := Aside0.mk H
                                    clear H
                                    obtain ⟨Ao43, co43, eo43⟩ := Kd.R_slice HO_8.out
                                    subst eo43
                                    go_wp2
                                    go_loopg [74] kj29 (fun kq v74 w' => ∃ (x74_6 : Int), v74 = .int .i64 x74_6 ∧ Aside0 (laws_FnAddresses.l1 kq l0 l1 a2 t125 t128 x9_25 x46_3 t125 (t125.length : Int) x46_3 t128 (t128.length : Int) x74_6 ((rd_T34 t125 x46_3).f0) ((rd_T34 t125 x46_3).f1) = some r) ∧ Aside0 (kq ≤ kj29) ∧ Aside0 (Kd.R k34 34 w' w.heap.size (fun k_ => some k_ ≠ ((.slice Ao43 t128.length co43) : Value).ownBlock ∧ some k_ ≠ ((.slice Ao43 t128.length co43) : Value).ownBlock ∧ k_ ≠ gb132) (.slice (some ad131) t125.length co20) t125) ∧ Aside0 (Kd.R k34 34 w' w.heap.size (fun k_ => some k_ ≠ ((.slice (some ad131) t125.length co20) : Value).ownBlock ∧ some k_ ≠ ((.slice (some ad131) t125.length co20) : Value).ownBlock ∧ k_ ≠ gb132) (.slice Ao43 t128.length co43) t128) ∧ Aside0 (Kd.R k34 34 w' w.heap.size (fun k_ => some k_ ≠ ((.slice Ao43 t128.length co43) : Value).ownBlock ∧ some k_ ≠ ((.slice Ao43 t128.length co43) : Value).ownBlock ∧ k_ ≠ gb132) (.slice (some ad131) t125.length co20) t125) ∧ Aside0 (Kd.R k34 34 w' w.heap.size (fun k_ => some k_ ≠ ((.slice (some ad131) t125.length co20) : Value).ownBlock ∧ some k_ ≠ ((.slice (some ad131) t125.length co20) : Value).ownBlock ∧ k_ ≠ gb132) (.slice Ao43 t128.length co43) t128) ∧ Aside0 (w'.heap[gb132]? = some (.cells #[.int .i32 ((rd_T34 t125 x46_3).f0), .string ((rd_T34 t125 x46_3).f1)] 34 (0, 0))) ∧ Aside0 (Below w.heap.size w w'))
                                    case atStart => exact ⟨(0), (by first | rfl | (simp; done) | (simp [*]; done)), H', ⟨Nat.le_refl _⟩, ⟨by (with_reducible repeat (first | apply Kd.R_alloc | apply Kd.R_drewN | apply Kd.R_drew)); exact Kd.R_mono HO_7.out (fun _ hk => ⟨hk.1, ⟨hk.1, hk.2⟩⟩)⟩, ⟨by (with_reducible repeat (first | apply Kd.R_alloc | apply Kd.R_drewN | apply Kd.R_drew)); exact HO_8.out⟩, ⟨by (with_reducible repeat (first | apply Kd.R_alloc | apply Kd.R_drewN | apply Kd.R_drew)); exact Kd.R_mono HO_44.out (fun _ hk => ⟨hk.1, ⟨hk.1, hk.2⟩⟩)⟩, ⟨by (with_reducible repeat (first | apply Kd.R_alloc | apply Kd.R_drewN | apply Kd.R_drew)); exact HO_8.out⟩, ⟨by (with_reducible repeat (first | refine blk_drewN ?_ _ | refine blk_drew ?_ | refine blk_alloc ?_ _)); exact BK132.out⟩, ⟨by repeat (first | (with_reducible first | exact HB.out | apply below_alloc | apply pw_below_drewN | apply below_drew1 | refine below_set ?_ GE132.out) | exact HB.out)⟩⟩
                                    case round =>
                                      clear H'
                                      try clear c1
                                      try clear p1
                                      try clear q1
                                      try clear hx1
                                      try clear c2
                                      try clear p2
                                      try clear c3
                                      try clear c4
                                      try clear c6
                                      try clear c8
                                      try clear c11
                                      try clear c13
                                      try clear p13
                                      try clear q13
                                      try clear hx13
                                      try clear c14
                                      try clear c15
                                      try clear c16
                                      try clear c17
                                      try clear c18
                                      try clear c19
                                      try clear c21
                                      try clear c21b0
                                      try clear c22
                                      try clear c22b0
                                      try clear c23
                                      try clear c23b0
                                      try clear c24
                                      try clear c24b0
                                      try clear c29
                                      try clear c32
                                      try clear c32b0
                                      try clear c32b1
                                      try clear c32b2
                                      try clear c42
                                      try clear hcz28_0
                                      try clear hcz28_1
                                      try clear hcz33_0
                                      try clear hcz33_1
                                      try clear hcz37_0
                                      try clear hcz37_1
                                      try clear hcz40_0
                                      try clear hcz40_1
                                      try clear hfz28_0
                                      try clear hfz28_1
                                      try clear hfz33_0
                                      try clear hfz33_1
                                      try clear hfz37_0
                                      try clear hfz37_1
                                      try clear hfz40_0
                                      try clear hfz40_1
                                      try clear hx131_0
                                      try clear hx131_1
                                      try clear hx133_0
                                      try clear p1
                                      try clear p13
                                      try clear p131
                                      try clear p133
                                      try clear p2
                                      try clear q1
                                      try clear q13
                                      try clear q131
                                      try clear q133
                                      obtain ⟨x74_6, rfl, HA, HK6, HO_7, HO_8, HO_44, HO_72, BK132, HB⟩ := hrel
                                      cases gk with
                                      | zero => exact absurd HA.out (by simp [laws_FnAddresses.l1])
                                      | succ k6 =>
                                        have H := HA.out
                                        clear HA
                                        simp only [laws_FnAddresses.l1] at H
                                        by_cases c44 : x74_6 < (t128.length : Int)
                                        · rw [if_pos c44] at H
                                          have c44b0 : decide (x74_6 < (t128.length : Int)) = true := decide_eq_true c44
                                          clear c44
                                          by_cases c45 : 0 ≤ x74_6
                                          · rw [if_pos c45] at H
                                            have c45b0 : decide (0 ≤ x74_6) = true := decide_eq_true c45
                                            clear c45
                                            by_cases c46 : x74_6 < (t128.length : Int)
                                            · rw [if_pos c46] at H
                                              have c46b0 : decide (x74_6 < (t128.length : Int)) = true := decide_eq_true c46
                                              clear c46
                                              replace H := Option.bind_eq_some_iff.mp H
                                              obtain ⟨t139, A470, H⟩ := H
                                              replace H : (if 0 ≤ x46_3 then (if x46_3 < (l0.length : Int) then (if x74_6 < (l1.length : Int) then (if (t139 != ((rdOf ByteArray.empty l0 x46_3).toList == (rdOf ByteArray.empty l1 x74_6).toList)) = true then (some false) else (laws_FnAddresses.l1 k6 l0 l1 a2 t125 t128 x9_25 x46_3 t125 (t125.length : Int) x46_3 t128 (t128.length : Int) (wrap64 (x74_6 + 1)) ((rd_T34 t125 x46_3).f0) ((rd_T34 t125 x46_3).f1))) else (none)) else (none)) else (none)) = some r := H
                                              have A47 := Aside0.mk A470
                                              clear A470
                                              by_cases c48 : 0 ≤ x46_3
                                              · rw [if_pos c48] at H
                                                have c48b0 : decide (0 ≤ x46_3) = true := decide_eq_true c48
                                                clear c48
                                                by_cases c49 : x46_3 < (l0.length : Int)
                                                · rw [if_pos c49] at H
                                                  have c49b0 : decide (x46_3 < (l0.length : Int)) = true := decide_eq_true c49
                                                  clear c49
                                                  by_cases c50 : x74_6 < (l1.length : Int)
                                                  · rw [if_pos c50] at H
                                                    have c50b0 : decide (x74_6 < (l1.length : Int)) = true := decide_eq_true c50
                                                    clear c50
                                                    by_cases c51 : (t139 != ((rdOf ByteArray.empty l0 x46_3).toList == (rdOf ByteArray.empty l1 x74_6).toList)) = true
                                                    · rw [if_pos c51] at H
                                                      have c51b0 : (t139 != ((rdOf ByteArray.empty l0 x46_3).toList == (rdOf ByteArray.empty l1 x74_6).toList)) = true := c51
                                                      (try (have c51b1 : decide (t139 = ((rdOf ByteArray.empty l0 x46_3).toList == (rdOf ByteArray.empty l1 x74_6).toList)) = false := by simpa using c51))
                                                      (try (have c51b2 : (t139 == ((rdOf ByteArray.empty l0 x46_3).toList == (rdOf ByteArray.empty l1 x74_6).toList)) = false := by simpa using c51))
                                                      (try (have c51b3 : ¬ (t139 = ((rdOf ByteArray.empty l0 x46_3).toList == (rdOf ByteArray.empty l1 x74_6).toList)) := by simpa using c51))
                                                      clear c51
                                                      obtain rfl := Option.some.inj H
                                                      have p137 : 0 ≤ (x74_6 : Int) := of_decide_eq_true (by first | (with_reducible assumption) | assumption)
                                                      have q137 : x74_6 < (t128.length : Int) := of_decide_eq_true (by first | (with_reducible assumption) | assumption)
                                                      obtain ⟨ad137, e137, hx137_0, hx137_1⟩ := at_T34 (Kd.R_reads' HO_72.out).2.2 x74_6 p137 q137
                                                      cases e137
                                                      replace p137 := eq_true p137
                                                      replace q137 := eq_true q137
                                                      try go_wp2_with (first | ((with_reducible refine gate_dst (N := 14) rfl ?_); refine box_event ?hg (N := 14) ?hd (cs := #[.int .i32 0, .string (⟨#[]⟩ : ByteArray)]) (t := 34) ?hr ?_; (case hd => rfl); (case hg => rfl); (case hr => first | (go_simp; done) | (go_simp; rfl)); intro gb138 hg w52 hbox hb; have n0_ := Aside0.mk (Kd.R_below (Kd.R_elderB (by (with_reducible repeat (first | apply Kd.R_alloc | apply Kd.R_drewN | apply Kd.R_drew)); exact HO_7.out) gb138 (Nat.le_of_eq hg.symm)) hb); have n1_ := Aside0.mk (Kd.R_below (Kd.R_elderB (by (with_reducible repeat (first | apply Kd.R_alloc | apply Kd.R_drewN | apply Kd.R_drew)); exact HO_8.out) gb138 (Nat.le_of_eq hg.symm)) hb); have n2_ := Aside0.mk (Kd.R_below (Kd.R_elderB (by (with_reducible repeat (first | apply Kd.R_alloc | apply Kd.R_drewN | apply Kd.R_drew)); exact HO_44.out) gb138 (Nat.le_of_eq hg.symm)) hb); have n3_ := Aside0.mk (Kd.R_below (Kd.R_elderB (by (with_reducible repeat (first | apply Kd.R_alloc | apply Kd.R_drewN | apply Kd.R_drew)); exact HO_72.out) gb138 (Nat.le_of_eq hg.symm)) hb); have n4_ := Aside0.mk (blk_below (g := gb132) (o := .cells #[.int .i32 ((rd_T34 t125 x46_3).f0), .string ((rd_T34 t125 x46_3).f1)] 34 (0, 0)) (by (with_reducible repeat (first | refine blk_drewN ?_ _ | refine blk_drew ?_ | refine blk_alloc ?_ _)); exact BK132.out) hb); have n5_ := Aside0.mk (below_step (by repeat (first | (with_reducible first | exact HB.out | apply below_alloc | apply pw_below_drewN | apply below_drew1 | refine below_set ?_ GE132.out) | exact HB.out)) hb); have n6_ := Aside0.mk (hbox); have n7_ := Aside0.mk ((by rw [hg]; exact (below_size (by repeat (first | (with_reducible first | exact HB.out | apply below_alloc | apply pw_below_drewN | apply below_drew1 | refine below_set ?_ GE132.out) | exact HB.out))) : w.heap.size ≤ gb138)); have n8_ := Aside0.mk ((by rw [hg]; exact (below_size (by repeat (first | (with_reducible first | exact HB.out | apply below_alloc | apply pw_below_drewN | apply below_drew1 | refine below_set ?_ GE132.out) | exact HB.out))) : w.heap.size ≤ gb138)); have n9_ := Aside0.mk ((by rw [hg]; exact Nat.ne_of_lt (blk_lt (g := gb132) (o := .cells #[.int .i32 ((rd_T34 t125 x46_3).f0), .string ((rd_T34 t125 x46_3).f1)] 34 (0, 0)) (by (with_reducible repeat (first | refine blk_drewN ?_ _ | refine blk_drew ?_ | refine blk_alloc ?_ _)); exact BK132.out)) : gb132 ≠ gb138)); have n10_ := Aside0.mk ((by rw [hg]; exact Nat.ne_of_gt (blk_lt (g := gb132) (o := .cells #[.int .i32 ((rd_T34 t125 x46_3).f0), .string ((rd_T34 t125 x46_3).f1)] 34 (0, 0)) (by (with_reducible repeat (first | refine blk_drewN ?_ _ | refine blk_drew ?_ | refine blk_alloc ?_ _)); exact BK132.out)) : gb138 ≠ gb132)); clear HO_7; clear HO_8; clear HO_44; clear HO_72; clear BK132; clear HB; have HO_7 := n0_; have HO_8 := n1_; have HO_44 := n2_; have HO_72 := n3_; have BK132 := n4_; have HB := n5_; have BK138 := n6_; have GW138 := n7_; have GE138 := n8_; have NB132_138 := n9_; have NB138_132 := n10_; clear n0_ n1_ n2_ n3_ n4_ n5_ n6_ n7_ n8_ n9_ n10_; clear hb hbox hg; have hnb53 := NB138_132.out; have hnc53 := NB132_138.out; have hcz54_0 : w52.cell? ⟨gb138, 0, none⟩ = some (.int .i32 0) := (blk_cell BK138.out 0).trans rfl; have hcz54_1 : w52.cell? ⟨gb138, 1, none⟩ = some (.string (⟨#[]⟩ : ByteArray)) := (blk_cell BK138.out 1).trans rfl; have hfz54_0 := blk_frozen BK138.out 0; have hfz54_1 := blk_frozen BK138.out 1))
                                                      have n0_ : Aside0 (Kd.R k34 34 ((w52.setCell ⟨gb138, 0, none⟩ (.int .i32 ((rd_T34 t128 x74_6).f0))).setCell ⟨gb138, 1, none⟩ (.string ((rd_T34 t128 x74_6).f1))) w.heap.size (fun k_ => some k_ ≠ (.slice (some ad137) t128.length co43 : Value).ownBlock ∧ some k_ ≠ (.slice (some ad137) t128.length co43 : Value).ownBlock ∧ k_ ≠ gb132 ∧ k_ ≠ gb138) (.slice (some ad131) t125.length co20) t125) := ⟨by (with_reducible repeat (first | apply Kd.R_alloc | apply Kd.R_drewN | apply Kd.R_drew)); exact Kd.R_mono (Kd.R_far (p := ⟨gb138, 1, none⟩) (Kd.R_far (p := ⟨gb138, 0, none⟩) (Kd.R_mono HO_7.out (fun k_ hk => (⟨hk, hk.2⟩ : _ ∧ k_ ≠ gb138))) (fun _ hk => hk.2) (.int .i32 ((rd_T34 t128 x74_6).f0))) (fun _ hk => hk.2) (.string ((rd_T34 t128 x74_6).f1))) (fun _ hk => ⟨hk.1.1.1, ⟨hk.1.1.2.1, ⟨hk.1.1.2.2, hk.1.2⟩⟩⟩)⟩
                                                      have n1_ : Aside0 (Kd.R k34 34 ((w52.setCell ⟨gb138, 0, none⟩ (.int .i32 ((rd_T34 t128 x74_6).f0))).setCell ⟨gb138, 1, none⟩ (.string ((rd_T34 t128 x74_6).f1))) w.heap.size (fun k_ => some k_ ≠ (.slice (some ad131) t125.length co20 : Value).ownBlock ∧ some k_ ≠ (.slice (some ad131) t125.length co20 : Value).ownBlock ∧ k_ ≠ gb132 ∧ k_ ≠ gb138) (.slice (some ad137) t128.length co43) t128) := ⟨by (with_reducible repeat (first | apply Kd.R_alloc | apply Kd.R_drewN | apply Kd.R_drew)); exact Kd.R_mono (Kd.R_far (p := ⟨gb138, 1, none⟩) (Kd.R_far (p := ⟨gb138, 0, none⟩) (Kd.R_mono HO_8.out (fun k_ hk => (⟨hk, hk.2⟩ : _ ∧ k_ ≠ gb138))) (fun _ hk => hk.2) (.int .i32 ((rd_T34 t128 x74_6).f0))) (fun _ hk => hk.2) (.string ((rd_T34 t128 x74_6).f1))) (fun _ hk => ⟨hk.1.1.1, ⟨hk.1.1.2.1, ⟨hk.1.1.2.2, hk.1.2⟩⟩⟩)⟩
                                                      have n2_ : Aside0 (Kd.R k34 34 ((w52.setCell ⟨gb138, 0, none⟩ (.int .i32 ((rd_T34 t128 x74_6).f0))).setCell ⟨gb138, 1, none⟩ (.string ((rd_T34 t128 x74_6).f1))) w.heap.size (fun k_ => some k_ ≠ (.slice (some ad137) t128.length co43 : Value).ownBlock ∧ some k_ ≠ (.slice (some ad137) t128.length co43 : Value).ownBlock ∧ k_ ≠ gb132 ∧ k_ ≠ gb138) (.slice (some ad131) t125.length co20) t125) := ⟨by (with_reducible repeat (first | apply Kd.R_alloc | apply Kd.R_drewN | apply Kd.R_drew)); exact Kd.R_mono (Kd.R_far (p := ⟨gb138, 1, none⟩) (Kd.R_far (p := ⟨gb138, 0, none⟩) (Kd.R_mono HO_44.out (fun k_ hk => (⟨hk, hk.2⟩ : _ ∧ k_ ≠ gb138))) (fun _ hk => hk.2) (.int .i32 ((rd_T34 t128 x74_6).f0))) (fun _ hk => hk.2) (.string ((rd_T34 t128 x74_6).f1))) (fun _ hk => ⟨hk.1.1.1, ⟨hk.1.1.2.1, ⟨hk.1.1.2.2, hk.1.2⟩⟩⟩)⟩
                                                      have n3_ : Aside0 (Kd.R k34 34 ((w52.setCell ⟨gb138, 0, none⟩ (.int .i32 ((rd_T34 t128 x74_6).f0))).setCell ⟨gb138, 1, none⟩ (.string ((rd_T34 t128 x74_6).f1))) w.heap.size (fun k_ => some k_ ≠ (.slice (some ad131) t125.length co20 : Value).ownBlock ∧ some k_ ≠ (.slice (some ad131) t125.length co20 : Value).ownBlock ∧ k_ ≠ gb132 ∧ k_ ≠ gb138) (.slice (some ad137) t128.length co43) t128) := ⟨by (with_reducible repeat (first | apply Kd.R_alloc | apply Kd.R_drewN | apply Kd.R_drew)); exact Kd.R_mono (Kd.R_far (p := ⟨gb138, 1, none⟩) (Kd.R_far (p := ⟨gb138, 0, none⟩) (Kd.R_mono HO_72.out (fun k_ hk => (⟨hk, hk.2⟩ : _ ∧ k_ ≠ gb138))) (fun _ hk => hk.2) (.int .i32 ((rd_T34 t128 x74_6).f0))) (fun _ hk => hk.2) (.string ((rd_T34 t128 x74_6).f1))) (fun _ hk => ⟨hk.1.1.1, ⟨hk.1.1.2.1, ⟨hk.1.1.2.2, hk.1.2⟩⟩⟩)⟩
                                                      have n4_ : Aside0 (((w52.setCell ⟨gb138, 0, none⟩ (.int .i32 ((rd_T34 t128 x74_6).f0))).setCell ⟨gb138, 1, none⟩ (.string ((rd_T34 t128 x74_6).f1))).heap[gb132]? = some (.cells #[.int .i32 ((rd_T34 t125 x46_3).f0), .string ((rd_T34 t125 x46_3).f1)] 34 (0, 0))) := ⟨by (with_reducible repeat (first | refine blk_drewN ?_ _ | refine blk_drew ?_ | refine blk_alloc ?_ _)); refine blk_far ?_ NB132_138.out _; (with_reducible repeat (first | refine blk_drewN ?_ _ | refine blk_drew ?_ | refine blk_alloc ?_ _)); refine blk_far ?_ NB132_138.out _; (with_reducible repeat (first | refine blk_drewN ?_ _ | refine blk_drew ?_ | refine blk_alloc ?_ _)); exact BK132.out⟩
                                                      have n5_ : Aside0 (((w52.setCell ⟨gb138, 0, none⟩ (.int .i32 ((rd_T34 t128 x74_6).f0))).setCell ⟨gb138, 1, none⟩ (.string ((rd_T34 t128 x74_6).f1))).heap[gb138]? = some (.cells #[.int .i32 ((rd_T34 t128 x74_6).f0), .string ((rd_T34 t128 x74_6).f1)] 34 (0, 0))) := ⟨by (with_reducible repeat (first | refine blk_drewN ?_ _ | refine blk_drew ?_ | refine blk_alloc ?_ _)); refine blk_put (cs := #[.int .i32 ((rd_T34 t128 x74_6).f0), .string (⟨#[]⟩ : ByteArray)]) ?_ 1 _ rfl; (with_reducible repeat (first | refine blk_drewN ?_ _ | refine blk_drew ?_ | refine blk_alloc ?_ _)); refine blk_put (cs := #[.int .i32 0, .string (⟨#[]⟩ : ByteArray)]) ?_ 0 _ rfl; (with_reducible repeat (first | refine blk_drewN ?_ _ | refine blk_drew ?_ | refine blk_alloc ?_ _)); exact BK138.out⟩
                                                      have n6_ : Aside0 (Below w.heap.size w ((w52.setCell ⟨gb138, 0, none⟩ (.int .i32 ((rd_T34 t128 x74_6).f0))).setCell ⟨gb138, 1, none⟩ (.string ((rd_T34 t128 x74_6).f1)))) := ⟨by repeat (first | (with_reducible first | exact HB.out | apply below_alloc | apply pw_below_drewN | apply below_drew1 | refine below_set ?_ GE132.out | refine below_set ?_ GE138.out) | exact HB.out)⟩
                                                      (try clear HO_7)
                                                      (try clear HO_8)
                                                      (try clear HO_44)
                                                      (try clear HO_72)
                                                      (try clear BK132)
                                                      (try clear BK138)
                                                      (try clear HB)
                                                      generalize ((w52.setCell ⟨gb138, 0, none⟩ (.int .i32 ((rd_T34 t128 x74_6).f0))).setCell ⟨gb138, 1, none⟩ (.string ((rd_T34 t128 x74_6).f1))) = w55 at n0_ n1_ n2_ n3_ n4_ n5_ n6_ ⊢
                                                      have HO_7 := n0_
                                                      have HO_8 := n1_
                                                      have HO_44 := n2_
                                                      have HO_72 := n3_
                                                      have BK132 := n4_
                                                      have BK138 := n5_
                                                      have HB := n6_
                                                      clear n0_ n1_ n2_ n3_ n4_ n5_ n6_
                                                      have n0_ := Aside0.mk (Kd.R_drew HO_7.out)
                                                      have n1_ := Aside0.mk (Kd.R_drew HO_8.out)
                                                      have n2_ := Aside0.mk (Kd.R_drew HO_44.out)
                                                      have n3_ := Aside0.mk (Kd.R_drew HO_72.out)
                                                      have n4_ := Aside0.mk (blk_drew BK132.out)
                                                      have n5_ := Aside0.mk (blk_drew BK138.out)
                                                      have n6_ := Aside0.mk (below_drew1 HB.out)
                                                      clear HO_7
                                                      clear HO_8
                                                      clear HO_44
                                                      clear HO_72
                                                      clear BK132
                                                      clear BK138
                                                      clear HB
                                                      have HO_7 := n0_
                                                      have HO_8 := n1_
                                                      have HO_44 := n2_
                                                      have HO_72 := n3_
                                                      have BK132 := n4_
                                                      have BK138 := n5_
                                                      have HB := n6_
                                                      clear n0_ n1_ n2_ n3_ n4_ n5_ n6_
                                                      have p140 : 0 ≤ (x46_3 : Int) := of_decide_eq_true (by first | (with_reducible assumption) | assumption)
                                                      have q140 : x46_3 < (l0.length : Int) := of_decide_eq_true (by first | (with_reducible assumption) | assumption)
                                                      obtain ⟨ad140, e140, hx140_0⟩ := Kd.at_string HR0.out x46_3 p140 q140
                                                      have hw140_0 := hx140_0
                                                      obtain rfl : ad133 = ad140 := (by injection e140)
                                                      replace hx140_0 := (HB.out.cell (World.block_lt_of_cell? w _ hx140_0)).trans hx140_0
                                                      replace p140 := eq_true p140
                                                      replace q140 := eq_true q140
                                                      have p141 : 0 ≤ (x74_6 : Int) := of_decide_eq_true (by first | (with_reducible assumption) | assumption)
                                                      have q141 : x74_6 < (l1.length : Int) := of_decide_eq_true (by first | (with_reducible assumption) | assumption)
                                                      obtain ⟨ad141, e141, hx141_0⟩ := Kd.at_string HR1.out x74_6 p141 q141
                                                      have hw141_0 := hx141_0
                                                      cases e141
                                                      replace hx141_0 := (HB.out.cell (World.block_lt_of_cell? w _ hx141_0)).trans hx141_0
                                                      replace p141 := eq_true p141
                                                      replace q141 := eq_true q141
                                                      refine start_ (n := 13) (S := fun w' => w'.cell? ⟨gb132, 0, none⟩ = some (.int .i32 ((rd_T34 t125 x46_3).f0)) ∧ w'.cell? ⟨gb132, 1, none⟩ = some (.string ((rd_T34 t125 x46_3).f1)) ∧ w'.cell? ⟨gb138, 0, none⟩ = some (.int .i32 ((rd_T34 t128 x74_6).f0)) ∧ w'.cell? ⟨gb138, 1, none⟩ = some (.string ((rd_T34 t128 x74_6).f1)) ∧ w'.cell? (ad133.add (x46_3).toNat) = some (.string (rdOf ByteArray.empty l0 x46_3)) ∧ w'.cell? (ad141.add (x74_6).toNat) = some (.string (rdOf ByteArray.empty l1 x74_6))) (ds := []) #[false, false, false, false, false, false, false, false, false, false, false, false, false] (by kernel_rfl) rfl rfl ⟨(blk_cell BK132.out 0).trans rfl, (blk_cell BK132.out 1).trans rfl, (blk_cell BK138.out 0).trans rfl, (blk_cell BK138.out 1).trans rfl, ((HB.out.cell (World.block_lt_of_cell? w _ hw140_0)).trans hw140_0), ((HB.out.cell (World.block_lt_of_cell? w _ hw141_0)).trans hw141_0)⟩ (fun hHeld => ?_); refine with_tabW laws_FnAddresses.tab17 laws_FnAddresses.bits17 (fun HT_ HW_ => ?_)
                                                      generalize w55.drew = w56 at HO_7 HO_8 HO_44 HO_72 BK132 BK138 HB hx140_0 hx141_0 hHeld ⊢
                                                      refine pure_ (i := 3) (N := some 82) (v := ?_) (a' := ?_) #[false, false, false, true, false, false, false, false, false, false, false, false, false] rfl rfl (any_of HT_.out (by kernel_rfl)) (fun _ _ _ h => h) (Or.inl ⟨by rfl, ?_⟩) ?_ ?_
                                                      rotate_left
                                                      · intro w'
                                                        go_simp
                                                        with_reducible rfl
                                                      rotate_left
                                                      · simp only [Act.put, List.setIfInBounds_toArray, List.set_cons_zero, List.set_cons_succ, i64_w, i32_w]
                                                        rfl
                                                      refine pure_ (i := 4) (N := some 83) (v := ?_) (a' := ?_) #[false, false, false, true, true, false, false, false, false, false, false, false, false] rfl rfl (any_of HT_.out (by kernel_rfl)) (fun _ _ _ h => h) (Or.inl ⟨by rfl, ?_⟩) ?_ ?_
                                                      rotate_left
                                                      · intro w'
                                                        go_simp
                                                        with_reducible rfl
                                                      rotate_left
                                                      · simp only [Act.put, List.setIfInBounds_toArray, List.set_cons_zero, List.set_cons_succ, i64_w, i32_w]
                                                        rfl
                                                      refine pure_ (i := 5) (N := some 84) (v := ?_) (a' := ?_) #[false, false, false, true, true, true, false, false, false, false, false, false, false] rfl rfl (any_of HT_.out (by kernel_rfl)) (fun _ _ _ h => h) (Or.inl ⟨by rfl, ?_⟩) ?_ ?_
                                                      rotate_left
                                                      · intro w'
                                                        go_simp
                                                        with_reducible rfl
                                                      rotate_left
                                                      · simp only [Act.put, List.setIfInBounds_toArray, List.set_cons_zero, List.set_cons_succ, i64_w, i32_w]
                                                        rfl
                                                      refine pure_ (i := 7) (N := some 86) (v := ?_) (a' := ?_) #[false, false, false, true, true, true, false, true, false, false, false, false, false] rfl rfl (any_of HT_.out (by kernel_rfl)) (fun _ _ _ h => h) (Or.inl ⟨by rfl, ?_⟩) ?_ ?_
                                                      rotate_left
                                                      · intro w'
                                                        go_simp
                                                        with_reducible rfl
                                                      rotate_left
                                                      · simp only [Act.put, List.setIfInBounds_toArray, List.set_cons_zero, List.set_cons_succ, i64_w, i32_w]
                                                        rfl
                                                      refine pure_ (i := 8) (N := some 87) (v := ?_) (a' := ?_) #[false, false, false, true, true, true, false, true, true, false, false, false, false] rfl rfl (any_of HT_.out (by kernel_rfl)) (fun _ _ _ h => h) (Or.inl ⟨by rfl, ?_⟩) ?_ ?_
                                                      rotate_left
                                                      · intro w'
                                                        go_simp
                                                        with_reducible rfl
                                                      rotate_left
                                                      · simp only [Act.put, List.setIfInBounds_toArray, List.set_cons_zero, List.set_cons_succ, i64_w, i32_w]
                                                        rfl
                                                      refine pure_ (i := 9) (N := some 88) (v := ?_) (a' := ?_) #[false, false, false, true, true, true, false, true, true, true, false, false, false] rfl rfl (any_of HT_.out (by kernel_rfl)) (fun _ _ _ h => h) (Or.inl ⟨by rfl, ?_⟩) ?_ ?_
                                                      rotate_left
                                                      · intro w'
                                                        go_simp
                                                        with_reducible rfl
                                                      rotate_left
                                                      · simp only [Act.put, List.setIfInBounds_toArray, List.set_cons_zero, List.set_cons_succ, i64_w, i32_w]
                                                        rfl
                                                      refine take_ (i := 0) (N := some 79) (v := ?_) (a' := ?_) #[true, false, false, true, true, true, false, true, true, true, false, false, false] rfl rfl (take_ofW HT_.out HW_.out (by kernel_rfl)) (fun _ _ _ h => h) (Or.inl ⟨by rfl, ?_⟩) hHeld ?_ ?_
                                                      rotate_left
                                                      · rintro w' ⟨s0, s1, s2, s3, s4, s5⟩
                                                        go_simp
                                                        with_reducible rfl
                                                      rotate_left
                                                      · simp only [Act.put, List.setIfInBounds_toArray, List.set_cons_zero, List.set_cons_succ, i64_w, i32_w]
                                                        rfl
                                                      refine take_ (i := 1) (N := some 80) (v := ?_) (a' := ?_) #[true, true, false, true, true, true, false, true, true, true, false, false, false] rfl rfl (take_ofW HT_.out HW_.out (by kernel_rfl)) (fun _ _ _ h => h) (Or.inl ⟨by rfl, ?_⟩) hHeld ?_ ?_
                                                      rotate_left
                                                      · rintro w' ⟨s0, s1, s2, s3, s4, s5⟩
                                                        go_simp
                                                        with_reducible rfl
                                                      rotate_left
                                                      · simp only [Act.put, List.setIfInBounds_toArray, List.set_cons_zero, List.set_cons_succ, i64_w, i32_w]
                                                        rfl
                                                      refine take_ (i := 6) (N := some 85) (v := ?_) (a' := ?_) #[true, true, false, true, true, true, true, true, true, true, false, false, false] rfl rfl (take_ofW HT_.out HW_.out (by kernel_rfl)) (fun _ _ _ h => h) (Or.inl ⟨by rfl, ?_⟩) hHeld ?_ ?_
                                                      rotate_left
                                                      · rintro w' ⟨s0, s1, s2, s3, s4, s5⟩
                                                        go_simp
                                                        with_reducible rfl
                                                      rotate_left
                                                      · simp only [Act.put, List.setIfInBounds_toArray, List.set_cons_zero, List.set_cons_succ, i64_w, i32_w]
                                                        rfl
                                                      refine take_ (i := 10) (N := some 89) (v := ?_) (a' := ?_) #[true, true, false, true, true, true, true, true, true, true, true, false, false] rfl rfl (take_ofW HT_.out HW_.out (by kernel_rfl)) (fun _ _ _ h => h) (Or.inl ⟨by rfl, ?_⟩) hHeld ?_ ?_
                                                      rotate_left
                                                      · rintro w' ⟨s0, s1, s2, s3, s4, s5⟩
                                                        go_simp
                                                        with_reducible rfl
                                                      rotate_left
                                                      · simp only [Act.put, List.setIfInBounds_toArray, List.set_cons_zero, List.set_cons_succ, i64_w, i32_w]
                                                        rfl
                                                      refine pure_ (i := 11) (N := some 90) (v := ?_) (a' := ?_) #[true, true, false, true, true, true, true, true, true, true, true, true, false] rfl rfl (any_of HT_.out (by kernel_rfl)) (fun _ _ _ h => h) (Or.inl ⟨by rfl, ?_⟩) ?_ ?_
                                                      rotate_left
                                                      · intro w'
                                                        go_simp
                                                        with_reducible rfl
                                                      rotate_left
                                                      · simp only [Act.put, List.setIfInBounds_toArray, List.set_cons_zero, List.set_cons_succ, i64_w, i32_w]
                                                        rfl
                                                      refine one_ (i := 2) (N := some 81) #[true, true, true, true, true, true, true, true, true, true, true, true, false] rfl rfl (one_of HT_.out (by kernel_rfl)) (by decide) (fun K hK => ?_)
                                                      refine goes_ Try.func20 (by kernel_rfl) rfl #[.agg #[.int .i32 ((rd_T34 t125 x46_3).f0), .string ((rd_T34 t125 x46_3).f1)], .agg #[.int .i32 ((rd_T34 t128 x74_6).f0), .string ((rd_T34 t128 x74_6).f1)]] (by rfl) rfl rfl (by (try simp only [List.map_toArray, List.map_cons, List.map_nil]); first | done | rfl | (simp only [List.length_drop, List.length_take]; rfl)) ?_
                                                      with_reducible refine (impl_AddressEqual.calls ((rd_T34 t125 x46_3).f0) ((rd_T34 t125 x46_3).f1) ((rd_T34 t128 x74_6).f0) ((rd_T34 t128 x74_6).f1) t139 _ A47.out).mono ?_
                                                      rintro e w57 ⟨rfl, hb⟩
                                                      refine ⟨_, rfl, ?_⟩
                                                      have n0_ := Aside0.mk (Kd.R_below (by (with_reducible repeat (first | apply Kd.R_alloc | apply Kd.R_drewN | apply Kd.R_drew)); exact HO_7.out) hb)
                                                      have n1_ := Aside0.mk (Kd.R_below (by (with_reducible repeat (first | apply Kd.R_alloc | apply Kd.R_drewN | apply Kd.R_drew)); exact HO_8.out) hb)
                                                      have n2_ := Aside0.mk (Kd.R_below (by (with_reducible repeat (first | apply Kd.R_alloc | apply Kd.R_drewN | apply Kd.R_drew)); exact HO_44.out) hb)
                                                      have n3_ := Aside0.mk (Kd.R_below (by (with_reducible repeat (first | apply Kd.R_alloc | apply Kd.R_drewN | apply Kd.R_drew)); exact HO_72.out) hb)
                                                      have n4_ := Aside0.mk (blk_below (g := gb132) (o := .cells #[.int .i32 ((rd_T34 t125 x46_3).f0), .string ((rd_T34 t125 x46_3).f1)] 34 (0, 0)) (by (with_reducible repeat (first | refine blk_drewN ?_ _ | refine blk_drew ?_ | refine blk_alloc ?_ _)); exact BK132.out) hb)
                                                      have n5_ := Aside0.mk (blk_below (g := gb138) (o := .cells #[.int .i32 ((rd_T34 t128 x74_6).f0), .string ((rd_T34 t128 x74_6).f1)] 34 (0, 0)) (by (with_reducible repeat (first | refine blk_drewN ?_ _ | refine blk_drew ?_ | refine blk_alloc ?_ _)); exact BK138.out) hb)
                                                      have n6_ := Aside0.mk (below_step (by repeat (first | (with_reducible first | exact HB.out | apply below_alloc | apply pw_below_drewN | apply below_drew1 | refine below_set ?_ GE132.out | refine below_set ?_ GE138.out) | exact HB.out)) hb)
                                                      clear HO_7
                                                      clear HO_8
                                                      clear HO_44
                                                      clear HO_72
                                                      clear BK132
                                                      clear BK138
                                                      clear HB
                                                      have HO_7 := n0_
                                                      have HO_8 := n1_
                                                      have HO_44 := n2_
                                                      have HO_72 := n3_
                                                      have BK132 := n4_
                                                      have BK138 := n5_
                                                      have HB := n6_
                                                      clear n0_ n1_ n2_ n3_ n4_ n5_ n6_
                                                      (try clear hb)
                                                      (try clear hb2)
                                                      (try clear hk)
                                                      (try clear hi)
                                                      refine hK.out _ _ ⟨(blk_cell BK132.out 0).trans rfl, (blk_cell BK132.out 1).trans rfl, (blk_cell BK138.out 0).trans rfl, (blk_cell BK138.out 1).trans rfl, ((HB.out.cell (World.block_lt_of_cell? w _ hw140_0)).trans hw140_0), ((HB.out.cell (World.block_lt_of_cell? w _ hw141_0)).trans hw141_0)⟩ (fun hHeld => ?_)
                                                      clear hK K
                                                      refine norm_ (a' := ?_) ?_ ?_
                                                      rotate_left
                                                      · show Act.put _ (some 81) _ = _
                                                        simp only [Act.put, List.setIfInBounds_toArray, List.set_cons_zero, List.set_cons_succ, i64_w, i32_w]
                                                        rfl
                                                      refine pure_ (i := 12) (N := some 91) (v := ?_) (a' := ?_) #[true, true, true, true, true, true, true, true, true, true, true, true, true] rfl rfl (any_of HT_.out (by kernel_rfl)) (fun _ _ _ h => h) (Or.inl ⟨by rfl, ?_⟩) ?_ ?_
                                                      rotate_left
                                                      · intro w'
                                                        go_simp
                                                        with_reducible rfl
                                                      rotate_left
                                                      · simp only [Act.put, List.setIfInBounds_toArray, List.set_cons_zero, List.set_cons_succ, i64_w, i32_w]
                                                        rfl
                                                      refine done_ (done_of HT_.out (by kernel_rfl)) ?_
                                                      try go_wp2
                                                      go_ret
                                                      exact ⟨by first | rfl | (simp [errW_none, errW_some] <;> rfl) | (simp [*, errW_none, errW_some] <;> rfl), by repeat (first | (with_reducible first | exact HB.out | apply below_alloc | apply pw_below_drewN | apply below_drew1 | refine below_set ?_ GE132.out | refine below_set ?_ GE138.out) | exact HB.out)⟩
                                                    · rw [if_neg c51] at H
                                                      have c51b0 : (t139 != ((rdOf ByteArray.empty l0 x46_3).toList == (rdOf ByteArray.empty l1 x74_6).toList)) = false := by simpa using c51
                                                      (try (have c51b1 : decide (t139 = ((rdOf ByteArray.empty l0 x46_3).toList == (rdOf ByteArray.empty l1 x74_6).toList)) = true := by simpa using c51))
                                                      (try (have c51b2 : (t139 == ((rdOf ByteArray.empty l0 x46_3).toList == (rdOf ByteArray.empty l1 x74_6).toList)) = true := by simpa using c51))
                                                      clear c51
                                                      have H' := Aside0.mk H
                                                      clear H
                                                      have p137 : 0 ≤ (x74_6 : Int) := of_decide_eq_true (by first | (with_reducible assumption) | assumption)
                                                      have q137 : x74_6 < (t128.length : Int) := of_decide_eq_true (by first | (with_reducible assumption) | assumption)
                                                      obtain ⟨ad137, e137, hx137_0, hx137_1⟩ := at_T34 (Kd.R_reads' HO_72.out).2.2 x74_6 p137 q137
                                                      cases e137
                                                      replace p137 := eq_true p137
                                                      replace q137 := eq_true q137
                                                      try go_wp2_with (first | ((with_reducible refine gate_dst (N := 14) rfl ?_); refine box_event ?hg (N := 14) ?hd (cs := #[.int .i32 0, .string (⟨#[]⟩ : ByteArray)]) (t := 34) ?hr ?_; (case hd => rfl); (case hg => rfl); (case hr => first | (go_simp; done) | (go_simp; rfl)); intro gb138 hg w58 hbox hb; have n0_ := Aside0.mk (Kd.R_below (Kd.R_elderB (by (with_reducible repeat (first | apply Kd.R_alloc | apply Kd.R_drewN | apply Kd.R_drew)); exact HO_7.out) gb138 (Nat.le_of_eq hg.symm)) hb); have n1_ := Aside0.mk (Kd.R_below (Kd.R_elderB (by (with_reducible repeat (first | apply Kd.R_alloc | apply Kd.R_drewN | apply Kd.R_drew)); exact HO_8.out) gb138 (Nat.le_of_eq hg.symm)) hb); have n2_ := Aside0.mk (Kd.R_below (Kd.R_elderB (by (with_reducible repeat (first | apply Kd.R_alloc | apply Kd.R_drewN | apply Kd.R_drew)); exact HO_44.out) gb138 (Nat.le_of_eq hg.symm)) hb); have n3_ := Aside0.mk (Kd.R_below (Kd.R_elderB (by (with_reducible repeat (first | apply Kd.R_alloc | apply Kd.R_drewN | apply Kd.R_drew)); exact HO_72.out) gb138 (Nat.le_of_eq hg.symm)) hb); have n4_ := Aside0.mk (blk_below (g := gb132) (o := .cells #[.int .i32 ((rd_T34 t125 x46_3).f0), .string ((rd_T34 t125 x46_3).f1)] 34 (0, 0)) (by (with_reducible repeat (first | refine blk_drewN ?_ _ | refine blk_drew ?_ | refine blk_alloc ?_ _)); exact BK132.out) hb); have n5_ := Aside0.mk (below_step (by repeat (first | (with_reducible first | exact HB.out | apply below_alloc | apply pw_below_drewN | apply below_drew1 | refine below_set ?_ GE132.out) | exact HB.out)) hb); have n6_ := Aside0.mk (hbox); have n7_ := Aside0.mk ((by rw [hg]; exact (below_size (by repeat (first | (with_reducible first | exact HB.out | apply below_alloc | apply pw_below_drewN | apply below_drew1 | refine below_set ?_ GE132.out) | exact HB.out))) : w.heap.size ≤ gb138)); have n8_ := Aside0.mk ((by rw [hg]; exact (below_size (by repeat (first | (with_reducible first | exact HB.out | apply below_alloc | apply pw_below_drewN | apply below_drew1 | refine below_set ?_ GE132.out) | exact HB.out))) : w.heap.size ≤ gb138)); have n9_ := Aside0.mk ((by rw [hg]; exact Nat.ne_of_lt (blk_lt (g := gb132) (o := .cells #[.int .i32 ((rd_T34 t125 x46_3).f0), .string ((rd_T34 t125 x46_3).f1)] 34 (0, 0)) (by (with_reducible repeat (first | refine blk_drewN ?_ _ | refine blk_drew ?_ | refine blk_alloc ?_ _)); exact BK132.out)) : gb132 ≠ gb138)); have n10_ := Aside0.mk ((by rw [hg]; exact Nat.ne_of_gt (blk_lt (g := gb132) (o := .cells #[.int .i32 ((rd_T34 t125 x46_3).f0), .string ((rd_T34 t125 x46_3).f1)] 34 (0, 0)) (by (with_reducible repeat (first | refine blk_drewN ?_ _ | refine blk_drew ?_ | refine blk_alloc ?_ _)); exact BK132.out)) : gb138 ≠ gb132)); clear HO_7; clear HO_8; clear HO_44; clear HO_72; clear BK132; clear HB; have HO_7 := n0_; have HO_8 := n1_; have HO_44 := n2_; have HO_72 := n3_; have BK132 := n4_; have HB := n5_; have BK138 := n6_; have GW138 := n7_; have GE138 := n8_; have NB132_138 := n9_; have NB138_132 := n10_; clear n0_ n1_ n2_ n3_ n4_ n5_ n6_ n7_ n8_ n9_ n10_; clear hb hbox hg; have hnb59 := NB138_132.out; have hnc59 := NB132_138.out; have hcz60_0 : w58.cell? ⟨gb138, 0, none⟩ = some (.int .i32 0) := (blk_cell BK138.out 0).trans rfl; have hcz60_1 : w58.cell? ⟨gb138, 1, none⟩ = some (.string (⟨#[]⟩ : ByteArray)) := (blk_cell BK138.out 1).trans rfl; have hfz60_0 := blk_frozen BK138.out 0; have hfz60_1 := blk_frozen BK138.out 1))
                                                      have n0_ : Aside0 (Kd.R k34 34 ((w58.setCell ⟨gb138, 0, none⟩ (.int .i32 ((rd_T34 t128 x74_6).f0))).setCell ⟨gb138, 1, none⟩ (.string ((rd_T34 t128 x74_6).f1))) w.heap.size (fun k_ => some k_ ≠ (.slice (some ad137) t128.length co43 : Value).ownBlock ∧ some k_ ≠ (.slice (some ad137) t128.length co43 : Value).ownBlock ∧ k_ ≠ gb132 ∧ k_ ≠ gb138) (.slice (some ad131) t125.length co20) t125) := ⟨by (with_reducible repeat (first | apply Kd.R_alloc | apply Kd.R_drewN | apply Kd.R_drew)); exact Kd.R_mono (Kd.R_far (p := ⟨gb138, 1, none⟩) (Kd.R_far (p := ⟨gb138, 0, none⟩) (Kd.R_mono HO_7.out (fun k_ hk => (⟨hk, hk.2⟩ : _ ∧ k_ ≠ gb138))) (fun _ hk => hk.2) (.int .i32 ((rd_T34 t128 x74_6).f0))) (fun _ hk => hk.2) (.string ((rd_T34 t128 x74_6).f1))) (fun _ hk => ⟨hk.1.1.1, ⟨hk.1.1.2.1, ⟨hk.1.1.2.2, hk.1.2⟩⟩⟩)⟩
                                                      have n1_ : Aside0 (Kd.R k34 34 ((w58.setCell ⟨gb138, 0, none⟩ (.int .i32 ((rd_T34 t128 x74_6).f0))).setCell ⟨gb138, 1, none⟩ (.string ((rd_T34 t128 x74_6).f1))) w.heap.size (fun k_ => some k_ ≠ (.slice (some ad131) t125.length co20 : Value).ownBlock ∧ some k_ ≠ (.slice (some ad131) t125.length co20 : Value).ownBlock ∧ k_ ≠ gb132 ∧ k_ ≠ gb138) (.slice (some ad137) t128.length co43) t128) := ⟨by (with_reducible repeat (first | apply Kd.R_alloc | apply Kd.R_drewN | apply Kd.R_drew)); exact Kd.R_mono (Kd.R_far (p := ⟨gb138, 1, none⟩) (Kd.R_far (p := ⟨gb138, 0, none⟩) (Kd.R_mono HO_8.out (fun k_ hk => (⟨hk, hk.2⟩ : _ ∧ k_ ≠ gb138))) (fun _ hk => hk.2) (.int .i32 ((rd_T34 t128 x74_6).f0))) (fun _ hk => hk.2) (.string ((rd_T34 t128 x74_6).f1))) (fun _ hk => ⟨hk.1.1.1, ⟨hk.1.1.2.1, ⟨hk.1.1.2.2, hk.1.2⟩⟩⟩)⟩
                                                      have n2_ : Aside0 (Kd.R k34 34 ((w58.setCell ⟨gb138, 0, none⟩ (.int .i32 ((rd_T34 t128 x74_6).f0))).setCell ⟨gb138, 1, none⟩ (.string ((rd_T34 t128 x74_6).f1))) w.heap.size (fun k_ => some k_ ≠ (.slice (some ad137) t128.length co43 : Value).ownBlock ∧ some k_ ≠ (.slice (some ad137) t128.length co43 : Value).ownBlock ∧ k_ ≠ gb132 ∧ k_ ≠ gb138) (.slice (some ad131) t125.length co20) t125) := ⟨by (with_reducible repeat (first | apply Kd.R_alloc | apply Kd.R_drewN | apply Kd.R_drew)); exact Kd.R_mono (Kd.R_far (p := ⟨gb138, 1, none⟩) (Kd.R_far (p := ⟨gb138, 0, none⟩) (Kd.R_mono HO_44.out (fun k_ hk => (⟨hk, hk.2⟩ : _ ∧ k_ ≠ gb138))) (fun _ hk => hk.2) (.int .i32 ((rd_T34 t128 x74_6).f0))) (fun _ hk => hk.2) (.string ((rd_T34 t128 x74_6).f1))) (fun _ hk => ⟨hk.1.1.1, ⟨hk.1.1.2.1, ⟨hk.1.1.2.2, hk.1.2⟩⟩⟩)⟩
                                                      have n3_ : Aside0 (Kd.R k34 34 ((w58.setCell ⟨gb138, 0, none⟩ (.int .i32 ((rd_T34 t128 x74_6).f0))).setCell ⟨gb138, 1, none⟩ (.string ((rd_T34 t128 x74_6).f1))) w.heap.size (fun k_ => some k_ ≠ (.slice (some ad131) t125.length co20 : Value).ownBlock ∧ some k_ ≠ (.slice (some ad131) t125.length co20 : Value).ownBlock ∧ k_ ≠ gb132 ∧ k_ ≠ gb138) (.slice (some ad137) t128.length co43) t128) := ⟨by (with_reducible repeat (first | apply Kd.R_alloc | apply Kd.R_drewN | apply Kd.R_drew)); exact Kd.R_mono (Kd.R_far (p := ⟨gb138, 1, none⟩) (Kd.R_far (p := ⟨gb138, 0, none⟩) (Kd.R_mono HO_72.out (fun k_ hk => (⟨hk, hk.2⟩ : _ ∧ k_ ≠ gb138))) (fun _ hk => hk.2) (.int .i32 ((rd_T34 t128 x74_6).f0))) (fun _ hk => hk.2) (.string ((rd_T34 t128 x74_6).f1))) (fun _ hk => ⟨hk.1.1.1, ⟨hk.1.1.2.1, ⟨hk.1.1.2.2, hk.1.2⟩⟩⟩)⟩
                                                      have n4_ : Aside0 (((w58.setCell ⟨gb138, 0, none⟩ (.int .i32 ((rd_T34 t128 x74_6).f0))).setCell ⟨gb138, 1, none⟩ (.string ((rd_T34 t128 x74_6).f1))).heap[gb132]? = some (.cells #[.int .i32 ((rd_T34 t125 x46_3).f0), .string ((rd_T34 t125 x46_3).f1)] 34 (0, 0))) := ⟨by (with_reducible repeat (first | refine blk_drewN ?_ _ | refine blk_drew ?_ | refine blk_alloc ?_ _)); refine blk_far ?_ NB132_138.out _; (with_reducible repeat (first | refine blk_drewN ?_ _ | refine blk_drew ?_ | refine blk_alloc ?_ _)); refine blk_far ?_ NB132_138.out _; (with_reducible repeat (first | refine blk_drewN ?_ _ | refine blk_drew ?_ | refine blk_alloc ?_ _)); exact BK132.out⟩
                                                      have n5_ : Aside0 (((w58.setCell ⟨gb138, 0, none⟩ (.int .i32 ((rd_T34 t128 x74_6).f0))).setCell ⟨gb138, 1, none⟩ (.string ((rd_T34 t128 x74_6).f1))).heap[gb138]? = some (.cells #[.int .i32 ((rd_T34 t128 x74_6).f0), .string ((rd_T34 t128 x74_6).f1)] 34 (0, 0))) := ⟨by (with_reducible repeat (first | refine blk_drewN ?_ _ | refine blk_drew ?_ | refine blk_alloc ?_ _)); refine blk_put (cs := #[.int .i32 ((rd_T34 t128 x74_6).f0), .string (⟨#[]⟩ : ByteArray)]) ?_ 1 _ rfl; (with_reducible repeat (first | refine blk_drewN ?_ _ | refine blk_drew ?_ | refine blk_alloc ?_ _)); refine blk_put (cs := #[.int .i32 0, .string (⟨#[]⟩ : ByteArray)]) ?_ 0 _ rfl; (with_reducible repeat (first | refine blk_drewN ?_ _ | refine blk_drew ?_ | refine blk_alloc ?_ _)); exact BK138.out⟩
                                                      have n6_ : Aside0 (Below w.heap.size w ((w58.setCell ⟨gb138, 0, none⟩ (.int .i32 ((rd_T34 t128 x74_6).f0))).setCell ⟨gb138, 1, none⟩ (.string ((rd_T34 t128 x74_6).f1)))) := ⟨by repeat (first | (with_reducible first | exact HB.out | apply below_alloc | apply pw_below_drewN | apply below_drew1 | refine below_set ?_ GE132.out | refine below_set ?_ GE138.out) | exact HB.out)⟩
                                                      (try clear HO_7)
                                                      (try clear HO_8)
                                                      (try clear HO_44)
                                                      (try clear HO_72)
                                                      (try clear BK132)
                                                      (try clear BK138)
                                                      (try clear HB)
                                                      generalize ((w58.setCell ⟨gb138, 0, none⟩ (.int .i32 ((rd_T34 t128 x74_6).f0))).setCell ⟨gb138, 1, none⟩ (.string ((rd_T34 t128 x74_6).f1))) = w61 at n0_ n1_ n2_ n3_ n4_ n5_ n6_ ⊢
                                                      have HO_7 := n0_
                                                      have HO_8 := n1_
                                                      have HO_44 := n2_
                                                      have HO_72 := n3_
                                                      have BK132 := n4_
                                                      have BK138 := n5_
                                                      have HB := n6_
                                                      clear n0_ n1_ n2_ n3_ n4_ n5_ n6_
                                                      have n0_ := Aside0.mk (Kd.R_drew HO_7.out)
                                                      have n1_ := Aside0.mk (Kd.R_drew HO_8.out)
                                                      have n2_ := Aside0.mk (Kd.R_drew HO_44.out)
                                                      have n3_ := Aside0.mk (Kd.R_drew HO_72.out)
                                                      have n4_ := Aside0.mk (blk_drew BK132.out)
                                                      have n5_ := Aside0.mk (blk_drew BK138.out)
                                                      have n6_ := Aside0.mk (below_drew1 HB.out)
                                                      clear HO_7
                                                      clear HO_8
                                                      clear HO_44
                                                      clear HO_72
                                                      clear BK132
                                                      clear BK138
                                                      clear HB
                                                      have HO_7 := n0_
                                                      have HO_8 := n1_
                                                      have HO_44 := n2_
                                                      have HO_72 := n3_
                                                      have BK132 := n4_
                                                      have BK138 := n5_
                                                      have HB := n6_
                                                      clear n0_ n1_ n2_ n3_ n4_ n5_ n6_
                                                      have p140 : 0 ≤ (x46_3 : Int) := of_decide_eq_true (by first | (with_reducible assumption) | assumption)
                                                      have q140 : x46_3 < (l0.length : Int) := of_decide_eq_true (by first | (with_reducible assumption) | assumption)
                                                      obtain ⟨ad140, e140, hx140_0⟩ := Kd.at_string HR0.out x46_3 p140 q140
                                                      have hw140_0 := hx140_0
                                                      obtain rfl : ad133 = ad140 := (by injection e140)
                                                      replace hx140_0 := (HB.out.cell (World.block_lt_of_cell? w _ hx140_0)).trans hx140_0
                                                      replace p140 := eq_true p140
                                                      replace q140 := eq_true q140
                                                      have p141 : 0 ≤ (x74_6 : Int) := of_decide_eq_true (by first | (with_reducible assumption) | assumption)
                                                      have q141 : x74_6 < (l1.length : Int) := of_decide_eq_true (by first | (with_reducible assumption) | assumption)
                                                      obtain ⟨ad141, e141, hx141_0⟩ := Kd.at_string HR1.out x74_6 p141 q141
                                                      have hw141_0 := hx141_0
                                                      cases e141
                                                      replace hx141_0 := (HB.out.cell (World.block_lt_of_cell? w _ hx141_0)).trans hx141_0
                                                      replace p141 := eq_true p141
                                                      replace q141 := eq_true q141
                                                      refine start_ (n := 13) (S := fun w' => w'.cell? ⟨gb132, 0, none⟩ = some (.int .i32 ((rd_T34 t125 x46_3).f0)) ∧ w'.cell? ⟨gb132, 1, none⟩ = some (.string ((rd_T34 t125 x46_3).f1)) ∧ w'.cell? ⟨gb138, 0, none⟩ = some (.int .i32 ((rd_T34 t128 x74_6).f0)) ∧ w'.cell? ⟨gb138, 1, none⟩ = some (.string ((rd_T34 t128 x74_6).f1)) ∧ w'.cell? (ad133.add (x46_3).toNat) = some (.string (rdOf ByteArray.empty l0 x46_3)) ∧ w'.cell? (ad141.add (x74_6).toNat) = some (.string (rdOf ByteArray.empty l1 x74_6))) (ds := []) #[false, false, false, false, false, false, false, false, false, false, false, false, false] (by kernel_rfl) rfl rfl ⟨(blk_cell BK132.out 0).trans rfl, (blk_cell BK132.out 1).trans rfl, (blk_cell BK138.out 0).trans rfl, (blk_cell BK138.out 1).trans rfl, ((HB.out.cell (World.block_lt_of_cell? w _ hw140_0)).trans hw140_0), ((HB.out.cell (World.block_lt_of_cell? w _ hw141_0)).trans hw141_0)⟩ (fun hHeld => ?_); refine with_tabW laws_FnAddresses.tab17 laws_FnAddresses.bits17 (fun HT_ HW_ => ?_)
                                                      generalize w61.drew = w62 at HO_7 HO_8 HO_44 HO_72 BK132 BK138 HB hx140_0 hx141_0 hHeld ⊢
                                                      refine pure_ (i := 3) (N := some 82) (v := ?_) (a' := ?_) #[false, false, false, true, false, false, false, false, false, false, false, false, false] rfl rfl (any_of HT_.out (by kernel_rfl)) (fun _ _ _ h => h) (Or.inl ⟨by rfl, ?_⟩) ?_ ?_
                                                      rotate_left
                                                      · intro w'
                                                        go_simp
                                                        with_reducible rfl
                                                      rotate_left
                                                      · simp only [Act.put, List.setIfInBounds_toArray, List.set_cons_zero, List.set_cons_succ, i64_w, i32_w]
                                                        rfl
                                                      refine pure_ (i := 4) (N := some 83) (v := ?_) (a' := ?_) #[false, false, false, true, true, false, false, false, false, false, false, false, false] rfl rfl (any_of HT_.out (by kernel_rfl)) (fun _ _ _ h => h) (Or.inl ⟨by rfl, ?_⟩) ?_ ?_
                                                      rotate_left
                                                      · intro w'
                                                        go_simp
                                                        with_reducible rfl
                                                      rotate_left
                                                      · simp only [Act.put, List.setIfInBounds_toArray, List.set_cons_zero, List.set_cons_succ, i64_w, i32_w]
                                                        rfl
                                                      refine pure_ (i := 5) (N := some 84) (v := ?_) (a' := ?_) #[false, false, false, true, true, true, false, false, false, false, false, false, false] rfl rfl (any_of HT_.out (by kernel_rfl)) (fun _ _ _ h => h) (Or.inl ⟨by rfl, ?_⟩) ?_ ?_
                                                      rotate_left
                                                      · intro w'
                                                        go_simp
                                                        with_reducible rfl
                                                      rotate_left
                                                      · simp only [Act.put, List.setIfInBounds_toArray, List.set_cons_zero, List.set_cons_succ, i64_w, i32_w]
                                                        rfl
                                                      refine pure_ (i := 7) (N := some 86) (v := ?_) (a' := ?_) #[false, false, false, true, true, true, false, true, false, false, false, false, false] rfl rfl (any_of HT_.out (by kernel_rfl)) (fun _ _ _ h => h) (Or.inl ⟨by rfl, ?_⟩) ?_ ?_
                                                      rotate_left
                                                      · intro w'
                                                        go_simp
                                                        with_reducible rfl
                                                      rotate_left
                                                      · simp only [Act.put, List.setIfInBounds_toArray, List.set_cons_zero, List.set_cons_succ, i64_w, i32_w]
                                                        rfl
                                                      refine pure_ (i := 8) (N := some 87) (v := ?_) (a' := ?_) #[false, false, false, true, true, true, false, true, true, false, false, false, false] rfl rfl (any_of HT_.out (by kernel_rfl)) (fun _ _ _ h => h) (Or.inl ⟨by rfl, ?_⟩) ?_ ?_
                                                      rotate_left
                                                      · intro w'
                                                        go_simp
                                                        with_reducible rfl
                                                      rotate_left
                                                      · simp only [Act.put, List.setIfInBounds_toArray, List.set_cons_zero, List.set_cons_succ, i64_w, i32_w]
                                                        rfl
                                                      refine pure_ (i := 9) (N := some 88) (v := ?_) (a' := ?_) #[false, false, false, true, true, true, false, true, true, true, false, false, false] rfl rfl (any_of HT_.out (by kernel_rfl)) (fun _ _ _ h => h) (Or.inl ⟨by rfl, ?_⟩) ?_ ?_
                                                      rotate_left
                                                      · intro w'
                                                        go_simp
                                                        with_reducible rfl
                                                      rotate_left
                                                      · simp only [Act.put, List.setIfInBounds_toArray, List.set_cons_zero, List.set_cons_succ, i64_w, i32_w]
                                                        rfl
                                                      refine take_ (i := 0) (N := some 79) (v := ?_) (a' := ?_) #[true, false, false, true, true, true, false, true, true, true, false, false, false] rfl rfl (take_ofW HT_.out HW_.out (by kernel_rfl)) (fun _ _ _ h => h) (Or.inl ⟨by rfl, ?_⟩) hHeld ?_ ?_
                                                      rotate_left
                                                      · rintro w' ⟨s0, s1, s2, s3, s4, s5⟩
                                                        go_simp
                                                        with_reducible rfl
                                                      rotate_left
                                                      · simp only [Act.put, List.setIfInBounds_toArray, List.set_cons_zero, List.set_cons_succ, i64_w, i32_w]
                                                        rfl
                                                      refine take_ (i := 1) (N := some 80) (v := ?_) (a' := ?_) #[true, true, false, true, true, true, false, true, true, true, false, false, false] rfl rfl (take_ofW HT_.out HW_.out (by kernel_rfl)) (fun _ _ _ h => h) (Or.inl ⟨by rfl, ?_⟩) hHeld ?_ ?_
                                                      rotate_left
                                                      · rintro w' ⟨s0, s1, s2, s3, s4, s5⟩
                                                        go_simp
                                                        with_reducible rfl
                                                      rotate_left
                                                      · simp only [Act.put, List.setIfInBounds_toArray, List.set_cons_zero, List.set_cons_succ, i64_w, i32_w]
                                                        rfl
                                                      refine take_ (i := 6) (N := some 85) (v := ?_) (a' := ?_) #[true, true, false, true, true, true, true, true, true, true, false, false, false] rfl rfl (take_ofW HT_.out HW_.out (by kernel_rfl)) (fun _ _ _ h => h) (Or.inl ⟨by rfl, ?_⟩) hHeld ?_ ?_
                                                      rotate_left
                                                      · rintro w' ⟨s0, s1, s2, s3, s4, s5⟩
                                                        go_simp
                                                        with_reducible rfl
                                                      rotate_left
                                                      · simp only [Act.put, List.setIfInBounds_toArray, List.set_cons_zero, List.set_cons_succ, i64_w, i32_w]
                                                        rfl
                                                      refine take_ (i := 10) (N := some 89) (v := ?_) (a' := ?_) #[true, true, false, true, true, true, true, true, true, true, true, false, false] rfl rfl (take_ofW HT_.out HW_.out (by kernel_rfl)) (fun _ _ _ h => h) (Or.inl ⟨by rfl, ?_⟩) hHeld ?_ ?_
                                                      rotate_left
                                                      · rintro w' ⟨s0, s1, s2, s3, s4, s5⟩
                                                        go_simp
                                                        with_reducible rfl
                                                      rotate_left
                                                      · simp only [Act.put, List.setIfInBounds_toArray, List.set_cons_zero, List.set_cons_succ, i64_w, i32_w]
                                                        rfl
                                                      refine pure_ (i := 11) (N := some 90) (v := ?_) (a' := ?_) #[true, true, false, true, true, true, true, true, true, true, true, true, false] rfl rfl (any_of HT_.out (by kernel_rfl)) (fun _ _ _ h => h) (Or.inl ⟨by rfl, ?_⟩) ?_ ?_
                                                      rotate_left
                                                      · intro w'
                                                        go_simp
                                                        with_reducible rfl
                                                      rotate_left
                                                      · simp only [Act.put, List.setIfInBounds_toArray, List.set_cons_zero, List.set_cons_succ, i64_w, i32_w]
                                                        rfl
                                                      refine one_ (i := 2) (N := some 81) #[true, true, true, true, true, true, true, true, true, true, true, true, false] rfl rfl (one_of HT_.out (by kernel_rfl)) (by decide) (fun K hK => ?_)
                                                      refine goes_ Try.func20 (by kernel_rfl) rfl #[.agg #[.int .i32 ((rd_T34 t125 x46_3).f0), .string ((rd_T34 t125 x46_3).f1)], .agg #[.int .i32 ((rd_T34 t128 x74_6).f0), .string ((rd_T34 t128 x74_6).f1)]] (by rfl) rfl rfl (by (try simp only [List.map_toArray, List.map_cons, List.map_nil]); first | done | rfl | (simp only [List.length_drop, List.length_take]; rfl)) ?_
                                                      with_reducible refine (impl_AddressEqual.calls ((rd_T34 t125 x46_3).f0) ((rd_T34 t125 x46_3).f1) ((rd_T34 t128 x74_6).f0) ((rd_T34 t128 x74_6).f1) t139 _ A47.out).mono ?_
                                                      rintro e w63 ⟨rfl, hb⟩
                                                      refine ⟨_, rfl, ?_⟩
                                                      have n0_ := Aside0.mk (Kd.R_below (by (with_reducible repeat (first | apply Kd.R_alloc | apply Kd.R_drewN | apply Kd.R_drew)); exact HO_7.out) hb)
                                                      have n1_ := Aside0.mk (Kd.R_below (by (with_reducible repeat (first | apply Kd.R_alloc | apply Kd.R_drewN | apply Kd.R_drew)); exact HO_8.out) hb)
                                                      have n2_ := Aside0.mk (Kd.R_below (by (with_reducible repeat (first | apply Kd.R_alloc | apply Kd.R_drewN | apply Kd.R_drew)); exact HO_44.out) hb)
                                                      have n3_ := Aside0.mk (Kd.R_below (by (with_reducible repeat (first | apply Kd.R_alloc | apply Kd.R_drewN | apply Kd.R_drew)); exact HO_72.out) hb)
                                                      have n4_ := Aside0.mk (blk_below (g := gb132) (o := .cells #[.int .i32 ((rd_T34 t125 x46_3).f0), .string ((rd_T34 t125 x46_3).f1)] 34 (0, 0)) (by (with_reducible repeat (first | refine blk_drewN ?_ _ | refine blk_drew ?_ | refine blk_alloc ?_ _)); exact BK132.out) hb)
                                                      have n5_ := Aside0.mk (blk_below (g := gb138) (o := .cells #[.int .i32 ((rd_T34 t128 x74_6).f0), .string ((rd_T34 t128 x74_6).f1)] 34 (0, 0)) (by (with_reducible repeat (first | refine blk_drewN ?_ _ | refine blk_drew ?_ | refine blk_alloc ?_ _)); exact BK138.out) hb)
                                                      have n6_ := Aside0.mk (below_step (by repeat (first | (with_reducible first | exact HB.out | apply below_alloc | apply pw_below_drewN | apply below_drew1 | refine below_set ?_ GE132.out | refine below_set ?_ GE138.out) | exact HB.out)) hb)
                                                      clear HO_7
                                                      clear HO_8
                                                      clear HO_44
                                                      clear HO_72
                                                      clear BK132
                                                      clear BK138
                                                      clear HB
                                                      have HO_7 := n0_
                                                      have HO_8 := n1_
                                                      have HO_44 := n2_
                                                      have HO_72 := n3_
                                                      have BK132 := n4_
                                                      have BK138 := n5_
                                                      have HB := n6_
                                                      clear n0_ n1_ n2_ n3_ n4_ n5_ n6_
                                                      (try clear hb)
                                                      (try clear hb2)
                                                      (try clear hk)
                                                      (try clear hi)
                                                      refine hK.out _ _ ⟨(blk_cell BK132.out 0).trans rfl, (blk_cell BK132.out 1).trans rfl, (blk_cell BK138.out 0).trans rfl, (blk_cell BK138.out 1).trans rfl, ((HB.out.cell (World.block_lt_of_cell? w _ hw140_0)).trans hw140_0), ((HB.out.cell (World.block_lt_of_cell? w _ hw141_0)).trans hw141_0)⟩ (fun hHeld => ?_)
                                                      clear hK K
                                                      refine norm_ (a' := ?_) ?_ ?_
                                                      rotate_left
                                                      · show Act.put _ (some 81) _ = _
                                                        simp only [Act.put, List.setIfInBounds_toArray, List.set_cons_zero, List.set_cons_succ, i64_w, i32_w]
                                                        rfl
                                                      refine pure_ (i := 12) (N := some 91) (v := ?_) (a' := ?_) #[true, true, true, true, true, true, true, true, true, true, true, true, true] rfl rfl (any_of HT_.out (by kernel_rfl)) (fun _ _ _ h => h) (Or.inl ⟨by rfl, ?_⟩) ?_ ?_
                                                      rotate_left
                                                      · intro w'
                                                        go_simp
                                                        with_reducible rfl
                                                      rotate_left
                                                      · simp only [Act.put, List.setIfInBounds_toArray, List.set_cons_zero, List.set_cons_succ, i64_w, i32_w]
                                                        rfl
                                                      refine done_ (done_of HT_.out (by kernel_rfl)) ?_
                                                      try go_wp2
                                                      go_roundg k6
                                                      case measure => have := HJ3.out; have := HJ8.out; have := HK3.out; have := HJ25.out; have := HJ29.out; have := HK6.out; omega
                                                      case rel => exact ⟨(wrap64 (x74_6 + 1)), (by first | rfl | (simp; done) | (simp [*]; done)), H', ⟨by have := HJ3.out; have := HJ8.out; have := HK3.out; have := HJ25.out; have := HJ29.out; have := HK6.out; omega⟩, ⟨by (with_reducible repeat (first | apply Kd.R_alloc | apply Kd.R_drewN | apply Kd.R_drew)); exact Kd.R_mono HO_7.out (fun _ hk => ⟨hk.1, ⟨hk.2.1, hk.2.2.1⟩⟩)⟩, ⟨by (with_reducible repeat (first | apply Kd.R_alloc | apply Kd.R_drewN | apply Kd.R_drew)); exact Kd.R_mono HO_8.out (fun _ hk => ⟨hk.1, ⟨hk.2.1, hk.2.2.1⟩⟩)⟩, ⟨by (with_reducible repeat (first | apply Kd.R_alloc | apply Kd.R_drewN | apply Kd.R_drew)); exact Kd.R_mono HO_44.out (fun _ hk => ⟨hk.1, ⟨hk.2.1, hk.2.2.1⟩⟩)⟩, ⟨by (with_reducible repeat (first | apply Kd.R_alloc | apply Kd.R_drewN | apply Kd.R_drew)); exact Kd.R_mono HO_72.out (fun _ hk => ⟨hk.1, ⟨hk.2.1, hk.2.2.1⟩⟩)⟩, ⟨by (with_reducible repeat (first | refine blk_drewN ?_ _ | refine blk_drew ?_ | refine blk_alloc ?_ _)); exact BK132.out⟩, ⟨by repeat (first | (with_reducible first | exact HB.out | apply below_alloc | apply pw_below_drewN | apply below_drew1 | refine below_set ?_ GE132.out | refine below_set ?_ GE138.out) | exact HB.out)⟩⟩
                                                  · rw [if_neg c50] at H
                                                    exact absurd H (by simp)
                                                · rw [if_neg c49] at H
                                                  exact absurd H (by simp)
                                              · rw [if_neg c48] at H
                                                exact absurd H (by simp)
                                            · rw [if_neg c46] at H
                                              exact absurd H (by simp)
                                          · rw [if_neg c45] at H
                                            exact absurd H (by simp)
                                        · rw [if_neg c44] at H
                                          have c44b0 : decide (x74_6 < (t128.length : Int)) = false := decide_eq_false c44
                                          clear c44
                                          have H' := Aside0.mk H
                                          clear H
                                          go_wp2
                                          go_roundg k6
                                          case measure => have := HJ3.out; have := HJ8.out; have := HK3.out; have := HJ25.out; have := HJ29.out; have := HK6.out; omega
                                          case rel => exact ⟨(x9_25), (wrap64 (x46_3 + 1)), (by first | rfl | (simp; done) | (simp [*]; done)), (by first | rfl | (simp; done) | (simp [*]; done)), H', ⟨by have := HJ3.out; have := HJ8.out; have := HK3.out; have := HJ25.out; have := HJ29.out; have := HK6.out; omega⟩, ⟨by (with_reducible repeat (first | apply Kd.R_alloc | apply Kd.R_drewN | apply Kd.R_drew)); exact Kd.R_mono HO_7.out (fun _ hk => hk.1)⟩, ⟨by (with_reducible repeat (first | apply Kd.R_alloc | apply Kd.R_drewN | apply Kd.R_drew)); exact Kd.R_mono HO_8.out (fun _ hk => ⟨hk.1, hk.2.1⟩)⟩, ⟨by (with_reducible repeat (first | apply Kd.R_alloc | apply Kd.R_drewN | apply Kd.R_drew)); exact Kd.R_mono HO_44.out (fun _ hk => hk.1)⟩, ⟨by repeat (first | (with_reducible first | exact HB.out | apply below_alloc | apply pw_below_drewN | apply below_drew1 | refine below_set ?_ GE132.out) | exact HB.out)⟩⟩
                        · rw [if_neg c24] at H
                          exact absurd H (by simp)
                      · rw [if_neg c23] at H
                        exact absurd H (by simp)
                    · rw [if_neg c22] at H
                      exact absurd H (by simp)
                  · rw [if_neg c21] at H
                    have c21b0 : decide (x46_3 < (t125.length : Int)) = false := decide_eq_false c21
                    clear c21
                    replace H := Option.bind_eq_some_iff.mp H
                    obtain ⟨t142, A640, H⟩ := H
                    replace H : (if (t125.length : Int) > 0 then (if (t125.length : Int) = 0 then (none) else (if 0 ≤ (Int.tmod (wrap64 (a2)) (t125.length : Int)) then (if (Int.tmod (wrap64 (a2)) (t125.length : Int)) ≤ (t125.length : Int) then ((impl_Address.f (t125.drop ((Int.tmod (wrap64 (a2)) (t125.length : Int)) : Int).toNat)).bind fun t149 => ((some (t125.take ((Int.tmod (wrap64 (a2)) (t125.length : Int)) : Int).toNat : List (S34))).bind fun y152 => (if t149.length + y152.length < 5864062014805 then ((impl_AddressesEqual.f t125 t128).bind fun t159 => (if (t159 == x9_3) = true then ((impl_AddressesEqual.f t125 (t149 ++ y152)).bind fun t160 => (if t160 = true then ((laws_addressAwake.f).bind fun t161 => (some t161)) else (some false))) else (some false))) else (none)))) else (none)) else (none))) else ((impl_AddressesEqual.f t125 t128).bind fun t162 => (if (t162 == x9_3) = true then ((impl_AddressesEqual.f t125 t142).bind fun t163 => (if t163 = true then ((laws_addressAwake.f).bind fun t164 => (some t164)) else (some false))) else (some false)))) = some r := H
                    have A64 := Aside0.mk A640
                    clear A640
                    by_cases c65 : (t125.length : Int) > 0
                    · rw [if_pos c65] at H
                      have c65b0 : decide (0 < (t125.length : Int)) = true := decide_eq_true c65
                      have c65b1 : decide (0 < t125.length) = true := decide_eq_true (by omega)
                      clear c65
                      by_cases c66 : (t125.length : Int) = 0
                      · rw [if_pos c66] at H
                        exact absurd H (by simp)
                      · rw [if_neg c66] at H
                        have c66b0 : ((t125.length : Int) == 0) = false := beq_eq_false_iff_ne.mpr c66
                        have c66b1 : ((t125.length : Int) != 0) = true := bne_iff_ne.mpr c66
                        have c66b2 : ¬ (t125 = []) := fun h_ => c66 (by rw [h_]; rfl)
                        obtain ⟨ji67, hji67⟩ : ∃ j_ : Int, (Int.tmod (wrap64 (a2)) (t125.length : Int)) = j_ := ⟨_, rfl⟩
                        replace H : (if 0 ≤ (ji67) then (if (ji67) ≤ (t125.length : Int) then ((impl_Address.f (t125.drop ((ji67) : Int).toNat)).bind fun t149 => ((some (t125.take ((ji67) : Int).toNat : List (S34))).bind fun y152 => (if t149.length + y152.length < 5864062014805 then ((impl_AddressesEqual.f t125 t128).bind fun t159 => (if (t159 == x9_3) = true then ((impl_AddressesEqual.f t125 (t149 ++ y152)).bind fun t160 => (if t160 = true then ((laws_addressAwake.f).bind fun t161 => (some t161)) else (some false))) else (some false))) else (none)))) else (none)) else (none)) = some r := by first | (rw [hji67] at H; exact H) | (simp only [hji67] at H ⊢; exact H)
                        (try rw [hji67] at A64)
                        by_cases c68 : 0 ≤ (ji67)
                        · rw [if_pos c68] at H
                          have c68b0 := eq_true c68
                          have c68b1 : decide (0 ≤ (ji67)) = true := decide_eq_true c68
                          clear c68
                          by_cases c69 : (ji67) ≤ (t125.length : Int)
                          · rw [if_pos c69] at H
                            have c69b0 := eq_true c69
                            have c69b1 : decide ((ji67) ≤ (t125.length : Int)) = true := decide_eq_true c69
                            clear c69
                            obtain ⟨y145, hy145⟩ : ∃ y_ : List (S34), y_ = (t125.drop ((ji67) : Int).toNat) := ⟨_, rfl⟩
                            replace H : ((impl_Address.f y145).bind fun t149 => ((some (t125.take ((ji67) : Int).toNat : List (S34))).bind fun y152 => (if t149.length + y152.length < 5864062014805 then ((impl_AddressesEqual.f t125 t128).bind fun t159 => (if (t159 == x9_3) = true then ((impl_AddressesEqual.f t125 (t149 ++ y152)).bind fun t160 => (if t160 = true then ((laws_addressAwake.f).bind fun t161 => (some t161)) else (some false))) else (some false))) else (none)))) = some r := by first | (rw [hy145]; with_reducible exact H) | (have H2_ := (Option.bind_some _ _).symm.trans H; rw [hy145]; with_reducible exact H2_) | (have H2_ := (Option.bind_some _ _).symm.trans H; with_reducible exact H2_) | with_reducible exact H | (rw [hy145]; exact H) | exact H
                            have Ny145 := Aside0.mk hy145
                            clear hy145
                            replace H := Option.bind_eq_some_iff.mp H
                            obtain ⟨t149, A700, H⟩ := H
                            replace H : ((some (t125.take ((ji67) : Int).toNat : List (S34))).bind fun y152 => (if t149.length + y152.length < 5864062014805 then ((impl_AddressesEqual.f t125 t128).bind fun t159 => (if (t159 == x9_3) = true then ((impl_AddressesEqual.f t125 (t149 ++ y152)).bind fun t160 => (if t160 = true then ((laws_addressAwake.f).bind fun t161 => (some t161)) else (some false))) else (some false))) else (none))) = some r := H
                            have A70 := Aside0.mk A700
                            clear A700
                            have c71b0 := eq_true (of_decide_eq_true (by first | (with_reducible assumption) | assumption) : 0 ≤ (ji67))
                            have c72b0 := eq_true (of_decide_eq_true (by first | (with_reducible assumption) | assumption) : (ji67) ≤ (t125.length : Int))
                            obtain ⟨y152, hy152⟩ : ∃ y_ : List (S34), y_ = (t125.take ((ji67) : Int).toNat) := ⟨_, rfl⟩
                            replace H : (if t149.length + y152.length < 5864062014805 then ((impl_AddressesEqual.f t125 t128).bind fun t159 => (if (t159 == x9_3) = true then ((impl_AddressesEqual.f t125 (t149 ++ y152)).bind fun t160 => (if t160 = true then ((laws_addressAwake.f).bind fun t161 => (some t161)) else (some false))) else (some false))) else (none)) = some r := by first | (rw [hy152]; with_reducible exact H) | (have H2_ := (Option.bind_some _ _).symm.trans H; rw [hy152]; with_reducible exact H2_) | (have H2_ := (Option.bind_some _ _).symm.trans H; with_reducible exact H2_) | with_reducible exact H | (rw [hy152]; exact H) | exact H
                            have Ny152 := Aside0.mk hy152
                            clear hy152
                            by_cases c73 : t149.length + y152.length < 5864062014805
                            · rw [if_pos c73] at H
                              have LMc73 := Aside0.mk c73
                              clear c73
                              obtain ⟨y156, hy156⟩ : ∃ y_ : List (S34), y_ = (t149 ++ y152) := ⟨_, rfl⟩
                              replace H : ((impl_AddressesEqual.f t125 t128).bind fun t159 => (if (t159 == x9_3) = true then ((impl_AddressesEqual.f t125 y156).bind fun t160 => (if t160 = true then ((laws_addressAwake.f).bind fun t161 => (some t161)) else (some false))) else (some false))) = some r := by first | (rw [hy156]; with_reducible exact H) | (have H2_ := (Option.bind_some _ _).symm.trans H; rw [hy156]; with_reducible exact H2_) | (have H2_ := (Option.bind_some _ _).symm.trans H; with_reducible exact H2_) | with_reducible exact H | (rw [hy156]; exact H) | exact H
                              have Ny156 := Aside0.mk hy156
                              clear hy156
                              replace H := Option.bind_eq_some_iff.mp H
                              obtain ⟨t159, A740, H⟩ := H
                              replace H : (if (t159 == x9_3) = true then ((impl_AddressesEqual.f t125 y156).bind fun t160 => (if t160 = true then ((laws_addressAwake.f).bind fun t161 => (some t161)) else (some false))) else (some false)) = some r := H
                              have A74 := Aside0.mk A740
                              clear A740
                              by_cases c75 : (t159 == x9_3) = true
                              · rw [if_pos c75] at H
                                have c75b0 : (t159 == x9_3) = true := c75
                                (try (have c75b1 : decide (t159 = x9_3) = true := by simpa using c75))
                                (try (have c75b2 : (t159 == x9_3) = true := by simpa using c75))
                                clear c75
                                replace H := Option.bind_eq_some_iff.mp H
                                obtain ⟨t160, A760, H⟩ := H
                                replace H : (if t160 = true then ((laws_addressAwake.f).bind fun t161 => (some t161)) else (some false)) = some r := H
                                have A76 := Aside0.mk A760
                                clear A760
                                by_cases c77 : t160 = true
                                · subst c77
                                  have H1 : ((laws_addressAwake.f).bind fun t161 => (some t161)) = some r := by rw [if_pos rfl] at H; exact H
                                  clear H
                                  have H := H1
                                  clear H1
                                  replace H := Option.bind_eq_some_iff.mp H
                                  obtain ⟨t161, A780, H⟩ := H
                                  replace H : (some t161) = some r := H
                                  have A78 := Aside0.mk A780
                                  clear A780
                                  obtain rfl := Option.some.inj H
                                  try go_wp2_with (first | ((with_reducible refine gate_callee (f := 21) rfl ?_); refine goesL_ (some 95) rfl rfl Try.func21 (by kernel_rfl) rfl #[.slice Ao20 t125.length co20] rfl (by (try simp only [List.map_toArray, List.map_cons, List.map_nil]); first | done | rfl | (simp only [List.length_drop, List.length_take]; rfl)) ?_; (with_reducible refine (impl_Address.calls _ _ t125 t142 _ ?side1 ?side2 A64.out).mono ?_); (case side1 => repeat (first | exact (Kd.R_reads' HO_7.out).2.2 | (with_reducible refine Kd.C_alloc ?_ _) | (with_reducible refine Kd.C_drewN ?_ _) | (with_reducible refine Kd.C_drew ?_))); (case side2 => exact (Kd.R_reads' HO_7.out).2.1); rintro e w79 ⟨v143, rfl, ho0, hb⟩; refine ⟨_, rfl, ?_⟩; have n0_ := Aside0.mk (Kd.R_elder' (by (with_reducible repeat (first | apply Kd.R_alloc | apply Kd.R_drewN | apply Kd.R_drew)); exact HO_7.out) (Kd.R_base ho0) hb); have n1_ := Aside0.mk (Kd.R_elder' (by (with_reducible repeat (first | apply Kd.R_alloc | apply Kd.R_drewN | apply Kd.R_drew)); exact HO_8.out) (Kd.R_base ho0) hb); have n2_ := Aside0.mk (Kd.R_elder' (by (with_reducible repeat (first | apply Kd.R_alloc | apply Kd.R_drewN | apply Kd.R_drew)); exact HO_44.out) (Kd.R_base ho0) hb); have n3_ := Aside0.mk (Kd.R_lower (Kd.R_new' (Kd.R_new' (Kd.R_new' ho0 (Kd.R_lt (by (with_reducible repeat (first | apply Kd.R_alloc | apply Kd.R_drewN | apply Kd.R_drew)); exact HO_7.out))) (Kd.R_lt (by (with_reducible repeat (first | apply Kd.R_alloc | apply Kd.R_drewN | apply Kd.R_drew)); exact HO_8.out))) (Kd.R_lt (by (with_reducible repeat (first | apply Kd.R_alloc | apply Kd.R_drewN | apply Kd.R_drew)); exact HO_44.out))) (below_size (by repeat (first | (with_reducible first | exact HB.out | apply below_alloc | apply pw_below_drewN | apply below_drew1) | exact HB.out)))); have n4_ := Aside0.mk (below_step (by repeat (first | (with_reducible first | exact HB.out | apply below_alloc | apply pw_below_drewN | apply below_drew1) | exact HB.out)) hb); clear HO_7; clear HO_8; clear HO_44; clear HB; have HO_7 := n0_; have HO_8 := n1_; have HO_44 := n2_; have HO144 := n3_; have HB := n4_; clear n0_ n1_ n2_ n3_ n4_; (try clear hb); (try clear hb2); (try clear hk); (try clear hi); (try clear ho0)))
                                  have n0_ := Aside0.mk (Kd.R_drew HO_7.out)
                                  have n1_ := Aside0.mk (Kd.R_drew HO_8.out)
                                  have n2_ := Aside0.mk (Kd.R_drew HO_44.out)
                                  have n3_ := Aside0.mk (Kd.R_drew HO144.out)
                                  have n4_ := Aside0.mk (below_drew1 HB.out)
                                  clear HO_7
                                  clear HO_8
                                  clear HO_44
                                  clear HO144
                                  clear HB
                                  have HO_7 := n0_
                                  have HO_8 := n1_
                                  have HO_44 := n2_
                                  have HO144 := n3_
                                  have HB := n4_
                                  clear n0_ n1_ n2_ n3_ n4_
                                  have q81 : ((ji67) : Int) ≤ ((t125.length : Int) : Int) := of_decide_eq_true (by first | (with_reducible assumption) | assumption)
                                  obtain ⟨i081, hi081, _, hsz81, _⟩ := info_parts info34
                                  have hroom81 : t125.length ≤ co20 := (Kd.R_reads' HO_7.out).2.1
                                  have hC81 : Kd.C k34 _ Ao20 t125.length t125 := (Kd.R_reads' HO_7.out).2.2
                                  have q081 : (0 : Int) ≤ ((ji67) : Int) := of_decide_eq_true (by first | (with_reducible assumption) | assumption)
                                  have hcut81 := cut_from (P := Try.prog) 31 34 .i64 Try.underlying31 hi081 2 hsz81 Ao20 t125.length co20 (ji67) q081 q81
                                  have hr81 := Kd.C_drop (m := ((ji67) : Int).toNat) (c := co20) hC81 (by omega) hroom81
                                  obtain ⟨A81, hA81⟩ : ∃ A1, A1 = (if co20 = ((ji67) : Int).toNat then Ao20 else (Ao20 : Option Addr).map (·.add (((ji67) : Int).toNat * 2))) := ⟨_, rfl⟩
                                  obtain ⟨c81, hc81⟩ : ∃ c1, c1 = co20 - ((ji67) : Int).toNat := ⟨_, rfl⟩
                                  have hy81 : y145.length = t125.length - ((ji67) : Int).toNat := (by rw [Ny145.out, List.length_drop] <;> omega)
                                  rw [show (t125).drop ((ji67) : Int).toNat = y145 from Ny145.out.symm] at hr81
                                  replace hr81 : Kd.C k34 _ A81 y145.length y145 := (by rw [hA81]; exact hr81)
                                  rw [← hy81, ← hA81, ← hc81] at hcut81
                                  have HR148 := Aside0.mk hr81
                                  have HC148 := Aside0.mk (show y145.length ≤ c81 from by rw [hy81, hc81]; exact Nat.sub_le_sub_right hroom81 _)
                                  clear hr81 hC81 hroom81 hi081 hsz81 hc81
                                  have KY81 := Aside0.mk hy81
                                  have KA81 := Aside0.mk hA81
                                  clear hy81 hA81
                                  have KL81 := Aside0.mk (show ((ji67) : Int).toNat ≤ t125.length from by omega)
                                  replace q81 := eq_true q81
                                  have q82 : ((ji67) : Int) ≤ ((t125.length : Int) : Int) := of_decide_eq_true (by first | (with_reducible assumption) | assumption)
                                  obtain ⟨i082, hi082, _, hsz82, _⟩ := info_parts info34
                                  have hroom82 : t125.length ≤ co20 := (Kd.R_reads' HO_7.out).2.1
                                  have hC82 : Kd.C k34 _ Ao20 t125.length t125 := (Kd.R_reads' HO_7.out).2.2
                                  have hcut82 := cut_to (P := Try.prog) 31 34 .i64 Try.underlying31 hi082 Ao20 t125.length co20 (ji67) (of_decide_eq_true (by first | (with_reducible assumption) | assumption)) q82 hroom82
                                  have hr82 := Kd.C_take (m := ((ji67) : Int).toNat) hC82 (by omega)
                                  have hy82 : y152.length = ((ji67) : Int).toNat := (by rw [Ny152.out, List.length_take]; omega)
                                  rw [← Ny152.out] at hr82
                                  rw [← hy82] at hcut82
                                  have HR155 := Aside0.mk hr82
                                  have HC155 := Aside0.mk (show y152.length ≤ co20 from by omega)
                                  clear hr82 hC82 hroom82 hi082 hsz82
                                  have KY82 := Aside0.mk hy82
                                  clear hy82
                                  have KL82 := Aside0.mk (show ((ji67) : Int).toNat ≤ t125.length from by omega)
                                  replace q82 := eq_true q82
                                  refine start_ (n := 9) (S := fun w' => True) (ds := []) #[false, false, false, false, false, false, false, false, false] (by kernel_rfl) rfl rfl trivial (fun hHeld => ?_); refine with_tabW laws_FnAddresses.tab25 laws_FnAddresses.bits25 (fun HT_ HW_ => ?_)
                                  generalize w79.drew = w80 at HO_7 HO_8 HO_44 HO144 HB HR148 HR155 hHeld ⊢
                                  refine pure_ (i := 0) (N := some 104) (v := ?_) (a' := ?_) #[true, false, false, false, false, false, false, false, false] rfl rfl (any_of HT_.out (by kernel_rfl)) (fun _ _ _ h => h) (Or.inl ⟨by rfl, ?_⟩) ?_ ?_
                                  rotate_left
                                  · intro w'
                                    go_simp
                                    with_reducible rfl
                                  rotate_left
                                  · simp only [Act.put, List.setIfInBounds_toArray, List.set_cons_zero, List.set_cons_succ, i64_w, i32_w]
                                    rfl
                                  refine pure_ (i := 1) (N := some 105) (v := ?_) (a' := ?_) #[true, true, false, false, false, false, false, false, false] rfl rfl (any_of HT_.out (by kernel_rfl)) (fun _ _ _ h => h) (Or.inl ⟨by rfl, ?_⟩) ?_ ?_
                                  rotate_left
                                  · intro w'
                                    go_simp
                                    with_reducible rfl
                                  rotate_left
                                  · simp only [Act.put, List.setIfInBounds_toArray, List.set_cons_zero, List.set_cons_succ, i64_w, i32_w]
                                    rfl
                                  refine pure_ (i := 2) (N := some 106) (v := ?_) (a' := ?_) #[true, true, true, false, false, false, false, false, false] rfl rfl (any_of HT_.out (by kernel_rfl)) (fun _ _ _ h => h) (Or.inl ⟨by rfl, ?_⟩) ?_ ?_
                                  rotate_left
                                  · intro w'
                                    go_simp
                                    with_reducible rfl
                                  rotate_left
                                  · simp only [Act.put, List.setIfInBounds_toArray, List.set_cons_zero, List.set_cons_succ, i64_w, i32_w]
                                    rfl
                                  refine pure_ (i := 4) (N := some 108) (v := ?_) (a' := ?_) #[true, true, true, false, true, false, false, false, false] rfl rfl (any_of HT_.out (by kernel_rfl)) (fun _ _ _ h => h) (Or.inl ⟨by rfl, ?_⟩) ?_ ?_
                                  rotate_left
                                  · intro w'
                                    go_simp
                                    with_reducible rfl
                                  rotate_left
                                  · simp only [Act.put, List.setIfInBounds_toArray, List.set_cons_zero, List.set_cons_succ, i64_w, i32_w]
                                    rfl
                                  refine pure_ (i := 5) (N := some 109) (v := ?_) (a' := ?_) #[true, true, true, false, true, true, false, false, false] rfl rfl (any_of HT_.out (by kernel_rfl)) (fun _ _ _ h => h) (Or.inl ⟨by rfl, ?_⟩) ?_ ?_
                                  rotate_left
                                  · intro w'
                                    go_simp
                                    with_reducible rfl
                                  rotate_left
                                  · simp only [Act.put, List.setIfInBounds_toArray, List.set_cons_zero, List.set_cons_succ, i64_w, i32_w]
                                    rfl
                                  refine pure_ (i := 6) (N := some 110) (v := ?_) (a' := ?_) #[true, true, true, false, true, true, true, false, false] rfl rfl (any_of HT_.out (by kernel_rfl)) (fun _ _ _ h => h) (Or.inl ⟨by rfl, ?_⟩) ?_ ?_
                                  rotate_left
                                  · intro w'
                                    go_simp
                                    with_reducible rfl
                                  rotate_left
                                  · simp only [Act.put, List.setIfInBounds_toArray, List.set_cons_zero, List.set_cons_succ, i64_w, i32_w]
                                    rfl
                                  refine one_ (i := 3) (N := some 107) #[true, true, true, true, true, true, true, false, false] rfl rfl (one_of HT_.out (by kernel_rfl)) (by decide) (fun K hK => ?_)
                                  refine goes_ Try.func21 (by kernel_rfl) rfl #[.slice A81 y145.length c81] (by rfl) rfl rfl (by (try simp only [List.map_toArray, List.map_cons, List.map_nil]); first | done | rfl | (simp only [List.length_drop, List.length_take]; rfl)) ?_
                                  with_reducible refine (impl_Address.calls _ _ y145 t149 _ ?side1 ?side2 A70.out).mono ?_
                                  (case side1 => repeat (first | exact (by repeat (first | (with_reducible exact HR148.out) | (with_reducible refine Kd.C_alloc ?_ _) | (with_reducible refine Kd.C_drewN ?_ _) | (with_reducible refine Kd.C_drew ?_) | exact HR148.out)) | (with_reducible refine Kd.C_alloc ?_ _) | (with_reducible refine Kd.C_drewN ?_ _) | (with_reducible refine Kd.C_drew ?_)))
                                  (case side2 => exact HC148.out)
                                  rintro e w83 ⟨v150, rfl, ho0, hb⟩
                                  refine ⟨_, rfl, ?_⟩
                                  have n0_ := Aside0.mk (Kd.R_elder' (by (with_reducible repeat (first | apply Kd.R_alloc | apply Kd.R_drewN | apply Kd.R_drew)); exact HO_7.out) (Kd.R_base ho0) hb)
                                  have n1_ := Aside0.mk (Kd.R_elder' (by (with_reducible repeat (first | apply Kd.R_alloc | apply Kd.R_drewN | apply Kd.R_drew)); exact HO_8.out) (Kd.R_base ho0) hb)
                                  have n2_ := Aside0.mk (Kd.R_elder' (by (with_reducible repeat (first | apply Kd.R_alloc | apply Kd.R_drewN | apply Kd.R_drew)); exact HO_44.out) (Kd.R_base ho0) hb)
                                  have n3_ := Aside0.mk (Kd.R_elder' (by (with_reducible repeat (first | apply Kd.R_alloc | apply Kd.R_drewN | apply Kd.R_drew)); exact HO144.out) (Kd.R_base ho0) hb)
                                  have n4_ := Aside0.mk (Kd.R_lower (Kd.R_new' (Kd.R_new' (Kd.R_new' (Kd.R_new' ho0 (Kd.R_lt (by (with_reducible repeat (first | apply Kd.R_alloc | apply Kd.R_drewN | apply Kd.R_drew)); exact HO_7.out))) (Kd.R_lt (by (with_reducible repeat (first | apply Kd.R_alloc | apply Kd.R_drewN | apply Kd.R_drew)); exact HO_8.out))) (Kd.R_lt (by (with_reducible repeat (first | apply Kd.R_alloc | apply Kd.R_drewN | apply Kd.R_drew)); exact HO_44.out))) (Kd.R_lt (by (with_reducible repeat (first | apply Kd.R_alloc | apply Kd.R_drewN | apply Kd.R_drew)); exact HO144.out))) (below_size (by repeat (first | (with_reducible first | exact HB.out | apply below_alloc | apply pw_below_drewN | apply below_drew1) | exact HB.out))))
                                  have n5_ := Aside0.mk (Kd.C_below (by repeat (first | (with_reducible exact HR148.out) | (with_reducible refine Kd.C_alloc ?_ _) | (with_reducible refine Kd.C_drewN ?_ _) | (with_reducible refine Kd.C_drew ?_) | exact HR148.out)) hb)
                                  have n6_ := Aside0.mk (Kd.C_below (by repeat (first | (with_reducible exact HR155.out) | (with_reducible refine Kd.C_alloc ?_ _) | (with_reducible refine Kd.C_drewN ?_ _) | (with_reducible refine Kd.C_drew ?_) | exact HR155.out)) hb)
                                  have n7_ := Aside0.mk (below_step (by repeat (first | (with_reducible first | exact HB.out | apply below_alloc | apply pw_below_drewN | apply below_drew1) | exact HB.out)) hb)
                                  clear HO_7
                                  clear HO_8
                                  clear HO_44
                                  clear HO144
                                  clear HR148
                                  clear HR155
                                  clear HB
                                  have HO_7 := n0_
                                  have HO_8 := n1_
                                  have HO_44 := n2_
                                  have HO144 := n3_
                                  have HO151 := n4_
                                  have HR148 := n5_
                                  have HR155 := n6_
                                  have HB := n7_
                                  clear n0_ n1_ n2_ n3_ n4_ n5_ n6_ n7_
                                  (try clear hb)
                                  (try clear hb2)
                                  (try clear hk)
                                  (try clear hi)
                                  (try clear ho0)
                                  refine hK.out _ _ trivial (fun hHeld => ?_)
                                  clear hK K
                                  refine norm_ (a' := ?_) ?_ ?_
                                  rotate_left
                                  · show Act.put _ (some 107) _ = _
                                    simp only [Act.put, List.setIfInBounds_toArray, List.set_cons_zero, List.set_cons_succ, i64_w, i32_w]
                                    rfl
                                  refine one_ (i := 7) (N := some 111) #[true, true, true, true, true, true, true, true, false] rfl rfl (one_of HT_.out (by kernel_rfl)) (by decide) (fun K hK => ?_)
                                  refine Kd.R_append_rows_step k34 (w0 := w) w.heap.size (by rfl) (.tmp 107) (.tmp 110) 31 34 (.agg #[(.int .i32 0), (.string ⟨#[]⟩)]) 24 rfl Try.underlying31 info34 rfl (by decide) (by omega) v150 t149 y152 _ _ _ (fun k_ => some k_ ≠ (.slice Ao20 t125.length co20 : Value).ownBlock ∧ some k_ ≠ (v129 : Value).ownBlock ∧ some k_ ≠ (.slice Ao20 t125.length co20 : Value).ownBlock ∧ some k_ ≠ (v143 : Value).ownBlock) (fun _ => False) rfl rfl ?aO ?aR (fun _ _ h => h) (fun _ h => h.elim) ?aF ?aB ?aS ?aL ?_
                                  (case aR => repeat (first | exact (by repeat (first | (with_reducible exact HR155.out) | (with_reducible refine Kd.C_alloc ?_ _) | (with_reducible refine Kd.C_drewN ?_ _) | (with_reducible refine Kd.C_drew ?_) | exact HR155.out)) | (with_reducible refine Kd.C_alloc ?_ _) | (with_reducible refine Kd.C_drewN ?_ _) | (with_reducible refine Kd.C_drew ?_)))
                                  (case aB => exact (by repeat (first | (with_reducible first | exact HB.out | apply below_alloc | apply pw_below_drewN | apply below_drew1) | exact HB.out)))
                                  (case aF => exact (fun k_ hk => ⟨Kd.fresh' (Kd.R_lt (by (with_reducible repeat (first | apply Kd.R_alloc | apply Kd.R_drewN | apply Kd.R_drew)); exact HO_7.out)) k_ hk, Kd.fresh' (Kd.R_lt (by (with_reducible repeat (first | apply Kd.R_alloc | apply Kd.R_drewN | apply Kd.R_drew)); exact HO_8.out)) k_ hk, Kd.fresh' (Kd.R_lt (by (with_reducible repeat (first | apply Kd.R_alloc | apply Kd.R_drewN | apply Kd.R_drew)); exact HO_44.out)) k_ hk, Kd.fresh' (Kd.R_lt (by (with_reducible repeat (first | apply Kd.R_alloc | apply Kd.R_drewN | apply Kd.R_drew)); exact HO144.out)) k_ hk⟩))
                                  (case aO => exact (by (with_reducible repeat (first | apply Kd.R_alloc | apply Kd.R_drewN | apply Kd.R_drew)); exact Kd.R_mono HO151.out (fun _ hk => ⟨hk.1.1.1.2, ⟨hk.1.1.2, ⟨hk.1.2, hk.2⟩⟩⟩)))
                                  (case aS => exact (below_size (by repeat (first | (with_reducible first | exact HB.out | apply below_alloc | apply pw_below_drewN | apply below_drew1) | exact HB.out))))
                                  (case aL => have := LMc73.out; omega)
                                  intro v157 w84 ho hb hg hat
                                  rw [← Ny156.out] at ho
                                  have n0_ := Aside0.mk (Kd.R_after (ok := (fun k_ => some k_ ≠ (v129 : Value).ownBlock ∧ some k_ ≠ (v143 : Value).ownBlock)) (by (with_reducible repeat (first | apply Kd.R_alloc | apply Kd.R_drewN | apply Kd.R_drew)); exact HO_7.out) hg hat)
                                  have n1_ := Aside0.mk (Kd.R_after (ok := (fun k_ => some k_ ≠ (.slice Ao20 t125.length co20 : Value).ownBlock ∧ some k_ ≠ (.slice Ao20 t125.length co20 : Value).ownBlock ∧ some k_ ≠ (v143 : Value).ownBlock)) (by (with_reducible repeat (first | apply Kd.R_alloc | apply Kd.R_drewN | apply Kd.R_drew)); exact Kd.R_mono HO_8.out (fun _ hk => ⟨⟨hk.1.1.1, ⟨hk.1.1.2, hk.1.2⟩⟩, hk.2⟩)) hg hat)
                                  have n2_ := Aside0.mk (Kd.R_after (ok := (fun k_ => some k_ ≠ (v129 : Value).ownBlock ∧ some k_ ≠ (v143 : Value).ownBlock)) (by (with_reducible repeat (first | apply Kd.R_alloc | apply Kd.R_drewN | apply Kd.R_drew)); exact HO_44.out) hg hat)
                                  have n3_ := Aside0.mk (Kd.R_after (ok := (fun k_ => some k_ ≠ (.slice Ao20 t125.length co20 : Value).ownBlock ∧ some k_ ≠ (v129 : Value).ownBlock ∧ some k_ ≠ (.slice Ao20 t125.length co20 : Value).ownBlock)) (by (with_reducible repeat (first | apply Kd.R_alloc | apply Kd.R_drewN | apply Kd.R_drew)); exact Kd.R_mono HO144.out (fun _ hk => ⟨⟨hk.1.1.1.2, ⟨hk.1.1.2, hk.1.2⟩⟩, hk.2⟩)) hg hat)
                                  have n4_ := Aside0.mk (hb)
                                  have n5_ := Aside0.mk ((show Kd.C k34 w84 A81 y145.length y145 from by rw [Ny145.out, KA81.out]; exact Kd.C_drop (m := ((ji67) : Int).toNat) (c := co20) ((Kd.R_reads' (Kd.R_after (ok := (fun k_ => some k_ ≠ (v129 : Value).ownBlock ∧ some k_ ≠ (v143 : Value).ownBlock)) (by (with_reducible repeat (first | apply Kd.R_alloc | apply Kd.R_drewN | apply Kd.R_drew)); exact HO_7.out) hg hat)).2.2) KL81.out ((Kd.R_reads' (Kd.R_after (ok := (fun k_ => some k_ ≠ (v129 : Value).ownBlock ∧ some k_ ≠ (v143 : Value).ownBlock)) (by (with_reducible repeat (first | apply Kd.R_alloc | apply Kd.R_drewN | apply Kd.R_drew)); exact HO_7.out) hg hat)).2.1)))
                                  have n6_ := Aside0.mk ((show Kd.C k34 w84 Ao20 y152.length y152 from by rw [Ny152.out]; exact Kd.C_take (m := ((ji67) : Int).toNat) ((Kd.R_reads' (Kd.R_after (ok := (fun k_ => some k_ ≠ (v129 : Value).ownBlock ∧ some k_ ≠ (v143 : Value).ownBlock)) (by (with_reducible repeat (first | apply Kd.R_alloc | apply Kd.R_drewN | apply Kd.R_drew)); exact HO_7.out) hg hat)).2.2) KL82.out))
                                  have n7_ := Aside0.mk (ho)
                                  clear HO_7
                                  clear HO_8
                                  clear HO_44
                                  clear HO144
                                  clear HB
                                  clear HR148
                                  clear HR155
                                  clear HO151
                                  have HO_7 := n0_
                                  have HO_8 := n1_
                                  have HO_44 := n2_
                                  have HO144 := n3_
                                  have HB := n4_
                                  have HR148 := n5_
                                  have HR155 := n6_
                                  have HO158 := n7_
                                  clear n0_ n1_ n2_ n3_ n4_ n5_ n6_ n7_
                                  clear ho hb hg hat
                                  refine hK.out _ _ trivial (fun hHeld => ?_)
                                  clear hK K
                                  refine norm_ (a' := ?_) ?_ ?_
                                  rotate_left
                                  · show Act.put _ (some 111) _ = _
                                    simp only [Act.put, List.setIfInBounds_toArray, List.set_cons_zero, List.set_cons_succ, i64_w, i32_w]
                                    rfl
                                  refine pure_ (i := 8) (N := some 15) (v := ?_) (a' := ?_) #[true, true, true, true, true, true, true, true, true] rfl rfl (any_of HT_.out (by kernel_rfl)) (fun _ _ _ h => h) (Or.inl ⟨by rfl, ?_⟩) ?_ ?_
                                  rotate_left
                                  · intro w'
                                    go_simp
                                    with_reducible rfl
                                  rotate_left
                                  · simp only [Act.put, List.setIfInBounds_toArray, List.set_cons_zero, List.set_cons_succ, i64_w, i32_w]
                                    rfl
                                  refine done_ (done_of HT_.out (by kernel_rfl)) ?_
                                  obtain ⟨Ao85, co85, eo85⟩ := Kd.R_slice HO_8.out
                                  subst eo85
                                  try go_wp2_with (first | ((with_reducible refine gate_callee (f := 22) rfl ?_); refine goesL_ (some 114) rfl rfl Try.func22 (by kernel_rfl) rfl #[.slice Ao20 t125.length co20, .slice Ao85 t128.length co85] rfl (by (try simp only [List.map_toArray, List.map_cons, List.map_nil]); first | done | rfl | (simp only [List.length_drop, List.length_take]; rfl)) ?_; (with_reducible refine (impl_AddressesEqual.calls _ _ t125 _ _ t128 t159 _ ?side1 ?side2 ?side3 ?side4 A74.out).mono ?_); (case side1 => repeat (first | exact (Kd.R_reads' HO_7.out).2.2 | (with_reducible refine Kd.C_alloc ?_ _) | (with_reducible refine Kd.C_drewN ?_ _) | (with_reducible refine Kd.C_drew ?_))); (case side2 => exact (Kd.R_reads' HO_7.out).2.1); (case side3 => repeat (first | exact (Kd.R_reads' HO_8.out).2.2 | (with_reducible refine Kd.C_alloc ?_ _) | (with_reducible refine Kd.C_drewN ?_ _) | (with_reducible refine Kd.C_drew ?_))); (case side4 => exact (Kd.R_reads' HO_8.out).2.1); rintro e w86 ⟨rfl, hb⟩; refine ⟨_, rfl, ?_⟩; have n0_ := Aside0.mk (Kd.R_below (by (with_reducible repeat (first | apply Kd.R_alloc | apply Kd.R_drewN | apply Kd.R_drew)); exact HO_7.out) hb); have n1_ := Aside0.mk (Kd.R_below (by (with_reducible repeat (first | apply Kd.R_alloc | apply Kd.R_drewN | apply Kd.R_drew)); exact HO_8.out) hb); have n2_ := Aside0.mk (Kd.R_below (by (with_reducible repeat (first | apply Kd.R_alloc | apply Kd.R_drewN | apply Kd.R_drew)); exact HO_44.out) hb); have n3_ := Aside0.mk (Kd.R_below (by (with_reducible repeat (first | apply Kd.R_alloc | apply Kd.R_drewN | apply Kd.R_drew)); exact HO144.out) hb); have n4_ := Aside0.mk (Kd.R_below (by (with_reducible repeat (first | apply Kd.R_alloc | apply Kd.R_drewN | apply Kd.R_drew)); exact HO158.out) hb); have n5_ := Aside0.mk (Kd.C_below (by repeat (first | (with_reducible exact HR148.out) | (with_reducible refine Kd.C_alloc ?_ _) | (with_reducible refine Kd.C_drewN ?_ _) | (with_reducible refine Kd.C_drew ?_) | exact HR148.out)) hb); have n6_ := Aside0.mk (Kd.C_below (by repeat (first | (with_reducible exact HR155.out) | (with_reducible refine Kd.C_alloc ?_ _) | (with_reducible refine Kd.C_drewN ?_ _) | (with_reducible refine Kd.C_drew ?_) | exact HR155.out)) hb); have n7_ := Aside0.mk (below_step (by repeat (first | (with_reducible first | exact HB.out | apply below_alloc | apply pw_below_drewN | apply below_drew1) | exact HB.out)) hb); clear HO_7; clear HO_8; clear HO_44; clear HO144; clear HO158; clear HR148; clear HR155; clear HB; have HO_7 := n0_; have HO_8 := n1_; have HO_44 := n2_; have HO144 := n3_; have HO158 := n4_; have HR148 := n5_; have HR155 := n6_; have HB := n7_; clear n0_ n1_ n2_ n3_ n4_ n5_ n6_ n7_; (try clear hb); (try clear hb2); (try clear hk); (try clear hi); obtain ⟨Ao87, co87, eo87⟩ := Kd.R_slice HO158.out; subst eo87) | (go_at_call 22; (with_reducible refine (impl_AddressesEqual.calls _ _ t125 _ _ y156 true _ ?side1 ?side2 ?side3 ?side4 A76.out).mono ?_); (case side1 => repeat (first | exact (Kd.R_reads' HO_7.out).2.2 | (with_reducible refine Kd.C_alloc ?_ _) | (with_reducible refine Kd.C_drewN ?_ _) | (with_reducible refine Kd.C_drew ?_))); (case side2 => exact (Kd.R_reads' HO_7.out).2.1); (case side3 => repeat (first | exact (Kd.R_reads' HO158.out).2.2 | (with_reducible refine Kd.C_alloc ?_ _) | (with_reducible refine Kd.C_drewN ?_ _) | (with_reducible refine Kd.C_drew ?_))); (case side4 => exact (Kd.R_reads' HO158.out).2.1); rintro e w88 ⟨rfl, hb⟩; have n0_ := Aside0.mk (Kd.R_below (by (with_reducible repeat (first | apply Kd.R_alloc | apply Kd.R_drewN | apply Kd.R_drew)); exact HO_7.out) hb); have n1_ := Aside0.mk (Kd.R_below (by (with_reducible repeat (first | apply Kd.R_alloc | apply Kd.R_drewN | apply Kd.R_drew)); exact HO_8.out) hb); have n2_ := Aside0.mk (Kd.R_below (by (with_reducible repeat (first | apply Kd.R_alloc | apply Kd.R_drewN | apply Kd.R_drew)); exact HO_44.out) hb); have n3_ := Aside0.mk (Kd.R_below (by (with_reducible repeat (first | apply Kd.R_alloc | apply Kd.R_drewN | apply Kd.R_drew)); exact HO144.out) hb); have n4_ := Aside0.mk (Kd.R_below (by (with_reducible repeat (first | apply Kd.R_alloc | apply Kd.R_drewN | apply Kd.R_drew)); exact HO158.out) hb); have n5_ := Aside0.mk (Kd.C_below (by repeat (first | (with_reducible exact HR148.out) | (with_reducible refine Kd.C_alloc ?_ _) | (with_reducible refine Kd.C_drewN ?_ _) | (with_reducible refine Kd.C_drew ?_) | exact HR148.out)) hb); have n6_ := Aside0.mk (Kd.C_below (by repeat (first | (with_reducible exact HR155.out) | (with_reducible refine Kd.C_alloc ?_ _) | (with_reducible refine Kd.C_drewN ?_ _) | (with_reducible refine Kd.C_drew ?_) | exact HR155.out)) hb); have n7_ := Aside0.mk (below_step (by repeat (first | (with_reducible first | exact HB.out | apply below_alloc | apply pw_below_drewN | apply below_drew1) | exact HB.out)) hb); clear HO_7; clear HO_8; clear HO_44; clear HO144; clear HO158; clear HR148; clear HR155; clear HB; have HO_7 := n0_; have HO_8 := n1_; have HO_44 := n2_; have HO144 := n3_; have HO158 := n4_; have HR148 := n5_; have HR155 := n6_; have HB := n7_; clear n0_ n1_ n2_ n3_ n4_ n5_ n6_ n7_; (try clear hb); (try clear hb2); (try clear hk); (try clear hi)) | (go_at_call 16; (with_reducible refine (laws_addressAwake.calls  t161 _ A78.out).mono ?_); rintro e w89 ⟨rfl, hb⟩; have n0_ := Aside0.mk (Kd.R_below (by (with_reducible repeat (first | apply Kd.R_alloc | apply Kd.R_drewN | apply Kd.R_drew)); exact HO_7.out) hb); have n1_ := Aside0.mk (Kd.R_below (by (with_reducible repeat (first | apply Kd.R_alloc | apply Kd.R_drewN | apply Kd.R_drew)); exact HO_8.out) hb); have n2_ := Aside0.mk (Kd.R_below (by (with_reducible repeat (first | apply Kd.R_alloc | apply Kd.R_drewN | apply Kd.R_drew)); exact HO_44.out) hb); have n3_ := Aside0.mk (Kd.R_below (by (with_reducible repeat (first | apply Kd.R_alloc | apply Kd.R_drewN | apply Kd.R_drew)); exact HO144.out) hb); have n4_ := Aside0.mk (Kd.R_below (by (with_reducible repeat (first | apply Kd.R_alloc | apply Kd.R_drewN | apply Kd.R_drew)); exact HO158.out) hb); have n5_ := Aside0.mk (Kd.C_below (by repeat (first | (with_reducible exact HR148.out) | (with_reducible refine Kd.C_alloc ?_ _) | (with_reducible refine Kd.C_drewN ?_ _) | (with_reducible refine Kd.C_drew ?_) | exact HR148.out)) hb); have n6_ := Aside0.mk (Kd.C_below (by repeat (first | (with_reducible exact HR155.out) | (with_reducible refine Kd.C_alloc ?_ _) | (with_reducible refine Kd.C_drewN ?_ _) | (with_reducible refine Kd.C_drew ?_) | exact HR155.out)) hb); have n7_ := Aside0.mk (below_step (by repeat (first | (with_reducible first | exact HB.out | apply below_alloc | apply pw_below_drewN | apply below_drew1) | exact HB.out)) hb); clear HO_7; clear HO_8; clear HO_44; clear HO144; clear HO158; clear HR148; clear HR155; clear HB; have HO_7 := n0_; have HO_8 := n1_; have HO_44 := n2_; have HO144 := n3_; have HO158 := n4_; have HR148 := n5_; have HR155 := n6_; have HB := n7_; clear n0_ n1_ n2_ n3_ n4_ n5_ n6_ n7_; (try clear hb); (try clear hb2); (try clear hk); (try clear hi)))
                                  go_ret
                                  exact ⟨by first | rfl | (simp [errW_none, errW_some] <;> rfl) | (simp only [← hji67]; first | rfl | (simp [errW_none, errW_some] <;> rfl)) | (simp [*, errW_none, errW_some] <;> rfl), by repeat (first | (with_reducible first | exact HB.out | apply below_alloc | apply pw_below_drewN | apply below_drew1) | exact HB.out)⟩
                                · replace c77 := Bool.eq_false_iff.mpr c77
                                  subst c77
                                  have H1 : (some false) = some r := by rw [if_neg (show ¬ (false = true) by decide)] at H; exact H
                                  clear H
                                  have H := H1
                                  clear H1
                                  obtain rfl := Option.some.inj H
                                  try go_wp2_with (first | ((with_reducible refine gate_callee (f := 21) rfl ?_); refine goesL_ (some 95) rfl rfl Try.func21 (by kernel_rfl) rfl #[.slice Ao20 t125.length co20] rfl (by (try simp only [List.map_toArray, List.map_cons, List.map_nil]); first | done | rfl | (simp only [List.length_drop, List.length_take]; rfl)) ?_; (with_reducible refine (impl_Address.calls _ _ t125 t142 _ ?side1 ?side2 A64.out).mono ?_); (case side1 => repeat (first | exact (Kd.R_reads' HO_7.out).2.2 | (with_reducible refine Kd.C_alloc ?_ _) | (with_reducible refine Kd.C_drewN ?_ _) | (with_reducible refine Kd.C_drew ?_))); (case side2 => exact (Kd.R_reads' HO_7.out).2.1); rintro e w90 ⟨v143, rfl, ho0, hb⟩; refine ⟨_, rfl, ?_⟩; have n0_ := Aside0.mk (Kd.R_elder' (by (with_reducible repeat (first | apply Kd.R_alloc | apply Kd.R_drewN | apply Kd.R_drew)); exact HO_7.out) (Kd.R_base ho0) hb); have n1_ := Aside0.mk (Kd.R_elder' (by (with_reducible repeat (first | apply Kd.R_alloc | apply Kd.R_drewN | apply Kd.R_drew)); exact HO_8.out) (Kd.R_base ho0) hb); have n2_ := Aside0.mk (Kd.R_elder' (by (with_reducible repeat (first | apply Kd.R_alloc | apply Kd.R_drewN | apply Kd.R_drew)); exact HO_44.out) (Kd.R_base ho0) hb); have n3_ := Aside0.mk (Kd.R_lower (Kd.R_new' (Kd.R_new' (Kd.R_new' ho0 (Kd.R_lt (by (with_reducible repeat (first | apply Kd.R_alloc | apply Kd.R_drewN | apply Kd.R_drew)); exact HO_7.out))) (Kd.R_lt (by (with_reducible repeat (first | apply Kd.R_alloc | apply Kd.R_drewN | apply Kd.R_drew)); exact HO_8.out))) (Kd.R_lt (by (with_reducible repeat (first | apply Kd.R_alloc | apply Kd.R_drewN | apply Kd.R_drew)); exact HO_44.out))) (below_size (by repeat (first | (with_reducible first | exact HB.out | apply below_alloc | apply pw_below_drewN | apply below_drew1) | exact HB.out)))); have n4_ := Aside0.mk (below_step (by repeat (first | (with_reducible first | exact HB.out | apply below_alloc | apply pw_below_drewN | apply below_drew1) | exact HB.out)) hb); clear HO_7; clear HO_8; clear HO_44; clear HB; have HO_7 := n0_; have HO_8 := n1_; have HO_44 := n2_; have HO144 := n3_; have HB := n4_; clear n0_ n1_ n2_ n3_ n4_; (try clear hb); (try clear hb2); (try clear hk); (try clear hi); (try clear ho0)))
                                  have n0_ := Aside0.mk (Kd.R_drew HO_7.out)
                                  have n1_ := Aside0.mk (Kd.R_drew HO_8.out)
                                  have n2_ := Aside0.mk (Kd.R_drew HO_44.out)
                                  have n3_ := Aside0.mk (Kd.R_drew HO144.out)
                                  have n4_ := Aside0.mk (below_drew1 HB.out)
                                  clear HO_7
                                  clear HO_8
                                  clear HO_44
                                  clear HO144
                                  clear HB
                                  have HO_7 := n0_
                                  have HO_8 := n1_
                                  have HO_44 := n2_
                                  have HO144 := n3_
                                  have HB := n4_
                                  clear n0_ n1_ n2_ n3_ n4_
                                  have q92 : ((ji67) : Int) ≤ ((t125.length : Int) : Int) := of_decide_eq_true (by first | (with_reducible assumption) | assumption)
                                  obtain ⟨i092, hi092, _, hsz92, _⟩ := info_parts info34
                                  have hroom92 : t125.length ≤ co20 := (Kd.R_reads' HO_7.out).2.1
                                  have hC92 : Kd.C k34 _ Ao20 t125.length t125 := (Kd.R_reads' HO_7.out).2.2
                                  have q092 : (0 : Int) ≤ ((ji67) : Int) := of_decide_eq_true (by first | (with_reducible assumption) | assumption)
                                  have hcut92 := cut_from (P := Try.prog) 31 34 .i64 Try.underlying31 hi092 2 hsz92 Ao20 t125.length co20 (ji67) q092 q92
                                  have hr92 := Kd.C_drop (m := ((ji67) : Int).toNat) (c := co20) hC92 (by omega) hroom92
                                  obtain ⟨A92, hA92⟩ : ∃ A1, A1 = (if co20 = ((ji67) : Int).toNat then Ao20 else (Ao20 : Option Addr).map (·.add (((ji67) : Int).toNat * 2))) := ⟨_, rfl⟩
                                  obtain ⟨c92, hc92⟩ : ∃ c1, c1 = co20 - ((ji67) : Int).toNat := ⟨_, rfl⟩
                                  have hy92 : y145.length = t125.length - ((ji67) : Int).toNat := (by rw [Ny145.out, List.length_drop] <;> omega)
                                  rw [show (t125).drop ((ji67) : Int).toNat = y145 from Ny145.out.symm] at hr92
                                  replace hr92 : Kd.C k34 _ A92 y145.length y145 := (by rw [hA92]; exact hr92)
                                  rw [← hy92, ← hA92, ← hc92] at hcut92
                                  have HR148 := Aside0.mk hr92
                                  have HC148 := Aside0.mk (show y145.length ≤ c92 from by rw [hy92, hc92]; exact Nat.sub_le_sub_right hroom92 _)
                                  clear hr92 hC92 hroom92 hi092 hsz92 hc92
                                  have KY92 := Aside0.mk hy92
                                  have KA92 := Aside0.mk hA92
                                  clear hy92 hA92
                                  have KL92 := Aside0.mk (show ((ji67) : Int).toNat ≤ t125.length from by omega)
                                  replace q92 := eq_true q92
                                  have q93 : ((ji67) : Int) ≤ ((t125.length : Int) : Int) := of_decide_eq_true (by first | (with_reducible assumption) | assumption)
                                  obtain ⟨i093, hi093, _, hsz93, _⟩ := info_parts info34
                                  have hroom93 : t125.length ≤ co20 := (Kd.R_reads' HO_7.out).2.1
                                  have hC93 : Kd.C k34 _ Ao20 t125.length t125 := (Kd.R_reads' HO_7.out).2.2
                                  have hcut93 := cut_to (P := Try.prog) 31 34 .i64 Try.underlying31 hi093 Ao20 t125.length co20 (ji67) (of_decide_eq_true (by first | (with_reducible assumption) | assumption)) q93 hroom93
                                  have hr93 := Kd.C_take (m := ((ji67) : Int).toNat) hC93 (by omega)
                                  have hy93 : y152.length = ((ji67) : Int).toNat := (by rw [Ny152.out, List.length_take]; omega)
                                  rw [← Ny152.out] at hr93
                                  rw [← hy93] at hcut93
                                  have HR155 := Aside0.mk hr93
                                  have HC155 := Aside0.mk (show y152.length ≤ co20 from by omega)
                                  clear hr93 hC93 hroom93 hi093 hsz93
                                  have KY93 := Aside0.mk hy93
                                  clear hy93
                                  have KL93 := Aside0.mk (show ((ji67) : Int).toNat ≤ t125.length from by omega)
                                  replace q93 := eq_true q93
                                  refine start_ (n := 9) (S := fun w' => True) (ds := []) #[false, false, false, false, false, false, false, false, false] (by kernel_rfl) rfl rfl trivial (fun hHeld => ?_); refine with_tabW laws_FnAddresses.tab25 laws_FnAddresses.bits25 (fun HT_ HW_ => ?_)
                                  generalize w90.drew = w91 at HO_7 HO_8 HO_44 HO144 HB HR148 HR155 hHeld ⊢
                                  refine pure_ (i := 0) (N := some 104) (v := ?_) (a' := ?_) #[true, false, false, false, false, false, false, false, false] rfl rfl (any_of HT_.out (by kernel_rfl)) (fun _ _ _ h => h) (Or.inl ⟨by rfl, ?_⟩) ?_ ?_
                                  rotate_left
                                  · intro w'
                                    go_simp
                                    with_reducible rfl
                                  rotate_left
                                  · simp only [Act.put, List.setIfInBounds_toArray, List.set_cons_zero, List.set_cons_succ, i64_w, i32_w]
                                    rfl
                                  refine pure_ (i := 1) (N := some 105) (v := ?_) (a' := ?_) #[true, true, false, false, false, false, false, false, false] rfl rfl (any_of HT_.out (by kernel_rfl)) (fun _ _ _ h => h) (Or.inl ⟨by rfl, ?_⟩) ?_ ?_
                                  rotate_left
                                  · intro w'
                                    go_simp
                                    with_reducible rfl
                                  rotate_left
                                  · simp only [Act.put, List.setIfInBounds_toArray, List.set_cons_zero, List.set_cons_succ, i64_w, i32_w]
                                    rfl
                                  refine pure_ (i := 2) (N := some 106) (v := ?_) (a' := ?_) #[true, true, true, false, false, false, false, false, false] rfl rfl (any_of HT_.out (by kernel_rfl)) (fun _ _ _ h => h) (Or.inl ⟨by rfl, ?_⟩) ?_ ?_
                                  rotate_left
                                  · intro w'
                                    go_simp
                                    with_reducible rfl
                                  rotate_left
                                  · simp only [Act.put, List.setIfInBounds_toArray, List.set_cons_zero, List.set_cons_succ, i64_w, i32_w]
                                    rfl
                                  refine pure_ (i := 4) (N := some 108) (v := ?_) (a' := ?_) #[true, true, true, false, true, false, false, false, false] rfl rfl (any_of HT_.out (by kernel_rfl)) (fun _ _ _ h => h) (Or.inl ⟨by rfl, ?_⟩) ?_ ?_
                                  rotate_left
                                  · intro w'
                                    go_simp
                                    with_reducible rfl
                                  rotate_left
                                  · simp only [Act.put, List.setIfInBounds_toArray, List.set_cons_zero, List.set_cons_succ, i64_w, i32_w]
                                    rfl
                                  refine pure_ (i := 5) (N := some 109) (v := ?_) (a' := ?_) #[true, true, true, false, true, true, false, false, false] rfl rfl (any_of HT_.out (by kernel_rfl)) (fun _ _ _ h => h) (Or.inl ⟨by rfl, ?_⟩) ?_ ?_
                                  rotate_left
                                  · intro w'
                                    go_simp
                                    with_reducible rfl
                                  rotate_left
                                  · simp only [Act.put, List.setIfInBounds_toArray, List.set_cons_zero, List.set_cons_succ, i64_w, i32_w]
                                    rfl
                                  refine pure_ (i := 6) (N := some 110) (v := ?_) (a' := ?_) #[true, true, true, false, true, true, true, false, false] rfl rfl (any_of HT_.out (by kernel_rfl)) (fun _ _ _ h => h) (Or.inl ⟨by rfl, ?_⟩) ?_ ?_
                                  rotate_left
                                  · intro w'
                                    go_simp
                                    with_reducible rfl
                                  rotate_left
                                  · simp only [Act.put, List.setIfInBounds_toArray, List.set_cons_zero, List.set_cons_succ, i64_w, i32_w]
                                    rfl
                                  refine one_ (i := 3) (N := some 107) #[true, true, true, true, true, true, true, false, false] rfl rfl (one_of HT_.out (by kernel_rfl)) (by decide) (fun K hK => ?_)
                                  refine goes_ Try.func21 (by kernel_rfl) rfl #[.slice A92 y145.length c92] (by rfl) rfl rfl (by (try simp only [List.map_toArray, List.map_cons, List.map_nil]); first | done | rfl | (simp only [List.length_drop, List.length_take]; rfl)) ?_
                                  with_reducible refine (impl_Address.calls _ _ y145 t149 _ ?side1 ?side2 A70.out).mono ?_
                                  (case side1 => repeat (first | exact (by repeat (first | (with_reducible exact HR148.out) | (with_reducible refine Kd.C_alloc ?_ _) | (with_reducible refine Kd.C_drewN ?_ _) | (with_reducible refine Kd.C_drew ?_) | exact HR148.out)) | (with_reducible refine Kd.C_alloc ?_ _) | (with_reducible refine Kd.C_drewN ?_ _) | (with_reducible refine Kd.C_drew ?_)))
                                  (case side2 => exact HC148.out)
                                  rintro e w94 ⟨v150, rfl, ho0, hb⟩
                                  refine ⟨_, rfl, ?_⟩
                                  have n0_ := Aside0.mk (Kd.R_elder' (by (with_reducible repeat (first | apply Kd.R_alloc | apply Kd.R_drewN | apply Kd.R_drew)); exact HO_7.out) (Kd.R_base ho0) hb)
                                  have n1_ := Aside0.mk (Kd.R_elder' (by (with_reducible repeat (first | apply Kd.R_alloc | apply Kd.R_drewN | apply Kd.R_drew)); exact HO_8.out) (Kd.R_base ho0) hb)
                                  have n2_ := Aside0.mk (Kd.R_elder' (by (with_reducible repeat (first | apply Kd.R_alloc | apply Kd.R_drewN | apply Kd.R_drew)); exact HO_44.out) (Kd.R_base ho0) hb)
                                  have n3_ := Aside0.mk (Kd.R_elder' (by (with_reducible repeat (first | apply Kd.R_alloc | apply Kd.R_drewN | apply Kd.R_drew)); exact HO144.out) (Kd.R_base ho0) hb)
                                  have n4_ := Aside0.mk (Kd.R_lower (Kd.R_new' (Kd.R_new' (Kd.R_new' (Kd.R_new' ho0 (Kd.R_lt (by (with_reducible repeat (first | apply Kd.R_alloc | apply Kd.R_drewN | apply Kd.R_drew)); exact HO_7.out))) (Kd.R_lt (by (with_reducible repeat (first | apply Kd.R_alloc | apply Kd.R_drewN | apply Kd.R_drew)); exact HO_8.out))) (Kd.R_lt (by (with_reducible repeat (first | apply Kd.R_alloc | apply Kd.R_drewN | apply Kd.R_drew)); exact HO_44.out))) (Kd.R_lt (by (with_reducible repeat (first | apply Kd.R_alloc | apply Kd.R_drewN | apply Kd.R_drew)); exact HO144.out))) (below_size (by repeat (first | (with_reducible first | exact HB.out | apply below_alloc | apply pw_below_drewN | apply below_drew1) | exact HB.out))))
                                  have n5_ := Aside0.mk (Kd.C_below (by repeat (first | (with_reducible exact HR148.out) | (with_reducible refine Kd.C_alloc ?_ _) | (with_reducible refine Kd.C_drewN ?_ _) | (with_reducible refine Kd.C_drew ?_) | exact HR148.out)) hb)
                                  have n6_ := Aside0.mk (Kd.C_below (by repeat (first | (with_reducible exact HR155.out) | (with_reducible refine Kd.C_alloc ?_ _) | (with_reducible refine Kd.C_drewN ?_ _) | (with_reducible refine Kd.C_drew ?_) | exact HR155.out)) hb)
                                  have n7_ := Aside0.mk (below_step (by repeat (first | (with_reducible first | exact HB.out | apply below_alloc | apply pw_below_drewN | apply below_drew1) | exact HB.out)) hb)
                                  clear HO_7
                                  clear HO_8
                                  clear HO_44
                                  clear HO144
                                  clear HR148
                                  clear HR155
                                  clear HB
                                  have HO_7 := n0_
                                  have HO_8 := n1_
                                  have HO_44 := n2_
                                  have HO144 := n3_
                                  have HO151 := n4_
                                  have HR148 := n5_
                                  have HR155 := n6_
                                  have HB := n7_
                                  clear n0_ n1_ n2_ n3_ n4_ n5_ n6_ n7_
                                  (try clear hb)
                                  (try clear hb2)
                                  (try clear hk)
                                  (try clear hi)
                                  (try clear ho0)
                                  refine hK.out _ _ trivial (fun hHeld => ?_)
                                  clear hK K
                                  refine norm_ (a' := ?_) ?_ ?_
                                  rotate_left
                                  · show Act.put _ (some 107) _ = _
                                    simp only [Act.put, List.setIfInBounds_toArray, List.set_cons_zero, List.set_cons_succ, i64_w, i32_w]
                                    rfl
                                  refine one_ (i := 7) (N := some 111) #[true, true, true, true, true, true, true, true, false] rfl rfl (one_of HT_.out (by kernel_rfl)) (by decide) (fun K hK => ?_)
                                  refine Kd.R_append_rows_step k34 (w0 := w) w.heap.size (by rfl) (.tmp 107) (.tmp 110) 31 34 (.agg #[(.int .i32 0), (.string ⟨#[]⟩)]) 24 rfl Try.underlying31 info34 rfl (by decide) (by omega) v150 t149 y152 _ _ _ (fun k_ => some k_ ≠ (.slice Ao20 t125.length co20 : Value).ownBlock ∧ some k_ ≠ (v129 : Value).ownBlock ∧ some k_ ≠ (.slice Ao20 t125.length co20 : Value).ownBlock ∧ some k_ ≠ (v143 : Value).ownBlock) (fun _ => False) rfl rfl ?aO ?aR (fun _ _ h => h) (fun _ h => h.elim) ?aF ?aB ?aS ?aL ?_
                                  (case aR => repeat (first | exact (by repeat (first | (with_reducible exact HR155.out) | (with_reducible refine Kd.C_alloc ?_ _) | (with_reducible refine Kd.C_drewN ?_ _) | (with_reducible refine Kd.C_drew ?_) | exact HR155.out)) | (with_reducible refine Kd.C_alloc ?_ _) | (with_reducible refine Kd.C_drewN ?_ _) | (with_reducible refine Kd.C_drew ?_)))
                                  (case aB => exact (by repeat (first | (with_reducible first | exact HB.out | apply below_alloc | apply pw_below_drewN | apply below_drew1) | exact HB.out)))
                                  (case aF => exact (fun k_ hk => ⟨Kd.fresh' (Kd.R_lt (by (with_reducible repeat (first | apply Kd.R_alloc | apply Kd.R_drewN | apply Kd.R_drew)); exact HO_7.out)) k_ hk, Kd.fresh' (Kd.R_lt (by (with_reducible repeat (first | apply Kd.R_alloc | apply Kd.R_drewN | apply Kd.R_drew)); exact HO_8.out)) k_ hk, Kd.fresh' (Kd.R_lt (by (with_reducible repeat (first | apply Kd.R_alloc | apply Kd.R_drewN | apply Kd.R_drew)); exact HO_44.out)) k_ hk, Kd.fresh' (Kd.R_lt (by (with_reducible repeat (first | apply Kd.R_alloc | apply Kd.R_drewN | apply Kd.R_drew)); exact HO144.out)) k_ hk⟩))
                                  (case aO => exact (by (with_reducible repeat (first | apply Kd.R_alloc | apply Kd.R_drewN | apply Kd.R_drew)); exact Kd.R_mono HO151.out (fun _ hk => ⟨hk.1.1.1.2, ⟨hk.1.1.2, ⟨hk.1.2, hk.2⟩⟩⟩)))
                                  (case aS => exact (below_size (by repeat (first | (with_reducible first | exact HB.out | apply below_alloc | apply pw_below_drewN | apply below_drew1) | exact HB.out))))
                                  (case aL => have := LMc73.out; omega)
                                  intro v157 w95 ho hb hg hat
                                  rw [← Ny156.out] at ho
                                  have n0_ := Aside0.mk (Kd.R_after (ok := (fun k_ => some k_ ≠ (v129 : Value).ownBlock ∧ some k_ ≠ (v143 : Value).ownBlock)) (by (with_reducible repeat (first | apply Kd.R_alloc | apply Kd.R_drewN | apply Kd.R_drew)); exact HO_7.out) hg hat)
                                  have n1_ := Aside0.mk (Kd.R_after (ok := (fun k_ => some k_ ≠ (.slice Ao20 t125.length co20 : Value).ownBlock ∧ some k_ ≠ (.slice Ao20 t125.length co20 : Value).ownBlock ∧ some k_ ≠ (v143 : Value).ownBlock)) (by (with_reducible repeat (first | apply Kd.R_alloc | apply Kd.R_drewN | apply Kd.R_drew)); exact Kd.R_mono HO_8.out (fun _ hk => ⟨⟨hk.1.1.1, ⟨hk.1.1.2, hk.1.2⟩⟩, hk.2⟩)) hg hat)
                                  have n2_ := Aside0.mk (Kd.R_after (ok := (fun k_ => some k_ ≠ (v129 : Value).ownBlock ∧ some k_ ≠ (v143 : Value).ownBlock)) (by (with_reducible repeat (first | apply Kd.R_alloc | apply Kd.R_drewN | apply Kd.R_drew)); exact HO_44.out) hg hat)
                                  have n3_ := Aside0.mk (Kd.R_after (ok := (fun k_ => some k_ ≠ (.slice Ao20 t125.length co20 : Value).ownBlock ∧ some k_ ≠ (v129 : Value).ownBlock ∧ some k_ ≠ (.slice Ao20 t125.length co20 : Value).ownBlock)) (by (with_reducible repeat (first | apply Kd.R_alloc | apply Kd.R_drewN | apply Kd.R_drew)); exact Kd.R_mono HO144.out (fun _ hk => ⟨⟨hk.1.1.1.2, ⟨hk.1.1.2, hk.1.2⟩⟩, hk.2⟩)) hg hat)
                                  have n4_ := Aside0.mk (hb)
                                  have n5_ := Aside0.mk ((show Kd.C k34 w95 A92 y145.length y145 from by rw [Ny145.out, KA92.out]; exact Kd.C_drop (m := ((ji67) : Int).toNat) (c := co20) ((Kd.R_reads' (Kd.R_after (ok := (fun k_ => some k_ ≠ (v129 : Value).ownBlock ∧ some k_ ≠ (v143 : Value).ownBlock)) (by (with_reducible repeat (first | apply Kd.R_alloc | apply Kd.R_drewN | apply Kd.R_drew)); exact HO_7.out) hg hat)).2.2) KL92.out ((Kd.R_reads' (Kd.R_after (ok := (fun k_ => some k_ ≠ (v129 : Value).ownBlock ∧ some k_ ≠ (v143 : Value).ownBlock)) (by (with_reducible repeat (first | apply Kd.R_alloc | apply Kd.R_drewN | apply Kd.R_drew)); exact HO_7.out) hg hat)).2.1)))
                                  have n6_ := Aside0.mk ((show Kd.C k34 w95 Ao20 y152.length y152 from by rw [Ny152.out]; exact Kd.C_take (m := ((ji67) : Int).toNat) ((Kd.R_reads' (Kd.R_after (ok := (fun k_ => some k_ ≠ (v129 : Value).ownBlock ∧ some k_ ≠ (v143 : Value).ownBlock)) (by (with_reducible repeat (first | apply Kd.R_alloc | apply Kd.R_drewN | apply Kd.R_drew)); exact HO_7.out) hg hat)).2.2) KL93.out))
                                  have n7_ := Aside0.mk (ho)
                                  clear HO_7
                                  clear HO_8
                                  clear HO_44
                                  clear HO144
                                  clear HB
                                  clear HR148
                                  clear HR155
                                  clear HO151
                                  have HO_7 := n0_
                                  have HO_8 := n1_
                                  have HO_44 := n2_
                                  have HO144 := n3_
                                  have HB := n4_
                                  have HR148 := n5_
                                  have HR155 := n6_
                                  have HO158 := n7_
                                  clear n0_ n1_ n2_ n3_ n4_ n5_ n6_ n7_
                                  clear ho hb hg hat
                                  refine hK.out _ _ trivial (fun hHeld => ?_)
                                  clear hK K
                                  refine norm_ (a' := ?_) ?_ ?_
                                  rotate_left
                                  · show Act.put _ (some 111) _ = _
                                    simp only [Act.put, List.setIfInBounds_toArray, List.set_cons_zero, List.set_cons_succ, i64_w, i32_w]
                                    rfl
                                  refine pure_ (i := 8) (N := some 15) (v := ?_) (a' := ?_) #[true, true, true, true, true, true, true, true, true] rfl rfl (any_of HT_.out (by kernel_rfl)) (fun _ _ _ h => h) (Or.inl ⟨by rfl, ?_⟩) ?_ ?_
                                  rotate_left
                                  · intro w'
                                    go_simp
                                    with_reducible rfl
                                  rotate_left
                                  · simp only [Act.put, List.setIfInBounds_toArray, List.set_cons_zero, List.set_cons_succ, i64_w, i32_w]
                                    rfl
                                  refine done_ (done_of HT_.out (by kernel_rfl)) ?_
                                  obtain ⟨Ao96, co96, eo96⟩ := Kd.R_slice HO_8.out
                                  subst eo96
                                  try go_wp2_with (first | ((with_reducible refine gate_callee (f := 22) rfl ?_); refine goesL_ (some 114) rfl rfl Try.func22 (by kernel_rfl) rfl #[.slice Ao20 t125.length co20, .slice Ao96 t128.length co96] rfl (by (try simp only [List.map_toArray, List.map_cons, List.map_nil]); first | done | rfl | (simp only [List.length_drop, List.length_take]; rfl)) ?_; (with_reducible refine (impl_AddressesEqual.calls _ _ t125 _ _ t128 t159 _ ?side1 ?side2 ?side3 ?side4 A74.out).mono ?_); (case side1 => repeat (first | exact (Kd.R_reads' HO_7.out).2.2 | (with_reducible refine Kd.C_alloc ?_ _) | (with_reducible refine Kd.C_drewN ?_ _) | (with_reducible refine Kd.C_drew ?_))); (case side2 => exact (Kd.R_reads' HO_7.out).2.1); (case side3 => repeat (first | exact (Kd.R_reads' HO_8.out).2.2 | (with_reducible refine Kd.C_alloc ?_ _) | (with_reducible refine Kd.C_drewN ?_ _) | (with_reducible refine Kd.C_drew ?_))); (case side4 => exact (Kd.R_reads' HO_8.out).2.1); rintro e w97 ⟨rfl, hb⟩; refine ⟨_, rfl, ?_⟩; have n0_ := Aside0.mk (Kd.R_below (by (with_reducible repeat (first | apply Kd.R_alloc | apply Kd.R_drewN | apply Kd.R_drew)); exact HO_7.out) hb); have n1_ := Aside0.mk (Kd.R_below (by (with_reducible repeat (first | apply Kd.R_alloc | apply Kd.R_drewN | apply Kd.R_drew)); exact HO_8.out) hb); have n2_ := Aside0.mk (Kd.R_below (by (with_reducible repeat (first | apply Kd.R_alloc | apply Kd.R_drewN | apply Kd.R_drew)); exact HO_44.out) hb); have n3_ := Aside0.mk (Kd.R_below (by (with_reducible repeat (first | apply Kd.R_alloc | apply Kd.R_drewN | apply Kd.R_drew)); exact HO144.out) hb); have n4_ := Aside0.mk (Kd.R_below (by (with_reducible repeat (first | apply Kd.R_alloc | apply Kd.R_drewN | apply Kd.R_drew)); exact HO158.out) hb); have n5_ := Aside0.mk (Kd.C_below (by repeat (first | (with_reducible exact HR148.out) | (with_reducible refine Kd.C_alloc ?_ _) | (with_reducible refine Kd.C_drewN ?_ _) | (with_reducible refine Kd.C_drew ?_) | exact HR148.out)) hb); have n6_ := Aside0.mk (Kd.C_below (by repeat (first | (with_reducible exact HR155.out) | (with_reducible refine Kd.C_alloc ?_ _) | (with_reducible refine Kd.C_drewN ?_ _) | (with_reducible refine Kd.C_drew ?_) | exact HR155.out)) hb); have n7_ := Aside0.mk (below_step (by repeat (first | (with_reducible first | exact HB.out | apply below_alloc | apply pw_below_drewN | apply below_drew1) | exact HB.out)) hb); clear HO_7; clear HO_8; clear HO_44; clear HO144; clear HO158; clear HR148; clear HR155; clear HB; have HO_7 := n0_; have HO_8 := n1_; have HO_44 := n2_; have HO144 := n3_; have HO158 := n4_; have HR148 := n5_; have HR155 := n6_; have HB := n7_; clear n0_ n1_ n2_ n3_ n4_ n5_ n6_ n7_; (try clear hb); (try clear hb2); (try clear hk); (try clear hi); obtain ⟨Ao98, co98, eo98⟩ := Kd.R_slice HO158.out; subst eo98) | (go_at_call 22; (with_reducible refine (impl_AddressesEqual.calls _ _ t125 _ _ y156 false _ ?side1 ?side2 ?side3 ?side4 A76.out).mono ?_); (case side1 => repeat (first | exact (Kd.R_reads' HO_7.out).2.2 | (with_reducible refine Kd.C_alloc ?_ _) | (with_reducible refine Kd.C_drewN ?_ _) | (with_reducible refine Kd.C_drew ?_))); (case side2 => exact (Kd.R_reads' HO_7.out).2.1); (case side3 => repeat (first | exact (Kd.R_reads' HO158.out).2.2 | (with_reducible refine Kd.C_alloc ?_ _) | (with_reducible refine Kd.C_drewN ?_ _) | (with_reducible refine Kd.C_drew ?_))); (case side4 => exact (Kd.R_reads' HO158.out).2.1); rintro e w99 ⟨rfl, hb⟩; have n0_ := Aside0.mk (Kd.R_below (by (with_reducible repeat (first | apply Kd.R_alloc | apply Kd.R_drewN | apply Kd.R_drew)); exact HO_7.out) hb); have n1_ := Aside0.mk (Kd.R_below (by (with_reducible repeat (first | apply Kd.R_alloc | apply Kd.R_drewN | apply Kd.R_drew)); exact HO_8.out) hb); have n2_ := Aside0.mk (Kd.R_below (by (with_reducible repeat (first | apply Kd.R_alloc | apply Kd.R_drewN | apply Kd.R_drew)); exact HO_44.out) hb); have n3_ := Aside0.mk (Kd.R_below (by (with_reducible repeat (first | apply Kd.R_alloc | apply Kd.R_drewN | apply Kd.R_drew)); exact HO144.out) hb); have n4_ := Aside0.mk (Kd.R_below (by (with_reducible repeat (first | apply Kd.R_alloc | apply Kd.R_drewN | apply Kd.R_drew)); exact HO158.out) hb); have n5_ := Aside0.mk (Kd.C_below (by repeat (first | (with_reducible exact HR148.out) | (with_reducible refine Kd.C_alloc ?_ _) | (with_reducible refine Kd.C_drewN ?_ _) | (with_reducible refine Kd.C_drew ?_) | exact HR148.out)) hb); have n6_ := Aside0.mk (Kd.C_below (by repeat (first | (with_reducible exact HR155.out) | (with_reducible refine Kd.C_alloc ?_ _) | (with_reducible refine Kd.C_drewN ?_ _) | (with_reducible refine Kd.C_drew ?_) | exact HR155.out)) hb); have n7_ := Aside0.mk (below_step (by repeat (first | (with_reducible first | exact HB.out | apply below_alloc | apply pw_below_drewN | apply below_drew1) | exact HB.out)) hb); clear HO_7; clear HO_8; clear HO_44; clear HO144; clear HO158; clear HR148; clear HR155; clear HB; have HO_7 := n0_; have HO_8 := n1_; have HO_44 := n2_; have HO144 := n3_; have HO158 := n4_; have HR148 := n5_; have HR155 := n6_; have HB := n7_; clear n0_ n1_ n2_ n3_ n4_ n5_ n6_ n7_; (try clear hb); (try clear hb2); (try clear hk); (try clear hi)))
                                  go_ret
                                  exact ⟨by first | rfl | (simp [errW_none, errW_some] <;> rfl) | (simp only [← hji67]; first | rfl | (simp [errW_none, errW_some] <;> rfl)) | (simp [*, errW_none, errW_some] <;> rfl), by repeat (first | (with_reducible first | exact HB.out | apply below_alloc | apply pw_below_drewN | apply below_drew1) | exact HB.out)⟩
                              · rw [if_neg c75] at H
                                have c75b0 : (t159 == x9_3) = false := by simpa using c75
                                (try (have c75b1 : decide (t159 = x9_3) = false := by simpa using c75))
                                (try (have c75b2 : (t159 == x9_3) = false := by simpa using c75))
                                (try (have c75b3 : ¬ (t159 = x9_3) := by simpa using c75))
                                clear c75
                                obtain rfl := Option.some.inj H
                                try go_wp2_with (first | ((with_reducible refine gate_callee (f := 21) rfl ?_); refine goesL_ (some 95) rfl rfl Try.func21 (by kernel_rfl) rfl #[.slice Ao20 t125.length co20] rfl (by (try simp only [List.map_toArray, List.map_cons, List.map_nil]); first | done | rfl | (simp only [List.length_drop, List.length_take]; rfl)) ?_; (with_reducible refine (impl_Address.calls _ _ t125 t142 _ ?side1 ?side2 A64.out).mono ?_); (case side1 => repeat (first | exact (Kd.R_reads' HO_7.out).2.2 | (with_reducible refine Kd.C_alloc ?_ _) | (with_reducible refine Kd.C_drewN ?_ _) | (with_reducible refine Kd.C_drew ?_))); (case side2 => exact (Kd.R_reads' HO_7.out).2.1); rintro e w100 ⟨v143, rfl, ho0, hb⟩; refine ⟨_, rfl, ?_⟩; have n0_ := Aside0.mk (Kd.R_elder' (by (with_reducible repeat (first | apply Kd.R_alloc | apply Kd.R_drewN | apply Kd.R_drew)); exact HO_7.out) (Kd.R_base ho0) hb); have n1_ := Aside0.mk (Kd.R_elder' (by (with_reducible repeat (first | apply Kd.R_alloc | apply Kd.R_drewN | apply Kd.R_drew)); exact HO_8.out) (Kd.R_base ho0) hb); have n2_ := Aside0.mk (Kd.R_elder' (by (with_reducible repeat (first | apply Kd.R_alloc | apply Kd.R_drewN | apply Kd.R_drew)); exact HO_44.out) (Kd.R_base ho0) hb); have n3_ := Aside0.mk (Kd.R_lower (Kd.R_new' (Kd.R_new' (Kd.R_new' ho0 (Kd.R_lt (by (with_reducible repeat (first | apply Kd.R_alloc | apply Kd.R_drewN | apply Kd.R_drew)); exact HO_7.out))) (Kd.R_lt (by (with_reducible repeat (first | apply Kd.R_alloc | apply Kd.R_drewN | apply Kd.R_drew)); exact HO_8.out))) (Kd.R_lt (by (with_reducible repeat (first | apply Kd.R_alloc | apply Kd.R_drewN | apply Kd.R_drew)); exact HO_44.out))) (below_size (by repeat (first | (with_reducible first | exact HB.out | apply below_alloc | apply pw_below_drewN | apply below_drew1) | exact HB.out)))); have n4_ := Aside0.mk (below_step (by repeat (first | (with_reducible first | exact HB.out | apply below_alloc | apply pw_below_drewN | apply below_drew1) | exact HB.out)) hb); clear HO_7; clear HO_8; clear HO_44; clear HB; have HO_7 := n0_; have HO_8 := n1_; have HO_44 := n2_; have HO144 := n3_; have HB := n4_; clear n0_ n1_ n2_ n3_ n4_; (try clear hb); (try clear hb2); (try clear hk); (try clear hi); (try clear ho0)))
                                have n0_ := Aside0.mk (Kd.R_drew HO_7.out)
                                have n1_ := Aside0.mk (Kd.R_drew HO_8.out)
                                have n2_ := Aside0.mk (Kd.R_drew HO_44.out)
                                have n3_ := Aside0.mk (Kd.R_drew HO144.out)
                                have n4_ := Aside0.mk (below_drew1 HB.out)
                                clear HO_7
                                clear HO_8
                                clear HO_44
                                clear HO144
                                clear HB
                                have HO_7 := n0_
                                have HO_8 := n1_
                                have HO_44 := n2_
                                have HO144 := n3_
                                have HB := n4_
                                clear n0_ n1_ n2_ n3_ n4_
                                have q102 : ((ji67) : Int) ≤ ((t125.length : Int) : Int) := of_decide_eq_true (by first | (with_reducible assumption) | assumption)
                                obtain ⟨i0102, hi0102, _, hsz102, _⟩ := info_parts info34
                                have hroom102 : t125.length ≤ co20 := (Kd.R_reads' HO_7.out).2.1
                                have hC102 : Kd.C k34 _ Ao20 t125.length t125 := (Kd.R_reads' HO_7.out).2.2
                                have q0102 : (0 : Int) ≤ ((ji67) : Int) := of_decide_eq_true (by first | (with_reducible assumption) | assumption)
                                have hcut102 := cut_from (P := Try.prog) 31 34 .i64 Try.underlying31 hi0102 2 hsz102 Ao20 t125.length co20 (ji67) q0102 q102
                                have hr102 := Kd.C_drop (m := ((ji67) : Int).toNat) (c := co20) hC102 (by omega) hroom102
                                obtain ⟨A102, hA102⟩ : ∃ A1, A1 = (if co20 = ((ji67) : Int).toNat then Ao20 else (Ao20 : Option Addr).map (·.add (((ji67) : Int).toNat * 2))) := ⟨_, rfl⟩
                                obtain ⟨c102, hc102⟩ : ∃ c1, c1 = co20 - ((ji67) : Int).toNat := ⟨_, rfl⟩
                                have hy102 : y145.length = t125.length - ((ji67) : Int).toNat := (by rw [Ny145.out, List.length_drop] <;> omega)
                                rw [show (t125).drop ((ji67) : Int).toNat = y145 from Ny145.out.symm] at hr102
                                replace hr102 : Kd.C k34 _ A102 y145.length y145 := (by rw [hA102]; exact hr102)
                                rw [← hy102, ← hA102, ← hc102] at hcut102
                                have HR148 := Aside0.mk hr102
                                have HC148 := Aside0.mk (show y145.length ≤ c102 from by rw [hy102, hc102]; exact Nat.sub_le_sub_right hroom102 _)
                                clear hr102 hC102 hroom102 hi0102 hsz102 hc102
                                have KY102 := Aside0.mk hy102
                                have KA102 := Aside0.mk hA102
                                clear hy102 hA102
                                have KL102 := Aside0.mk (show ((ji67) : Int).toNat ≤ t125.length from by omega)
                                replace q102 := eq_true q102
                                have q103 : ((ji67) : Int) ≤ ((t125.length : Int) : Int) := of_decide_eq_true (by first | (with_reducible assumption) | assumption)
                                obtain ⟨i0103, hi0103, _, hsz103, _⟩ := info_parts info34
                                have hroom103 : t125.length ≤ co20 := (Kd.R_reads' HO_7.out).2.1
                                have hC103 : Kd.C k34 _ Ao20 t125.length t125 := (Kd.R_reads' HO_7.out).2.2
                                have hcut103 := cut_to (P := Try.prog) 31 34 .i64 Try.underlying31 hi0103 Ao20 t125.length co20 (ji67) (of_decide_eq_true (by first | (with_reducible assumption) | assumption)) q103 hroom103
                                have hr103 := Kd.C_take (m := ((ji67) : Int).toNat) hC103 (by omega)
                                have hy103 : y152.length = ((ji67) : Int).toNat := (by rw [Ny152.out, List.length_take]; omega)
                                rw [← Ny152.out] at hr103
                                rw [← hy103] at hcut103
                                have HR155 := Aside0.mk hr103
                                have HC155 := Aside0.mk (show y152.length ≤ co20 from by omega)
                                clear hr103 hC103 hroom103 hi0103 hsz103
                                have KY103 := Aside0.mk hy103
                                clear hy103
                                have KL103 := Aside0.mk (show ((ji67) : Int).toNat ≤ t125.length from by omega)
                                replace q103 := eq_true q103
                                refine start_ (n := 9) (S := fun w' => True) (ds := []) #[false, false, false, false, false, false, false, false, false] (by kernel_rfl) rfl rfl trivial (fun hHeld => ?_); refine with_tabW laws_FnAddresses.tab25 laws_FnAddresses.bits25 (fun HT_ HW_ => ?_)
                                generalize w100.drew = w101 at HO_7 HO_8 HO_44 HO144 HB HR148 HR155 hHeld ⊢
                                refine pure_ (i := 0) (N := some 104) (v := ?_) (a' := ?_) #[true, false, false, false, false, false, false, false, false] rfl rfl (any_of HT_.out (by kernel_rfl)) (fun _ _ _ h => h) (Or.inl ⟨by rfl, ?_⟩) ?_ ?_
                                rotate_left
                                · intro w'
                                  go_simp
                                  with_reducible rfl
                                rotate_left
                                · simp only [Act.put, List.setIfInBounds_toArray, List.set_cons_zero, List.set_cons_succ, i64_w, i32_w]
                                  rfl
                                refine pure_ (i := 1) (N := some 105) (v := ?_) (a' := ?_) #[true, true, false, false, false, false, false, false, false] rfl rfl (any_of HT_.out (by kernel_rfl)) (fun _ _ _ h => h) (Or.inl ⟨by rfl, ?_⟩) ?_ ?_
                                rotate_left
                                · intro w'
                                  go_simp
                                  with_reducible rfl
                                rotate_left
                                · simp only [Act.put, List.setIfInBounds_toArray, List.set_cons_zero, List.set_cons_succ, i64_w, i32_w]
                                  rfl
                                refine pure_ (i := 2) (N := some 106) (v := ?_) (a' := ?_) #[true, true, true, false, false, false, false, false, false] rfl rfl (any_of HT_.out (by kernel_rfl)) (fun _ _ _ h => h) (Or.inl ⟨by rfl, ?_⟩) ?_ ?_
                                rotate_left
                                · intro w'
                                  go_simp
                                  with_reducible rfl
                                rotate_left
                                · simp only [Act.put, List.setIfInBounds_toArray, List.set_cons_zero, List.set_cons_succ, i64_w, i32_w]
                                  rfl
                                refine pure_ (i := 4) (N := some 108) (v := ?_) (a' := ?_) #[true, true, true, false, true, false, false, false, false] rfl rfl (any_of HT_.out (by kernel_rfl)) (fun _ _ _ h => h) (Or.inl ⟨by rfl, ?_⟩) ?_ ?_
                                rotate_left
                                · intro w'
                                  go_simp
                                  with_reducible rfl
                                rotate_left
                                · simp only [Act.put, List.setIfInBounds_toArray, List.set_cons_zero, List.set_cons_succ, i64_w, i32_w]
                                  rfl
                                refine pure_ (i := 5) (N := some 109) (v := ?_) (a' := ?_) #[true, true, true, false, true, true, false, false, false] rfl rfl (any_of HT_.out (by kernel_rfl)) (fun _ _ _ h => h) (Or.inl ⟨by rfl, ?_⟩) ?_ ?_
                                rotate_left
                                · intro w'
                                  go_simp
                                  with_reducible rfl
                                rotate_left
                                · simp only [Act.put, List.setIfInBounds_toArray, List.set_cons_zero, List.set_cons_succ, i64_w, i32_w]
                                  rfl
                                refine pure_ (i := 6) (N := some 110) (v := ?_) (a' := ?_) #[true, true, true, false, true, true, true, false, false] rfl rfl (any_of HT_.out (by kernel_rfl)) (fun _ _ _ h => h) (Or.inl ⟨by rfl, ?_⟩) ?_ ?_
                                rotate_left
                                · intro w'
                                  go_simp
                                  with_reducible rfl
                                rotate_left
                                · simp only [Act.put, List.setIfInBounds_toArray, List.set_cons_zero, List.set_cons_succ, i64_w, i32_w]
                                  rfl
                                refine one_ (i := 3) (N := some 107) #[true, true, true, true, true, true, true, false, false] rfl rfl (one_of HT_.out (by kernel_rfl)) (by decide) (fun K hK => ?_)
                                refine goes_ Try.func21 (by kernel_rfl) rfl #[.slice A102 y145.length c102] (by rfl) rfl rfl (by (try simp only [List.map_toArray, List.map_cons, List.map_nil]); first | done | rfl | (simp only [List.length_drop, List.length_take]; rfl)) ?_
                                with_reducible refine (impl_Address.calls _ _ y145 t149 _ ?side1 ?side2 A70.out).mono ?_
                                (case side1 => repeat (first | exact (by repeat (first | (with_reducible exact HR148.out) | (with_reducible refine Kd.C_alloc ?_ _) | (with_reducible refine Kd.C_drewN ?_ _) | (with_reducible refine Kd.C_drew ?_) | exact HR148.out)) | (with_reducible refine Kd.C_alloc ?_ _) | (with_reducible refine Kd.C_drewN ?_ _) | (with_reducible refine Kd.C_drew ?_)))
                                (case side2 => exact HC148.out)
                                rintro e w104 ⟨v150, rfl, ho0, hb⟩
                                refine ⟨_, rfl, ?_⟩
                                have n0_ := Aside0.mk (Kd.R_elder' (by (with_reducible repeat (first | apply Kd.R_alloc | apply Kd.R_drewN | apply Kd.R_drew)); exact HO_7.out) (Kd.R_base ho0) hb)
                                have n1_ := Aside0.mk (Kd.R_elder' (by (with_reducible repeat (first | apply Kd.R_alloc | apply Kd.R_drewN | apply Kd.R_drew)); exact HO_8.out) (Kd.R_base ho0) hb)
                                have n2_ := Aside0.mk (Kd.R_elder' (by (with_reducible repeat (first | apply Kd.R_alloc | apply Kd.R_drewN | apply Kd.R_drew)); exact HO_44.out) (Kd.R_base ho0) hb)
                                have n3_ := Aside0.mk (Kd.R_elder' (by (with_reducible repeat (first | apply Kd.R_alloc | apply Kd.R_drewN | apply Kd.R_drew)); exact HO144.out) (Kd.R_base ho0) hb)
                                have n4_ := Aside0.mk (Kd.R_lower (Kd.R_new' (Kd.R_new' (Kd.R_new' (Kd.R_new' ho0 (Kd.R_lt (by (with_reducible repeat (first | apply Kd.R_alloc | apply Kd.R_drewN | apply Kd.R_drew)); exact HO_7.out))) (Kd.R_lt (by (with_reducible repeat (first | apply Kd.R_alloc | apply Kd.R_drewN | apply Kd.R_drew)); exact HO_8.out))) (Kd.R_lt (by (with_reducible repeat (first | apply Kd.R_alloc | apply Kd.R_drewN | apply Kd.R_drew)); exact HO_44.out))) (Kd.R_lt (by (with_reducible repeat (first | apply Kd.R_alloc | apply Kd.R_drewN | apply Kd.R_drew)); exact HO144.out))) (below_size (by repeat (first | (with_reducible first | exact HB.out | apply below_alloc | apply pw_below_drewN | apply below_drew1) | exact HB.out))))
                                have n5_ := Aside0.mk (Kd.C_below (by repeat (first | (with_reducible exact HR148.out) | (with_reducible refine Kd.C_alloc ?_ _) | (with_reducible refine Kd.C_drewN ?_ _) | (with_reducible refine Kd.C_drew ?_) | exact HR148.out)) hb)
                                have n6_ := Aside0.mk (Kd.C_below (by repeat (first | (with_reducible exact HR155.out) | (with_reducible refine Kd.C_alloc ?_ _) | (with_reducible refine Kd.C_drewN ?_ _) | (with_reducible refine Kd.C_drew ?_) | exact HR155.out)) hb)
                                have n7_ := Aside0.mk (below_step (by repeat (first | (with_reducible first | exact HB.out | apply below_alloc | apply pw_below_drewN | apply below_drew1) | exact HB.out)) hb)
                                clear HO_7
                                clear HO_8
                                clear HO_44
                                clear HO144
                                clear HR148
                                clear HR155
                                clear HB
                                have HO_7 := n0_
                                have HO_8 := n1_
                                have HO_44 := n2_
                                have HO144 := n3_
                                have HO151 := n4_
                                have HR148 := n5_
                                have HR155 := n6_
                                have HB := n7_
                                clear n0_ n1_ n2_ n3_ n4_ n5_ n6_ n7_
                                (try clear hb)
                                (try clear hb2)
                                (try clear hk)
                                (try clear hi)
                                (try clear ho0)
                                refine hK.out _ _ trivial (fun hHeld => ?_)
                                clear hK K
                                refine norm_ (a' := ?_) ?_ ?_
                                rotate_left
                                · show Act.put _ (some 107) _ = _
                                  simp only [Act.put, List.setIfInBounds_toArray, List.set_cons_zero, List.set_cons_succ, i64_w, i32_w]
                                  rfl
                                refine one_ (i := 7) (N := some 111) #[true, true, true, true, true, true, true, true, false] rfl rfl (one_of HT_.out (by kernel_rfl)) (by decide) (fun K hK => ?_)
                                refine Kd.R_append_rows_step k34 (w0 := w) w.heap.size (by rfl) (.tmp 107) (.tmp 110) 31 34 (.agg #[(.int .i32 0), (.string ⟨#[]⟩)]) 24 rfl Try.underlying31 info34 rfl (by decide) (by omega) v150 t149 y152 _ _ _ (fun k_ => some k_ ≠ (.slice Ao20 t125.length co20 : Value).ownBlock ∧ some k_ ≠ (v129 : Value).ownBlock ∧ some k_ ≠ (.slice Ao20 t125.length co20 : Value).ownBlock ∧ some k_ ≠ (v143 : Value).ownBlock) (fun _ => False) rfl rfl ?aO ?aR (fun _ _ h => h) (fun _ h => h.elim) ?aF ?aB ?aS ?aL ?_
                                (case aR => repeat (first | exact (by repeat (first | (with_reducible exact HR155.out) | (with_reducible refine Kd.C_alloc ?_ _) | (with_reducible refine Kd.C_drewN ?_ _) | (with_reducible refine Kd.C_drew ?_) | exact HR155.out)) | (with_reducible refine Kd.C_alloc ?_ _) | (with_reducible refine Kd.C_drewN ?_ _) | (with_reducible refine Kd.C_drew ?_)))
                                (case aB => exact (by repeat (first | (with_reducible first | exact HB.out | apply below_alloc | apply pw_below_drewN | apply below_drew1) | exact HB.out)))
                                (case aF => exact (fun k_ hk => ⟨Kd.fresh' (Kd.R_lt (by (with_reducible repeat (first | apply Kd.R_alloc | apply Kd.R_drewN | apply Kd.R_drew)); exact HO_7.out)) k_ hk, Kd.fresh' (Kd.R_lt (by (with_reducible repeat (first | apply Kd.R_alloc | apply Kd.R_drewN | apply Kd.R_drew)); exact HO_8.out)) k_ hk, Kd.fresh' (Kd.R_lt (by (with_reducible repeat (first | apply Kd.R_alloc | apply Kd.R_drewN | apply Kd.R_drew)); exact HO_44.out)) k_ hk, Kd.fresh' (Kd.R_lt (by (with_reducible repeat (first | apply Kd.R_alloc | apply Kd.R_drewN | apply Kd.R_drew)); exact HO144.out)) k_ hk⟩))
                                (case aO => exact (by (with_reducible repeat (first | apply Kd.R_alloc | apply Kd.R_drewN | apply Kd.R_drew)); exact Kd.R_mono HO151.out (fun _ hk => ⟨hk.1.1.1.2, ⟨hk.1.1.2, ⟨hk.1.2, hk.2⟩⟩⟩)))
                                (case aS => exact (below_size (by repeat (first | (with_reducible first | exact HB.out | apply below_alloc | apply pw_below_drewN | apply below_drew1) | exact HB.out))))
                                (case aL => have := LMc73.out; omega)
                                intro v157 w105 ho hb hg hat
                                rw [← Ny156.out] at ho
                                have n0_ := Aside0.mk (Kd.R_after (ok := (fun k_ => some k_ ≠ (v129 : Value).ownBlock ∧ some k_ ≠ (v143 : Value).ownBlock)) (by (with_reducible repeat (first | apply Kd.R_alloc | apply Kd.R_drewN | apply Kd.R_drew)); exact HO_7.out) hg hat)
                                have n1_ := Aside0.mk (Kd.R_after (ok := (fun k_ => some k_ ≠ (.slice Ao20 t125.length co20 : Value).ownBlock ∧ some k_ ≠ (.slice Ao20 t125.length co20 : Value).ownBlock ∧ some k_ ≠ (v143 : Value).ownBlock)) (by (with_reducible repeat (first | apply Kd.R_alloc | apply Kd.R_drewN | apply Kd.R_drew)); exact Kd.R_mono HO_8.out (fun _ hk => ⟨⟨hk.1.1.1, ⟨hk.1.1.2, hk.1.2⟩⟩, hk.2⟩)) hg hat)
                                have n2_ := Aside0.mk (Kd.R_after (ok := (fun k_ => some k_ ≠ (v129 : Value).ownBlock ∧ some k_ ≠ (v143 : Value).ownBlock)) (by (with_reducible repeat (first | apply Kd.R_alloc | apply Kd.R_drewN | apply Kd.R_drew)); exact HO_44.out) hg hat)
                                have n3_ := Aside0.mk (Kd.R_after (ok := (fun k_ => some k_ ≠ (.slice Ao20 t125.length co20 : Value).ownBlock ∧ some k_ ≠ (v129 : Value).ownBlock ∧ some k_ ≠ (.slice Ao20 t125.length co20 : Value).ownBlock)) (by (with_reducible repeat (first | apply Kd.R_alloc | apply Kd.R_drewN | apply Kd.R_drew)); exact Kd.R_mono HO144.out (fun _ hk => ⟨⟨hk.1.1.1.2, ⟨hk.1.1.2, hk.1.2⟩⟩, hk.2⟩)) hg hat)
                                have n4_ := Aside0.mk (hb)
                                have n5_ := Aside0.mk ((show Kd.C k34 w105 A102 y145.length y145 from by rw [Ny145.out, KA102.out]; exact Kd.C_drop (m := ((ji67) : Int).toNat) (c := co20) ((Kd.R_reads' (Kd.R_after (ok := (fun k_ => some k_ ≠ (v129 : Value).ownBlock ∧ some k_ ≠ (v143 : Value).ownBlock)) (by (with_reducible repeat (first | apply Kd.R_alloc | apply Kd.R_drewN | apply Kd.R_drew)); exact HO_7.out) hg hat)).2.2) KL102.out ((Kd.R_reads' (Kd.R_after (ok := (fun k_ => some k_ ≠ (v129 : Value).ownBlock ∧ some k_ ≠ (v143 : Value).ownBlock)) (by (with_reducible repeat (first | apply Kd.R_alloc | apply Kd.R_drewN | apply Kd.R_drew)); exact HO_7.out) hg hat)).2.1)))
                                have n6_ := Aside0.mk ((show Kd.C k34 w105 Ao20 y152.length y152 from by rw [Ny152.out]; exact Kd.C_take (m := ((ji67) : Int).toNat) ((Kd.R_reads' (Kd.R_after (ok := (fun k_ => some k_ ≠ (v129 : Value).ownBlock ∧ some k_ ≠ (v143 : Value).ownBlock)) (by (with_reducible repeat (first | apply Kd.R_alloc | apply Kd.R_drewN | apply Kd.R_drew)); exact HO_7.out) hg hat)).2.2) KL103.out))
                                have n7_ := Aside0.mk (ho)
                                clear HO_7
                                clear HO_8
                                clear HO_44
                                clear HO144
                                clear HB
                                clear HR148
                                clear HR155
                                clear HO151
                                have HO_7 := n0_
                                have HO_8 := n1_
                                have HO_44 := n2_
                                have HO144 := n3_
                                have HB := n4_
                                have HR148 := n5_
                                have HR155 := n6_
                                have HO158 := n7_
                                clear n0_ n1_ n2_ n3_ n4_ n5_ n6_ n7_
                                clear ho hb hg hat
                                refine hK.out _ _ trivial (fun hHeld => ?_)
                                clear hK K
                                refine norm_ (a' := ?_) ?_ ?_
                                rotate_left
                                · show Act.put _ (some 111) _ = _
                                  simp only [Act.put, List.setIfInBounds_toArray, List.set_cons_zero, List.set_cons_succ, i64_w, i32_w]
                                  rfl
                                refine pure_ (i := 8) (N := some 15) (v := ?_) (a' := ?_) #[true, true, true, true, true, true, true, true, true] rfl rfl (any_of HT_.out (by kernel_rfl)) (fun _ _ _ h => h) (Or.inl ⟨by rfl, ?_⟩) ?_ ?_
                                rotate_left
                                · intro w'
                                  go_simp
                                  with_reducible rfl
                                rotate_left
                                · simp only [Act.put, List.setIfInBounds_toArray, List.set_cons_zero, List.set_cons_succ, i64_w, i32_w]
                                  rfl
                                refine done_ (done_of HT_.out (by kernel_rfl)) ?_
                                obtain ⟨Ao106, co106, eo106⟩ := Kd.R_slice HO_8.out
                                subst eo106
                                try go_wp2_with (first | ((with_reducible refine gate_callee (f := 22) rfl ?_); refine goesL_ (some 114) rfl rfl Try.func22 (by kernel_rfl) rfl #[.slice Ao20 t125.length co20, .slice Ao106 t128.length co106] rfl (by (try simp only [List.map_toArray, List.map_cons, List.map_nil]); first | done | rfl | (simp only [List.length_drop, List.length_take]; rfl)) ?_; (with_reducible refine (impl_AddressesEqual.calls _ _ t125 _ _ t128 t159 _ ?side1 ?side2 ?side3 ?side4 A74.out).mono ?_); (case side1 => repeat (first | exact (Kd.R_reads' HO_7.out).2.2 | (with_reducible refine Kd.C_alloc ?_ _) | (with_reducible refine Kd.C_drewN ?_ _) | (with_reducible refine Kd.C_drew ?_))); (case side2 => exact (Kd.R_reads' HO_7.out).2.1); (case side3 => repeat (first | exact (Kd.R_reads' HO_8.out).2.2 | (with_reducible refine Kd.C_alloc ?_ _) | (with_reducible refine Kd.C_drewN ?_ _) | (with_reducible refine Kd.C_drew ?_))); (case side4 => exact (Kd.R_reads' HO_8.out).2.1); rintro e w107 ⟨rfl, hb⟩; refine ⟨_, rfl, ?_⟩; have n0_ := Aside0.mk (Kd.R_below (by (with_reducible repeat (first | apply Kd.R_alloc | apply Kd.R_drewN | apply Kd.R_drew)); exact HO_7.out) hb); have n1_ := Aside0.mk (Kd.R_below (by (with_reducible repeat (first | apply Kd.R_alloc | apply Kd.R_drewN | apply Kd.R_drew)); exact HO_8.out) hb); have n2_ := Aside0.mk (Kd.R_below (by (with_reducible repeat (first | apply Kd.R_alloc | apply Kd.R_drewN | apply Kd.R_drew)); exact HO_44.out) hb); have n3_ := Aside0.mk (Kd.R_below (by (with_reducible repeat (first | apply Kd.R_alloc | apply Kd.R_drewN | apply Kd.R_drew)); exact HO144.out) hb); have n4_ := Aside0.mk (Kd.R_below (by (with_reducible repeat (first | apply Kd.R_alloc | apply Kd.R_drewN | apply Kd.R_drew)); exact HO158.out) hb); have n5_ := Aside0.mk (Kd.C_below (by repeat (first | (with_reducible exact HR148.out) | (with_reducible refine Kd.C_alloc ?_ _) | (with_reducible refine Kd.C_drewN ?_ _) | (with_reducible refine Kd.C_drew ?_) | exact HR148.out)) hb); have n6_ := Aside0.mk (Kd.C_below (by repeat (first | (with_reducible exact HR155.out) | (with_reducible refine Kd.C_alloc ?_ _) | (with_reducible refine Kd.C_drewN ?_ _) | (with_reducible refine Kd.C_drew ?_) | exact HR155.out)) hb); have n7_ := Aside0.mk (below_step (by repeat (first | (with_reducible first | exact HB.out | apply below_alloc | apply pw_below_drewN | apply below_drew1) | exact HB.out)) hb); clear HO_7; clear HO_8; clear HO_44; clear HO144; clear HO158; clear HR148; clear HR155; clear HB; have HO_7 := n0_; have HO_8 := n1_; have HO_44 := n2_; have HO144 := n3_; have HO158 := n4_; have HR148 := n5_; have HR155 := n6_; have HB := n7_; clear n0_ n1_ n2_ n3_ n4_ n5_ n6_ n7_; (try clear hb); (try clear hb2); (try clear hk); (try clear hi)))
                                go_ret
                                exact ⟨by first | rfl | (simp [errW_none, errW_some] <;> rfl) | (simp only [← hji67]; first | rfl | (simp [errW_none, errW_some] <;> rfl)) | (simp [*, errW_none, errW_some] <;> rfl), by repeat (first | (with_reducible first | exact HB.out | apply below_alloc | apply pw_below_drewN | apply below_drew1) | exact HB.out)⟩
                            · rw [if_neg c73] at H
                              exact absurd H (by simp)
                          · rw [if_neg c69] at H
                            exact absurd H (by simp)
                        · rw [if_neg c68] at H
                          exact absurd H (by simp)
                    · rw [if_neg c65] at H
                      have c65b0 : decide (0 < (t125.length : Int)) = false := decide_eq_false c65
                      have c65b1 : decide (0 < t125.length) = false := decide_eq_false (by omega)
                      clear c65
                      replace H := Option.bind_eq_some_iff.mp H
                      obtain ⟨t162, A1080, H⟩ := H
                      replace H : (if (t162 == x9_3) = true then ((impl_AddressesEqual.f t125 t142).bind fun t163 => (if t163 = true then ((laws_addressAwake.f).bind fun t164 => (some t164)) else (some false))) else (some false)) = some r := H
                      have A108 := Aside0.mk A1080
                      clear A1080
                      by_cases c109 : (t162 == x9_3) = true
                      · rw [if_pos c109] at H
                        have c109b0 : (t162 == x9_3) = true := c109
                        (try (have c109b1 : decide (t162 = x9_3) = true := by simpa using c109))
                        (try (have c109b2 : (t162 == x9_3) = true := by simpa using c109))
                        clear c109
                        replace H := Option.bind_eq_some_iff.mp H
                        obtain ⟨t163, A1100, H⟩ := H
                        replace H : (if t163 = true then ((laws_addressAwake.f).bind fun t164 => (some t164)) else (some false)) = some r := H
                        have A110 := Aside0.mk A1100
                        clear A1100
                        by_cases c111 : t163 = true
                        · subst c111
                          have H1 : ((laws_addressAwake.f).bind fun t164 => (some t164)) = some r := by rw [if_pos rfl] at H; exact H
                          clear H
                          have H := H1
                          clear H1
                          replace H := Option.bind_eq_some_iff.mp H
                          obtain ⟨t164, A1120, H⟩ := H
                          replace H : (some t164) = some r := H
                          have A112 := Aside0.mk A1120
                          clear A1120
                          obtain rfl := Option.some.inj H
                          go_wp2_with (first | ((with_reducible refine gate_callee (f := 21) rfl ?_); refine goesL_ (some 95) rfl rfl Try.func21 (by kernel_rfl) rfl #[.slice Ao20 t125.length co20] rfl (by (try simp only [List.map_toArray, List.map_cons, List.map_nil]); first | done | rfl | (simp only [List.length_drop, List.length_take]; rfl)) ?_; (with_reducible refine (impl_Address.calls _ _ t125 t142 _ ?side1 ?side2 A64.out).mono ?_); (case side1 => repeat (first | exact (Kd.R_reads' HO_7.out).2.2 | (with_reducible refine Kd.C_alloc ?_ _) | (with_reducible refine Kd.C_drewN ?_ _) | (with_reducible refine Kd.C_drew ?_))); (case side2 => exact (Kd.R_reads' HO_7.out).2.1); rintro e w113 ⟨v143, rfl, ho0, hb⟩; refine ⟨_, rfl, ?_⟩; have n0_ := Aside0.mk (Kd.R_elder' (by (with_reducible repeat (first | apply Kd.R_alloc | apply Kd.R_drewN | apply Kd.R_drew)); exact HO_7.out) (Kd.R_base ho0) hb); have n1_ := Aside0.mk (Kd.R_elder' (by (with_reducible repeat (first | apply Kd.R_alloc | apply Kd.R_drewN | apply Kd.R_drew)); exact HO_8.out) (Kd.R_base ho0) hb); have n2_ := Aside0.mk (Kd.R_elder' (by (with_reducible repeat (first | apply Kd.R_alloc | apply Kd.R_drewN | apply Kd.R_drew)); exact HO_44.out) (Kd.R_base ho0) hb); have n3_ := Aside0.mk (Kd.R_lower (Kd.R_new' (Kd.R_new' (Kd.R_new' ho0 (Kd.R_lt (by (with_reducible repeat (first | apply Kd.R_alloc | apply Kd.R_drewN | apply Kd.R_drew)); exact HO_7.out))) (Kd.R_lt (by (with_reducible repeat (first | apply Kd.R_alloc | apply Kd.R_drewN | apply Kd.R_drew)); exact HO_8.out))) (Kd.R_lt (by (with_reducible repeat (first | apply Kd.R_alloc | apply Kd.R_drewN | apply Kd.R_drew)); exact HO_44.out))) (below_size (by repeat (first | (with_reducible first | exact HB.out | apply below_alloc | apply pw_below_drewN | apply below_drew1) | exact HB.out)))); have n4_ := Aside0.mk (below_step (by repeat (first | (with_reducible first | exact HB.out | apply below_alloc | apply pw_below_drewN | apply below_drew1) | exact HB.out)) hb); clear HO_7; clear HO_8; clear HO_44; clear HB; have HO_7 := n0_; have HO_8 := n1_; have HO_44 := n2_; have HO144 := n3_; have HB := n4_; clear n0_ n1_ n2_ n3_ n4_; (try clear hb); (try clear hb2); (try clear hk); (try clear hi); (try clear ho0); obtain ⟨Ao114, co114, eo114⟩ := Kd.R_slice HO_8.out; subst eo114) | ((with_reducible refine gate_callee (f := 22) rfl ?_); refine goesL_ (some 114) rfl rfl Try.func22 (by kernel_rfl) rfl #[.slice Ao20 t125.length co20, .slice Ao114 t128.length co114] rfl (by (try simp only [List.map_toArray, List.map_cons, List.map_nil]); first | done | rfl | (simp only [List.length_drop, List.length_take]; rfl)) ?_; (with_reducible refine (impl_AddressesEqual.calls _ _ t125 _ _ t128 t162 _ ?side1 ?side2 ?side3 ?side4 A108.out).mono ?_); (case side1 => repeat (first | exact (Kd.R_reads' HO_7.out).2.2 | (with_reducible refine Kd.C_alloc ?_ _) | (with_reducible refine Kd.C_drewN ?_ _) | (with_reducible refine Kd.C_drew ?_))); (case side2 => exact (Kd.R_reads' HO_7.out).2.1); (case side3 => repeat (first | exact (Kd.R_reads' HO_8.out).2.2 | (with_reducible refine Kd.C_alloc ?_ _) | (with_reducible refine Kd.C_drewN ?_ _) | (with_reducible refine Kd.C_drew ?_))); (case side4 => exact (Kd.R_reads' HO_8.out).2.1); rintro e w115 ⟨rfl, hb⟩; refine ⟨_, rfl, ?_⟩; have n0_ := Aside0.mk (Kd.R_below (by (with_reducible repeat (first | apply Kd.R_alloc | apply Kd.R_drewN | apply Kd.R_drew)); exact HO_7.out) hb); have n1_ := Aside0.mk (Kd.R_below (by (with_reducible repeat (first | apply Kd.R_alloc | apply Kd.R_drewN | apply Kd.R_drew)); exact HO_8.out) hb); have n2_ := Aside0.mk (Kd.R_below (by (with_reducible repeat (first | apply Kd.R_alloc | apply Kd.R_drewN | apply Kd.R_drew)); exact HO_44.out) hb); have n3_ := Aside0.mk (Kd.R_below (by (with_reducible repeat (first | apply Kd.R_alloc | apply Kd.R_drewN | apply Kd.R_drew)); exact HO144.out) hb); have n4_ := Aside0.mk (below_step (by repeat (first | (with_reducible first | exact HB.out | apply below_alloc | apply pw_below_drewN | apply below_drew1) | exact HB.out)) hb); clear HO_7; clear HO_8; clear HO_44; clear HO144; clear HB; have HO_7 := n0_; have HO_8 := n1_; have HO_44 := n2_; have HO144 := n3_; have HB := n4_; clear n0_ n1_ n2_ n3_ n4_; (try clear hb); (try clear hb2); (try clear hk); (try clear hi); obtain ⟨Ao116, co116, eo116⟩ := Kd.R_slice HO144.out; subst eo116) | (go_at_call 22; (with_reducible refine (impl_AddressesEqual.calls _ _ t125 _ _ t142 true _ ?side1 ?side2 ?side3 ?side4 A110.out).mono ?_); (case side1 => repeat (first | exact (Kd.R_reads' HO_7.out).2.2 | (with_reducible refine Kd.C_alloc ?_ _) | (with_reducible refine Kd.C_drewN ?_ _) | (with_reducible refine Kd.C_drew ?_))); (case side2 => exact (Kd.R_reads' HO_7.out).2.1); (case side3 => repeat (first | exact (Kd.R_reads' HO144.out).2.2 | (with_reducible refine Kd.C_alloc ?_ _) | (with_reducible refine Kd.C_drewN ?_ _) | (with_reducible refine Kd.C_drew ?_))); (case side4 => exact (Kd.R_reads' HO144.out).2.1); rintro e w117 ⟨rfl, hb⟩; have n0_ := Aside0.mk (Kd.R_below (by (with_reducible repeat (first | apply Kd.R_alloc | apply Kd.R_drewN | apply Kd.R_drew)); exact HO_7.out) hb); have n1_ := Aside0.mk (Kd.R_below (by (with_reducible repeat (first | apply Kd.R_alloc | apply Kd.R_drewN | apply Kd.R_drew)); exact HO_8.out) hb); have n2_ := Aside0.mk (Kd.R_below (by (with_reducible repeat (first | apply Kd.R_alloc | apply Kd.R_drewN | apply Kd.R_drew)); exact HO_44.out) hb); have n3_ := Aside0.mk (Kd.R_below (by (with_reducible repeat (first | apply Kd.R_alloc | apply Kd.R_drewN | apply Kd.R_drew)); exact HO144.out) hb); have n4_ := Aside0.mk (below_step (by repeat (first | (with_reducible first | exact HB.out | apply below_alloc | apply pw_below_drewN | apply below_drew1) | exact HB.out)) hb); clear HO_7; clear HO_8; clear HO_44; clear HO144; clear HB; have HO_7 := n0_; have HO_8 := n1_; have HO_44 := n2_; have HO144 := n3_; have HB := n4_; clear n0_ n1_ n2_ n3_ n4_; (try clear hb); (try clear hb2); (try clear hk); (try clear hi)) | (go_at_call 16; (with_reducible refine (laws_addressAwake.calls  t164 _ A112.out).mono ?_); rintro e w118 ⟨rfl, hb⟩; have n0_ := Aside0.mk (Kd.R_below (by (with_reducible repeat (first | apply Kd.R_alloc | apply Kd.R_drewN | apply Kd.R_drew)); exact HO_7.out) hb); have n1_ := Aside0.mk (Kd.R_below (by (with_reducible repeat (first | apply Kd.R_alloc | apply Kd.R_drewN | apply Kd.R_drew)); exact HO_8.out) hb); have n2_ := Aside0.mk (Kd.R_below (by (with_reducible repeat (first | apply Kd.R_alloc | apply Kd.R_drewN | apply Kd.R_drew)); exact HO_44.out) hb); have n3_ := Aside0.mk (Kd.R_below (by (with_reducible repeat (first | apply Kd.R_alloc | apply Kd.R_drewN | apply Kd.R_drew)); exact HO144.out) hb); have n4_ := Aside0.mk (below_step (by repeat (first | (with_reducible first | exact HB.out | apply below_alloc | apply pw_below_drewN | apply below_drew1) | exact HB.out)) hb); clear HO_7; clear HO_8; clear HO_44; clear HO144; clear HB; have HO_7 := n0_; have HO_8 := n1_; have HO_44 := n2_; have HO144 := n3_; have HB := n4_; clear n0_ n1_ n2_ n3_ n4_; (try clear hb); (try clear hb2); (try clear hk); (try clear hi)))
                          go_ret
                          exact ⟨by first | rfl | (simp [errW_none, errW_some] <;> rfl) | (simp [*, errW_none, errW_some] <;> rfl), by repeat (first | (with_reducible first | exact HB.out | apply below_alloc | apply pw_below_drewN | apply below_drew1) | exact HB.out)⟩
                        · replace c111 := Bool.eq_false_iff.mpr c111
                          subst c111
                          have H1 : (some false) = some r := by rw [if_neg (show ¬ (false = true) by decide)] at H; exact H
                          clear H
                          have H := H1
                          clear H1
                          obtain rfl := Option.some.inj H
                          go_wp2_with (first | ((with_reducible refine gate_callee (f := 21) rfl ?_); refine goesL_ (some 95) rfl rfl Try.func21 (by kernel_rfl) rfl #[.slice Ao20 t125.length co20] rfl (by (try simp only [List.map_toArray, List.map_cons, List.map_nil]); first | done | rfl | (simp only [List.length_drop, List.length_take]; rfl)) ?_; (with_reducible refine (impl_Address.calls _ _ t125 t142 _ ?side1 ?side2 A64.out).mono ?_); (case side1 => repeat (first | exact (Kd.R_reads' HO_7.out).2.2 | (with_reducible refine Kd.C_alloc ?_ _) | (with_reducible refine Kd.C_drewN ?_ _) | (with_reducible refine Kd.C_drew ?_))); (case side2 => exact (Kd.R_reads' HO_7.out).2.1); rintro e w119 ⟨v143, rfl, ho0, hb⟩; refine ⟨_, rfl, ?_⟩; have n0_ := Aside0.mk (Kd.R_elder' (by (with_reducible repeat (first | apply Kd.R_alloc | apply Kd.R_drewN | apply Kd.R_drew)); exact HO_7.out) (Kd.R_base ho0) hb); have n1_ := Aside0.mk (Kd.R_elder' (by (with_reducible repeat (first | apply Kd.R_alloc | apply Kd.R_drewN | apply Kd.R_drew)); exact HO_8.out) (Kd.R_base ho0) hb); have n2_ := Aside0.mk (Kd.R_elder' (by (with_reducible repeat (first | apply Kd.R_alloc | apply Kd.R_drewN | apply Kd.R_drew)); exact HO_44.out) (Kd.R_base ho0) hb); have n3_ := Aside0.mk (Kd.R_lower (Kd.R_new' (Kd.R_new' (Kd.R_new' ho0 (Kd.R_lt (by (with_reducible repeat (first | apply Kd.R_alloc | apply Kd.R_drewN | apply Kd.R_drew)); exact HO_7.out))) (Kd.R_lt (by (with_reducible repeat (first | apply Kd.R_alloc | apply Kd.R_drewN | apply Kd.R_drew)); exact HO_8.out))) (Kd.R_lt (by (with_reducible repeat (first | apply Kd.R_alloc | apply Kd.R_drewN | apply Kd.R_drew)); exact HO_44.out))) (below_size (by repeat (first | (with_reducible first | exact HB.out | apply below_alloc | apply pw_below_drewN | apply below_drew1) | exact HB.out)))); have n4_ := Aside0.mk (below_step (by repeat (first | (with_reducible first | exact HB.out | apply below_alloc | apply pw_below_drewN | apply below_drew1) | exact HB.out)) hb); clear HO_7; clear HO_8; clear HO_44; clear HB; have HO_7 := n0_; have HO_8 := n1_; have HO_44 := n2_; have HO144 := n3_; have HB := n4_; clear n0_ n1_ n2_ n3_ n4_; (try clear hb); (try clear hb2); (try clear hk); (try clear hi); (try clear ho0); obtain ⟨Ao120, co120, eo120⟩ := Kd.R_slice HO_8.out; subst eo120) | ((with_reducible refine gate_callee (f := 22) rfl ?_); refine goesL_ (some 114) rfl rfl Try.func22 (by kernel_rfl) rfl #[.slice Ao20 t125.length co20, .slice Ao120 t128.length co120] rfl (by (try simp only [List.map_toArray, List.map_cons, List.map_nil]); first | done | rfl | (simp only [List.length_drop, List.length_take]; rfl)) ?_; (with_reducible refine (impl_AddressesEqual.calls _ _ t125 _ _ t128 t162 _ ?side1 ?side2 ?side3 ?side4 A108.out).mono ?_); (case side1 => repeat (first | exact (Kd.R_reads' HO_7.out).2.2 | (with_reducible refine Kd.C_alloc ?_ _) | (with_reducible refine Kd.C_drewN ?_ _) | (with_reducible refine Kd.C_drew ?_))); (case side2 => exact (Kd.R_reads' HO_7.out).2.1); (case side3 => repeat (first | exact (Kd.R_reads' HO_8.out).2.2 | (with_reducible refine Kd.C_alloc ?_ _) | (with_reducible refine Kd.C_drewN ?_ _) | (with_reducible refine Kd.C_drew ?_))); (case side4 => exact (Kd.R_reads' HO_8.out).2.1); rintro e w121 ⟨rfl, hb⟩; refine ⟨_, rfl, ?_⟩; have n0_ := Aside0.mk (Kd.R_below (by (with_reducible repeat (first | apply Kd.R_alloc | apply Kd.R_drewN | apply Kd.R_drew)); exact HO_7.out) hb); have n1_ := Aside0.mk (Kd.R_below (by (with_reducible repeat (first | apply Kd.R_alloc | apply Kd.R_drewN | apply Kd.R_drew)); exact HO_8.out) hb); have n2_ := Aside0.mk (Kd.R_below (by (with_reducible repeat (first | apply Kd.R_alloc | apply Kd.R_drewN | apply Kd.R_drew)); exact HO_44.out) hb); have n3_ := Aside0.mk (Kd.R_below (by (with_reducible repeat (first | apply Kd.R_alloc | apply Kd.R_drewN | apply Kd.R_drew)); exact HO144.out) hb); have n4_ := Aside0.mk (below_step (by repeat (first | (with_reducible first | exact HB.out | apply below_alloc | apply pw_below_drewN | apply below_drew1) | exact HB.out)) hb); clear HO_7; clear HO_8; clear HO_44; clear HO144; clear HB; have HO_7 := n0_; have HO_8 := n1_; have HO_44 := n2_; have HO144 := n3_; have HB := n4_; clear n0_ n1_ n2_ n3_ n4_; (try clear hb); (try clear hb2); (try clear hk); (try clear hi); obtain ⟨Ao122, co122, eo122⟩ := Kd.R_slice HO144.out; subst eo122) | (go_at_call 22; (with_reducible refine (impl_AddressesEqual.calls _ _ t125 _ _ t142 false _ ?side1 ?side2 ?side3 ?side4 A110.out).mono ?_); (case side1 => repeat (first | exact (Kd.R_reads' HO_7.out).2.2 | (with_reducible refine Kd.C_alloc ?_ _) | (with_reducible refine Kd.C_drewN ?_ _) | (with_reducible refine Kd.C_drew ?_))); (case side2 => exact (Kd.R_reads' HO_7.out).2.1); (case side3 => repeat (first | exact (Kd.R_reads' HO144.out).2.2 | (with_reducible refine Kd.C_alloc ?_ _) | (with_reducible refine Kd.C_drewN ?_ _) | (with_reducible refine Kd.C_drew ?_))); (case side4 => exact (Kd.R_reads' HO144.out).2.1); rintro e w123 ⟨rfl, hb⟩; have n0_ := Aside0.mk (Kd.R_below (by (with_reducible repeat (first | apply Kd.R_alloc | apply Kd.R_drewN | apply Kd.R_drew)); exact HO_7.out) hb); have n1_ := Aside0.mk (Kd.R_below (by (with_reducible repeat (first | apply Kd.R_alloc | apply Kd.R_drewN | apply Kd.R_drew)); exact HO_8.out) hb); have n2_ := Aside0.mk (Kd.R_below (by (with_reducible repeat (first | apply Kd.R_alloc | apply Kd.R_drewN | apply Kd.R_drew)); exact HO_44.out) hb); have n3_ := Aside0.mk (Kd.R_below (by (with_reducible repeat (first | apply Kd.R_alloc | apply Kd.R_drewN | apply Kd.R_drew)); exact HO144.out) hb); have n4_ := Aside0.mk (below_step (by repeat (first | (with_reducible first | exact HB.out | apply below_alloc | apply pw_below_drewN | apply below_drew1) | exact HB.out)) hb); clear HO_7; clear HO_8; clear HO_44; clear HO144; clear HB; have HO_7 := n0_; have HO_8 := n1_; have HO_44 := n2_; have HO144 := n3_; have HB := n4_; clear n0_ n1_ n2_ n3_ n4_; (try clear hb); (try clear hb2); (try clear hk); (try clear hi)))
                          go_ret
                          exact ⟨by first | rfl | (simp [errW_none, errW_some] <;> rfl) | (simp [*, errW_none, errW_some] <;> rfl), by repeat (first | (with_reducible first | exact HB.out | apply below_alloc | apply pw_below_drewN | apply below_drew1) | exact HB.out)⟩
                      · rw [if_neg c109] at H
                        have c109b0 : (t162 == x9_3) = false := by simpa using c109
                        (try (have c109b1 : decide (t162 = x9_3) = false := by simpa using c109))
                        (try (have c109b2 : (t162 == x9_3) = false := by simpa using c109))
                        (try (have c109b3 : ¬ (t162 = x9_3) := by simpa using c109))
                        clear c109
                        obtain rfl := Option.some.inj H
                        go_wp2_with (first | ((with_reducible refine gate_callee (f := 21) rfl ?_); refine goesL_ (some 95) rfl rfl Try.func21 (by kernel_rfl) rfl #[.slice Ao20 t125.length co20] rfl (by (try simp only [List.map_toArray, List.map_cons, List.map_nil]); first | done | rfl | (simp only [List.length_drop, List.length_take]; rfl)) ?_; (with_reducible refine (impl_Address.calls _ _ t125 t142 _ ?side1 ?side2 A64.out).mono ?_); (case side1 => repeat (first | exact (Kd.R_reads' HO_7.out).2.2 | (with_reducible refine Kd.C_alloc ?_ _) | (with_reducible refine Kd.C_drewN ?_ _) | (with_reducible refine Kd.C_drew ?_))); (case side2 => exact (Kd.R_reads' HO_7.out).2.1); rintro e w124 ⟨v143, rfl, ho0, hb⟩; refine ⟨_, rfl, ?_⟩; have n0_ := Aside0.mk (Kd.R_elder' (by (with_reducible repeat (first | apply Kd.R_alloc | apply Kd.R_drewN | apply Kd.R_drew)); exact HO_7.out) (Kd.R_base ho0) hb); have n1_ := Aside0.mk (Kd.R_elder' (by (with_reducible repeat (first | apply Kd.R_alloc | apply Kd.R_drewN | apply Kd.R_drew)); exact HO_8.out) (Kd.R_base ho0) hb); have n2_ := Aside0.mk (Kd.R_elder' (by (with_reducible repeat (first | apply Kd.R_alloc | apply Kd.R_drewN | apply Kd.R_drew)); exact HO_44.out) (Kd.R_base ho0) hb); have n3_ := Aside0.mk (Kd.R_lower (Kd.R_new' (Kd.R_new' (Kd.R_new' ho0 (Kd.R_lt (by (with_reducible repeat (first | apply Kd.R_alloc | apply Kd.R_drewN | apply Kd.R_drew)); exact HO_7.out))) (Kd.R_lt (by (with_reducible repeat (first | apply Kd.R_alloc | apply Kd.R_drewN | apply Kd.R_drew)); exact HO_8.out))) (Kd.R_lt (by (with_reducible repeat (first | apply Kd.R_alloc | apply Kd.R_drewN | apply Kd.R_drew)); exact HO_44.out))) (below_size (by repeat (first | (with_reducible first | exact HB.out | apply below_alloc | apply pw_below_drewN | apply below_drew1) | exact HB.out)))); have n4_ := Aside0.mk (below_step (by repeat (first | (with_reducible first | exact HB.out | apply below_alloc | apply pw_below_drewN | apply below_drew1) | exact HB.out)) hb); clear HO_7; clear HO_8; clear HO_44; clear HB; have HO_7 := n0_; have HO_8 := n1_; have HO_44 := n2_; have HO144 := n3_; have HB := n4_; clear n0_ n1_ n2_ n3_ n4_; (try clear hb); (try clear hb2); (try clear hk); (try clear hi); (try clear ho0); obtain ⟨Ao125, co125, eo125⟩ := Kd.R_slice HO_8.out; subst eo125) | ((with_reducible refine gate_callee (f := 22) rfl ?_); refine goesL_ (some 114) rfl rfl Try.func22 (by kernel_rfl) rfl #[.slice Ao20 t125.length co20, .slice Ao125 t128.length co125] rfl (by (try simp only [List.map_toArray, List.map_cons, List.map_nil]); first | done | rfl | (simp only [List.length_drop, List.length_take]; rfl)) ?_; (with_reducible refine (impl_AddressesEqual.calls _ _ t125 _ _ t128 t162 _ ?side1 ?side2 ?side3 ?side4 A108.out).mono ?_); (case side1 => repeat (first | exact (Kd.R_reads' HO_7.out).2.2 | (with_reducible refine Kd.C_alloc ?_ _) | (with_reducible refine Kd.C_drewN ?_ _) | (with_reducible refine Kd.C_drew ?_))); (case side2 => exact (Kd.R_reads' HO_7.out).2.1); (case side3 => repeat (first | exact (Kd.R_reads' HO_8.out).2.2 | (with_reducible refine Kd.C_alloc ?_ _) | (with_reducible refine Kd.C_drewN ?_ _) | (with_reducible refine Kd.C_drew ?_))); (case side4 => exact (Kd.R_reads' HO_8.out).2.1); rintro e w126 ⟨rfl, hb⟩; refine ⟨_, rfl, ?_⟩; have n0_ := Aside0.mk (Kd.R_below (by (with_reducible repeat (first | apply Kd.R_alloc | apply Kd.R_drewN | apply Kd.R_drew)); exact HO_7.out) hb); have n1_ := Aside0.mk (Kd.R_below (by (with_reducible repeat (first | apply Kd.R_alloc | apply Kd.R_drewN | apply Kd.R_drew)); exact HO_8.out) hb); have n2_ := Aside0.mk (Kd.R_below (by (with_reducible repeat (first | apply Kd.R_alloc | apply Kd.R_drewN | apply Kd.R_drew)); exact HO_44.out) hb); have n3_ := Aside0.mk (Kd.R_below (by (with_reducible repeat (first | apply Kd.R_alloc | apply Kd.R_drewN | apply Kd.R_drew)); exact HO144.out) hb); have n4_ := Aside0.mk (below_step (by repeat (first | (with_reducible first | exact HB.out | apply below_alloc | apply pw_below_drewN | apply below_drew1) | exact HB.out)) hb); clear HO_7; clear HO_8; clear HO_44; clear HO144; clear HB; have HO_7 := n0_; have HO_8 := n1_; have HO_44 := n2_; have HO144 := n3_; have HB := n4_; clear n0_ n1_ n2_ n3_ n4_; (try clear hb); (try clear hb2); (try clear hk); (try clear hi)))
                        go_ret
                        exact ⟨by first | rfl | (simp [errW_none, errW_some] <;> rfl) | (simp [*, errW_none, errW_some] <;> rfl), by repeat (first | (with_reducible first | exact HB.out | apply below_alloc | apply pw_below_drewN | apply below_drew1) | exact HB.out)⟩

/-- THE ONE PURE STATEMENT of laws_FnAddresses. -/
def laws_FnAddresses.Pure : Prop := ∀ (l0 : List ByteArray) (l1 : List ByteArray) (a2 : Int), (l0.length ≤ 9223372036854775807 ∧ ∀ x_ ∈ l0, x_.size ≤ maxLen) → (l1.length ≤ 9223372036854775807 ∧ ∀ x_ ∈ l1, x_.size ≤ maxLen) → ((Lit.int .u8 a2).wf = true) → ∃ k, laws_FnAddresses.f k l0 l1 a2 = some true
theorem laws_FnAddresses.walk (P : laws_FnAddresses.Pure) (A0 : Option Addr) (c0 : Nat) (l0 : List ByteArray) (A1 : Option Addr) (c1 : Nat) (l1 : List ByteArray) (a2 : Int) (w : World) (hr0 : Kd.C Kd.string w A0 l0.length l0) (hc0 : l0.length ≤ c0) (hr1 : Kd.C Kd.string w A1 l1.length l1) (hc1 : l1.length ≤ c1) (g0 : l0.length ≤ 9223372036854775807 ∧ ∀ x_ ∈ l0, x_.size ≤ maxLen) (g1 : l1.length ≤ 9223372036854775807 ∧ ∀ x_ ∈ l1, x_.size ≤ maxLen) (g2 : (Lit.int .u8 a2).wf = true) :
    Calls Try.prog 4 #[.slice A0 l0.length c0, .slice A1 l1.length c1, .int .u8 a2] w fun e w' => e = .returned (.bool true) ∧ Below w.heap.size w w' := by
  obtain ⟨k, h⟩ := P l0 l1 a2 g0 g1 g2
  refine (laws_FnAddresses.calls k _ _ l0 _ _ l1 a2 true w hr0 hc0 hr1 hc1 h).mono ?_
  rintro e w' ⟨rfl, hd⟩
  exact ⟨rfl, hd⟩

end Go.Proofs.Ythgcpicflmigjaa.A

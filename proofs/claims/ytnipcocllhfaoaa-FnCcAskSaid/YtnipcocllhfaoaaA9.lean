/- Go functions of this seat come to the answers of the Lean functions that stand here ('.calls'), under what each theorem states and nothing else. Written by pw.py, a program of this session, with texts of its own. -/
import Derived.Test.YtnipcocllhfaoaaA0
import Derived.Test.YtnipcocllhfaoaaB14
import Derived.Test.YtnipcocllhfaoaaE0
namespace Go.Proofs.Ytnipcocllhfaoaa.A
open Go.RowKit Go.Proofs.YtnipcocllhfaoaaW.PrintWords Go.Proofs.YtnipcocllhfaoaaW.PrintLast
open Go.Proofs.Ytnipcocllhfaoaa.B (gate_callee gate_builtin)
set_option linter.unusedVariables false
set_option linter.unusedSimpArgs false
set_option maxRecDepth 100000

/-! ### laws_ccVersion: function 13 -/
def laws_ccVersion.f (a0 : Int) : Option (Int) := some ((3 + (Int.tmod a0 2)) % 256)
set_option maxHeartbeats 8000000 in
set_option maxRecDepth 100000 in
theorem laws_ccVersion.calls (a0 : Int) (r : Int) (w : World) (h : laws_ccVersion.f a0 = some r) :
    Calls Try.prog 13 #[.int .u8 a0] w fun e w' => e = .returned (.int .u8 r) ∧ Drawn0 w w' := by
  have H : (some ((3 + (Int.tmod a0 2)) % 256)) = some r := h
  clear h
  obtain rfl := Option.some.inj H
  go_enter Try.func13, Try.ntmps13
  go_wp2
  go_ret
  exact ⟨by first | rfl | (simp; done) | (simp [*]; done), by repeat (first | exact Drawn0.refl _ | apply Drawn0.step)⟩

/-! ### spec_Config: function 21 -/
-- EXT rounds=0 making=1
-- NEEDS
theorem spec_Config.any (s : ByteArray) (w : World) : Calls Try.prog 21 #[.string s] w fun e w' => e = .returned (.bool (B.confB s)) ∧ Below w.heap.size w w' := by
  by_cases h : 11 ≤ s.size
  · have hx : (({ data := #[88, 45, 67, 65, 67, 72, 69, 67, 79, 78, 70, 58] } : ByteArray).extract 0 11).toList = [88, 45, 67, 65, 67, 72, 69, 67, 79, 78, 70] := by rw [ByteArray.toList_eq]; rfl
    have e : B.confB s = ((s.extract 0 11).toList == (({ data := #[88, 45, 67, 65, 67, 72, 69, 67, 79, 78, 70, 58] } : ByteArray).extract 0 11).toList) := by rw [hx]; exact if_pos h
    obtain ⟨b, hb⟩ : ∃ b, ((s.extract 0 11).toList == (({ data := #[88, 45, 67, 65, 67, 72, 69, 67, 79, 78, 70, 58] } : ByteArray).extract 0 11).toList) = b := ⟨_, rfl⟩
    rw [e, hb]
    have z1 : (11 : Int) ≤ (s.size : Int) := by omega
    have z2 : decide ((11 : Int) ≤ (s.size : Int)) = true := decide_eq_true z1
    clear e hx
    go_enter Try.func21, Try.ntmps21
    go_wp2
    go_quiet (fail)
    go_wp2
    go_ret
    exact ⟨rfl, pw_below_drewN (Below.refl _ _) _⟩
  · have e : B.confB s = false := if_neg h
    rw [e]
    have z1 : ¬ (11 : Int) ≤ (s.size : Int) := by omega
    have z2 : decide ((11 : Int) ≤ (s.size : Int)) = false := decide_eq_false z1
    clear e
    go_enter Try.func21, Try.ntmps21
    go_wp2
    go_quiet (fail)
    go_wp2
    go_ret
    exact ⟨rfl, pw_below_drewN (Below.refl _ _) _⟩

/-! ### slices_Equal_string_string: function 22 -/
-- EXT rounds=0 making=1
-- NEEDS
theorem pw_toList (a b : ByteArray) : a.toList = b.toList ↔ a = b := by
  constructor
  · intro h
    have e : ∀ s : ByteArray, s.toList = s.data.toList := fun s => ByteArray.toList_eq s
    rw [e, e] at h
    exact ByteArray.ext (Array.ext' h)
  · rintro rfl; rfl
/-- Rows of texts: are they equal. -/
theorem slices_Equal_string_string.any (xs ys : List ByteArray) (A1 A2 : Option Addr) (c1 c2 : Nat) (w : World) (h1 : Kd.C Kd.string w A1 xs.length xs) (h2 : Kd.C Kd.string w A2 ys.length ys) :
    Calls Try.prog 22 #[.slice A1 xs.length c1, .slice A2 ys.length c2] w fun e w' => e = .returned (.bool (decide (xs = ys))) ∧ Below w.heap.size w w' := by
  have hmx : (xs.length : Int) ≤ 9223372036854775807 := by have := Kd.C_max h1; omega
  have H1 := Aside0.mk h1
  have H2 := Aside0.mk h2
  clear h1 h2
  by_cases hl : xs.length = ys.length
  case neg =>
    rw [show decide (xs = ys) = false from decide_eq_false fun e => hl (congrArg List.length e)]
    have z0 : ((xs.length : Int) == (ys.length : Int)) = false := beq_eq_false_iff_ne.mpr (by omega)
    have z1 : ((xs.length : Int) != (ys.length : Int)) = true := bne_iff_ne.mpr (by omega)
    have z2 : (xs.length == ys.length) = false := beq_eq_false_iff_ne.mpr hl
    clear hl
    go_enter Try.func22, Try.ntmps22
    go_wp2
    go_ret
    exact ⟨rfl, Below.refl _ _⟩
  have z0 : ((xs.length : Int) == (ys.length : Int)) = true := beq_iff_eq.mpr (by omega)
  have z1 : ((xs.length : Int) != (ys.length : Int)) = false := bne_eq_false_iff_eq.mpr (by omega)
  have z2 : (xs.length == ys.length) = true := beq_iff_eq.mpr hl
  obtain ⟨r, hr⟩ : ∃ r, decide (xs = ys) = r := ⟨_, rfl⟩
  rw [hr]
  have HR := Aside0.mk hr
  have HL := Aside0.mk hl
  clear hr hl
  go_enter Try.func22, Try.ntmps22
  go_wp2
  go_loopw [13] (fun i wr => ∃ (j : Nat), j ≤ xs.length ∧ i = .int .i64 j ∧ Aside0 (xs.take j = ys.take j) ∧ Aside0 (Below w.heap.size w wr)) (fun i _ => xs.length - (intOf i).toNat)
  case atStart => exact ⟨0, Nat.zero_le _, rfl, ⟨rfl⟩, ⟨Below.refl _ _⟩⟩
  obtain ⟨j, hj, rfl, HT, BL⟩ := hrel
  by_cases hlt : j < xs.length
  case neg =>
    obtain rfl : j = xs.length := by omega
    have hnl : ¬ ((xs.length : Int) < (xs.length : Int)) := by omega
    have hrt : r = true := by
      have h := HT.out
      rw [List.take_length, HL.out, List.take_length] at h
      rw [← HR.out]
      exact decide_eq_true h
    subst hrt
    clear HT HR
    go_wp2
    go_ret
    exact ⟨rfl, BL.out⟩
  have hlt' : (j : Int) < (xs.length : Int) := by omega
  have hlt2 : (j : Int) < (ys.length : Int) := by have := HL.out; omega
  have hj0 : (0 : Int) ≤ (j : Int) := by omega
  obtain ⟨a1, rfl, k1⟩ := Kd.at_string (Kd.C_below H1.out BL.out) (j : Int) hj0 hlt'
  obtain ⟨a2, rfl, k2⟩ := Kd.at_string (Kd.C_below H2.out BL.out) (j : Int) hj0 hlt2
  rw [Int.toNat_natCast] at k1 k2
  have g1 : xs[j]? = some (rdOf ByteArray.empty xs (j : Int)) := by unfold rdOf; rw [Int.toNat_natCast, List.getD_eq_getElem?_getD, List.getElem?_eq_getElem hlt]; rfl
  have g2 : ys[j]? = some (rdOf ByteArray.empty ys (j : Int)) := by unfold rdOf; rw [Int.toNat_natCast, List.getD_eq_getElem?_getD, List.getElem?_eq_getElem (by omega)]; rfl
  generalize rdOf ByteArray.empty xs (j : Int) = x at *
  generalize rdOf ByteArray.empty ys (j : Int) = y at *
  have GG1 := Aside0.mk g1
  have GG2 := Aside0.mk g2
  clear g1 g2
  by_cases hxy : x = y
  · subst hxy
    have HT2 := Aside0.mk (show xs.take (j + 1) = ys.take (j + 1) from by rw [List.take_add_one, List.take_add_one, GG1.out, GG2.out, HT.out])
    clear HT
    go_wp2
    go_quiet (fail)
    go_wp2
    go_roundw
    case rel => exact ⟨j + 1, by omega, by go_num, HT2, ⟨pw_below_drewN BL.out _⟩⟩
    case measure => simp [intOf]; omega
  · have hrf : r = false := by
      rw [← HR.out]
      refine decide_eq_false fun e => hxy ?_
      have h1 := GG1.out
      rw [e, GG2.out] at h1
      exact (Option.some.inj h1).symm
    subst hrf
    have y0 : (x.toList == y.toList) = false := beq_eq_false_iff_ne.mpr fun e => hxy ((pw_toList _ _).1 e)
    have y1 : (x.toList != y.toList) = true := bne_iff_ne.mpr fun e => hxy ((pw_toList _ _).1 e)
    clear hxy HT HR
    go_wp2
    go_quiet (fail)
    go_wp2
    go_ret
    exact ⟨rfl, pw_below_drewN BL.out _⟩
/-- Equal rows of texts are told to be. -/
theorem slices_Equal_string_string.same (xs : List ByteArray) (A1 A2 : Option Addr) (c1 c2 : Nat) (w : World) (h1 : Kd.C Kd.string w A1 xs.length xs) (h2 : Kd.C Kd.string w A2 xs.length xs) :
    Calls Try.prog 22 #[.slice A1 xs.length c1, .slice A2 xs.length c2] w fun e w' => e = .returned (.bool true) ∧ Below w.heap.size w w' := by
  have h := slices_Equal_string_string.any xs xs A1 A2 c1 c2 w h1 h2
  rwa [show decide (xs = xs) = true from decide_eq_true rfl] at h

end Go.Proofs.Ytnipcocllhfaoaa.A

/- Go functions of this seat come to the answers of the Lean functions that stand here ('.calls'), under what each theorem states and nothing else. Written by pw.py, a program of this session, with texts of its own. -/
import Derived.Test.YthgcpicflmigjaaF0
import Derived.Test.YthgcpicflmigjaaF3
import Derived.Test.YthgcpicflmigjaaF5
import Derived.Test.YthgcpicflmigjaaF8
import Derived.Test.YthgcpicflmigjaaF9
import Derived.Test.YthgcpicflmigjaaF10
import Derived.Test.YthgcpicflmigjaaF12
namespace Go.Proofs.Ythgcpicflmigjaa.F
open Go.RowKit Go.Proofs.YthgcpicflmigjaaW.PrintWords Go.Proofs.YthgcpicflmigjaaW.PrintLast Go.Proofs.YthgcpicflmigjaaW.PrintMore
attribute [local go_sem] max2_int min2_int max_two min_two max_three min_three max_four min_four   -- for this text's walks alone
set_option linter.unusedVariables false
set_option linter.unusedSimpArgs false
set_option maxRecDepth 100000

/-! ### laws_FnPrincipal: function 8 -/
mutual
def laws_FnPrincipal.j0 : Nat → Int → List ByteArray → ByteArray → Bool → Bool → Option (Bool)
  | 0, _, _, _, _, _ => none
  | k + 1, x0, x1, x2, x3, x20 => if x20 = true then (some true) else ((laws_partsRight.f k x1).bind fun t242 => (if t242 = true then (if (x2.size : Int) > 50 then (laws_FnPrincipal.j1 k x0 x1 x2 x3 true) else ((spec_CountByte.f k x2 64).bind fun t243 => (laws_FnPrincipal.j1 k x0 x1 x2 x3 (decide (t243 > 0))))) else (laws_FnPrincipal.j1 k x0 x1 x2 x3 true)))
def laws_FnPrincipal.j1 : Nat → Int → List ByteArray → ByteArray → Bool → Bool → Option (Bool)
  | 0, _, _, _, _, _ => none
  | k + 1, x0, x1, x2, x3, x33 => if x33 = true then ((laws_plainAwake.f k).bind fun t244 => (some t244)) else ((spec_Joined.f k x1 (⟨#[47]⟩ : ByteArray)).bind fun t245 => ((impl_PrincipalOf.f k x0 t245).bind fun bt246 => (if bt246.1 = x0 then ((slices_Equal_string_string.f k bt246.2 x1).bind fun t251 => (if t251 = true then ((impl_PrincipalText.f bt246.1 bt246.2).bind fun t252 => (if t252.toList = t245.toList then ((impl_PrincipalSalt.f k bt246.1 bt246.2 x2).bind fun t253 => ((spec_Joined.f k x1 (⟨#[]⟩ : ByteArray)).bind fun t254 => (if x2.size + t254.size ≤ 9223372036854775807 then (laws_FnPrincipal.j2 k x1 x2 x3 t245 (t253.toList != (x2 ++ t254).toList)) else (none)))) else (laws_FnPrincipal.j2 k x1 x2 x3 t245 true))) else (laws_FnPrincipal.j2 k x1 x2 x3 t245 true))) else (laws_FnPrincipal.j2 k x1 x2 x3 t245 true))))
def laws_FnPrincipal.j2 : Nat → List ByteArray → ByteArray → Bool → ByteArray → Bool → Option (Bool)
  | 0, _, _, _, _, _ => none
  | k + 1, x1, x2, x3, x9, x66 => if x66 = true then (some false) else (if x3 = true then (if 1 + x2.size ≤ 9223372036854775807 then (if x9.size + ((⟨#[64]⟩ : ByteArray) ++ x2).size ≤ 9223372036854775807 then ((impl_ParseSPN.f k (x9 ++ ((⟨#[64]⟩ : ByteArray) ++ x2))).bind fun bt255 => (if bt255.2.2.toList = x2.toList then (if bt255.1 = 1 then ((slices_Equal_string_string.f k bt255.2.1 x1).bind fun t261 => (if t261 = true then ((laws_plainAwake.f k).bind fun t262 => (some t262)) else (some false))) else (some false)) else (some false))) else (none)) else (none)) else ((impl_ParseSPN.f k x9).bind fun bt263 => (if bt263.2.2.toList = ([] : List UInt8) then (if bt263.1 = 1 then ((slices_Equal_string_string.f k bt263.2.1 x1).bind fun t269 => (if t269 = true then ((laws_plainAwake.f k).bind fun t270 => (some t270)) else (some false))) else (some false)) else (some false))))
end
def laws_FnPrincipal.f (k : Nat) (a0 : Int) (l1 : List ByteArray) (a2 : ByteArray) (a3 : Bool) : Option (Bool) := (laws_zzFits4.f k l1).bind fun t241 => (if t241 = true then (laws_FnPrincipal.j0 k a0 l1 a2 a3 (decide ((a2.size : Int) > 2147483647))) else (laws_FnPrincipal.j0 k a0 l1 a2 a3 true))
set_option maxRecDepth 100000 in
theorem laws_FnPrincipal.mono_l : ∀ k, (∀ y0 y1 y2 y3 y4, LeO (laws_FnPrincipal.j0 k y0 y1 y2 y3 y4) (laws_FnPrincipal.j0 (k + 1) y0 y1 y2 y3 y4)) ∧ (∀ y0 y1 y2 y3 y4, LeO (laws_FnPrincipal.j1 k y0 y1 y2 y3 y4) (laws_FnPrincipal.j1 (k + 1) y0 y1 y2 y3 y4)) ∧ (∀ y0 y1 y2 y3 y4, LeO (laws_FnPrincipal.j2 k y0 y1 y2 y3 y4) (laws_FnPrincipal.j2 (k + 1) y0 y1 y2 y3 y4))
  | 0 => ⟨fun _ _ _ _ _ r h => by simp [laws_FnPrincipal.j0] at h, fun _ _ _ _ _ r h => by simp [laws_FnPrincipal.j1] at h, fun _ _ _ _ _ r h => by simp [laws_FnPrincipal.j2] at h⟩
  | k + 1 => by
    obtain ⟨ih0, ih1, ih2⟩ := laws_FnPrincipal.mono_l k
    refine ⟨?_, ?_, ?_⟩
    · intro y0 y1 y2 y3 y4
      unfold laws_FnPrincipal.j0
      repeat' first
      | (with_reducible exact ih0 _ _ _ _ _)
      | (with_reducible exact ih1 _ _ _ _ _)
      | (with_reducible exact ih2 _ _ _ _ _)
      | (with_reducible exact impl_ParseSPN.mono _ _)
      | (with_reducible exact impl_PrincipalOf.mono _ _ _)
      | (with_reducible exact impl_PrincipalSalt.mono _ _ _ _)
      | (with_reducible exact laws_partsRight.mono _ _)
      | (with_reducible exact laws_plainAwake.mono _)
      | (with_reducible exact laws_zzFits4.mono _ _)
      | (with_reducible exact slices_Equal_string_string.mono _ _ _)
      | (with_reducible exact spec_CountByte.mono _ _ _)
      | (with_reducible exact spec_Joined.mono _ _ _)
      | (with_reducible exact LeO.refl _)
      | (with_reducible exact LeO.none _)
      | (with_reducible refine LeO.ite ?_ ?_)
      | (with_reducible refine LeO.bind ?_ (fun _ => ?_))
      | exact ih0 _ _ _ _ _
      | exact ih1 _ _ _ _ _
      | exact ih2 _ _ _ _ _
      | exact impl_ParseSPN.mono _ _
      | exact impl_PrincipalOf.mono _ _ _
      | exact impl_PrincipalSalt.mono _ _ _ _
      | exact laws_partsRight.mono _ _
      | exact laws_plainAwake.mono _
      | exact laws_zzFits4.mono _ _
      | exact slices_Equal_string_string.mono _ _ _
      | exact spec_CountByte.mono _ _ _
      | exact spec_Joined.mono _ _ _
      | exact LeO.none _
      | refine LeO.ite ?_ ?_
      | refine LeO.bind ?_ (fun _ => ?_)
    · intro y0 y1 y2 y3 y4
      unfold laws_FnPrincipal.j1
      repeat' first
      | (with_reducible exact ih0 _ _ _ _ _)
      | (with_reducible exact ih1 _ _ _ _ _)
      | (with_reducible exact ih2 _ _ _ _ _)
      | (with_reducible exact impl_ParseSPN.mono _ _)
      | (with_reducible exact impl_PrincipalOf.mono _ _ _)
      | (with_reducible exact impl_PrincipalSalt.mono _ _ _ _)
      | (with_reducible exact laws_partsRight.mono _ _)
      | (with_reducible exact laws_plainAwake.mono _)
      | (with_reducible exact laws_zzFits4.mono _ _)
      | (with_reducible exact slices_Equal_string_string.mono _ _ _)
      | (with_reducible exact spec_CountByte.mono _ _ _)
      | (with_reducible exact spec_Joined.mono _ _ _)
      | (with_reducible exact LeO.refl _)
      | (with_reducible exact LeO.none _)
      | (with_reducible refine LeO.ite ?_ ?_)
      | (with_reducible refine LeO.bind ?_ (fun _ => ?_))
      | exact ih0 _ _ _ _ _
      | exact ih1 _ _ _ _ _
      | exact ih2 _ _ _ _ _
      | exact impl_ParseSPN.mono _ _
      | exact impl_PrincipalOf.mono _ _ _
      | exact impl_PrincipalSalt.mono _ _ _ _
      | exact laws_partsRight.mono _ _
      | exact laws_plainAwake.mono _
      | exact laws_zzFits4.mono _ _
      | exact slices_Equal_string_string.mono _ _ _
      | exact spec_CountByte.mono _ _ _
      | exact spec_Joined.mono _ _ _
      | exact LeO.none _
      | refine LeO.ite ?_ ?_
      | refine LeO.bind ?_ (fun _ => ?_)
    · intro y0 y1 y2 y3 y4
      unfold laws_FnPrincipal.j2
      repeat' first
      | (with_reducible exact ih0 _ _ _ _ _)
      | (with_reducible exact ih1 _ _ _ _ _)
      | (with_reducible exact ih2 _ _ _ _ _)
      | (with_reducible exact impl_ParseSPN.mono _ _)
      | (with_reducible exact impl_PrincipalOf.mono _ _ _)
      | (with_reducible exact impl_PrincipalSalt.mono _ _ _ _)
      | (with_reducible exact laws_partsRight.mono _ _)
      | (with_reducible exact laws_plainAwake.mono _)
      | (with_reducible exact laws_zzFits4.mono _ _)
      | (with_reducible exact slices_Equal_string_string.mono _ _ _)
      | (with_reducible exact spec_CountByte.mono _ _ _)
      | (with_reducible exact spec_Joined.mono _ _ _)
      | (with_reducible exact LeO.refl _)
      | (with_reducible exact LeO.none _)
      | (with_reducible refine LeO.ite ?_ ?_)
      | (with_reducible refine LeO.bind ?_ (fun _ => ?_))
      | exact ih0 _ _ _ _ _
      | exact ih1 _ _ _ _ _
      | exact ih2 _ _ _ _ _
      | exact impl_ParseSPN.mono _ _
      | exact impl_PrincipalOf.mono _ _ _
      | exact impl_PrincipalSalt.mono _ _ _ _
      | exact laws_partsRight.mono _ _
      | exact laws_plainAwake.mono _
      | exact laws_zzFits4.mono _ _
      | exact slices_Equal_string_string.mono _ _ _
      | exact spec_CountByte.mono _ _ _
      | exact spec_Joined.mono _ _ _
      | exact LeO.none _
      | refine LeO.ite ?_ ?_
      | refine LeO.bind ?_ (fun _ => ?_)
set_option maxRecDepth 100000 in
theorem laws_FnPrincipal.mono : ∀ a0 a1 a2 a3 k, LeO (laws_FnPrincipal.f k a0 a1 a2 a3) (laws_FnPrincipal.f (k + 1) a0 a1 a2 a3) := by
  intro a0 a1 a2 a3 k
  obtain ⟨ih0, ih1, ih2⟩ := laws_FnPrincipal.mono_l k
  unfold laws_FnPrincipal.f
  repeat' first
      | (with_reducible exact ih0 _ _ _ _ _)
      | (with_reducible exact ih1 _ _ _ _ _)
      | (with_reducible exact ih2 _ _ _ _ _)
      | (with_reducible exact impl_ParseSPN.mono _ _)
      | (with_reducible exact impl_PrincipalOf.mono _ _ _)
      | (with_reducible exact impl_PrincipalSalt.mono _ _ _ _)
      | (with_reducible exact laws_partsRight.mono _ _)
      | (with_reducible exact laws_plainAwake.mono _)
      | (with_reducible exact laws_zzFits4.mono _ _)
      | (with_reducible exact slices_Equal_string_string.mono _ _ _)
      | (with_reducible exact spec_CountByte.mono _ _ _)
      | (with_reducible exact spec_Joined.mono _ _ _)
      | (with_reducible exact LeO.refl _)
      | (with_reducible exact LeO.none _)
      | (with_reducible refine LeO.ite ?_ ?_)
      | (with_reducible refine LeO.bind ?_ (fun _ => ?_))
      | exact ih0 _ _ _ _ _
      | exact ih1 _ _ _ _ _
      | exact ih2 _ _ _ _ _
      | exact impl_ParseSPN.mono _ _
      | exact impl_PrincipalOf.mono _ _ _
      | exact impl_PrincipalSalt.mono _ _ _ _
      | exact laws_partsRight.mono _ _
      | exact laws_plainAwake.mono _
      | exact laws_zzFits4.mono _ _
      | exact slices_Equal_string_string.mono _ _ _
      | exact spec_CountByte.mono _ _ _
      | exact spec_Joined.mono _ _ _
      | exact LeO.none _
      | refine LeO.ite ?_ ?_
      | refine LeO.bind ?_ (fun _ => ?_)
set_option maxHeartbeats 8000000 in
set_option maxRecDepth 100000 in
theorem laws_FnPrincipal.calls (k : Nat) (a0 : Int) (A1 : Option Addr) (c1 : Nat) (l1 : List ByteArray) (a2 : ByteArray) (a3 : Bool) (r : Bool) (w : World) (hr1 : Kd.C Kd.string w A1 l1.length l1) (hc1 : l1.length ≤ c1) (h : laws_FnPrincipal.f k a0 l1 a2 a3 = some r) :
    Calls Try.prog 8 #[.int .i32 a0, .slice A1 l1.length c1, .string a2, .bool a3] w fun e w' => e = .returned (.bool r) ∧ Below w.heap.size w w' := by
  have hu53 := Try.underlying53
  have HR1 := Aside0.mk hr1
  have HC1 := Aside0.mk hc1
  clear hr1 hc1
  have HB := Aside0.mk (Below.refl w.heap.size w)
  have H : ((laws_zzFits4.f k l1).bind fun t241 => (if t241 = true then (laws_FnPrincipal.j0 k a0 l1 a2 a3 (decide ((a2.size : Int) > 2147483647))) else (laws_FnPrincipal.j0 k a0 l1 a2 a3 true))) = some r := h
  clear h
  have HC5 := Aside0.mk H
  clear H
  go_enter Try.func8, Try.ntmps8
  go_upto_region 1 with (fail)
  go_cut [20] (fun v20 wc => ∃ (kq : Nat) (x20_4 : Bool), v20 = .bool x20_4 ∧ Aside0 (laws_FnPrincipal.j0 kq a0 l1 a2 a3 x20_4 = some r) ∧ Aside0 (kq ≤ k) ∧ Aside0 (Below w.heap.size w wc))
  case first =>
    have H := HC5.out
    clear HC5
    replace H := Option.bind_eq_some_iff.mp H
    obtain ⟨t241, A60, H⟩ := H
    replace H : (if t241 = true then (laws_FnPrincipal.j0 k a0 l1 a2 a3 (decide ((a2.size : Int) > 2147483647))) else (laws_FnPrincipal.j0 k a0 l1 a2 a3 true)) = some r := H
    have A6 := Aside0.mk A60
    clear A60
    by_cases c7 : t241 = true
    · subst c7
      have H1 : (laws_FnPrincipal.j0 k a0 l1 a2 a3 (decide ((a2.size : Int) > 2147483647))) = some r := by rw [if_pos rfl] at H; exact H
      clear H
      have H := H1
      clear H1
      have H' := Aside0.mk H
      clear H
      go_wp2_with (first | ((with_reducible refine gate_callee (f := 14) rfl ?_); refine goesL_ (some 14) rfl rfl Try.func14 (by kernel_rfl) rfl #[.slice A1 l1.length c1] rfl (by (try simp only [List.map_toArray, List.map_cons, List.map_nil]); first | done | rfl | (simp only [List.length_drop, List.length_take]; rfl)) ?_; (with_reducible refine (laws_zzFits4.calls k _ _ l1 true _ ?side1 ?side2 A6.out).mono ?_); (case side1 => repeat (first | exact (Kd.C_below HR1.out HB.out) | (with_reducible refine Kd.C_alloc ?_ _) | (with_reducible refine Kd.C_drewN ?_ _) | (with_reducible refine Kd.C_drew ?_))); (case side2 => exact HC1.out); rintro e w' ⟨rfl, ⟨nd, rfl⟩⟩; refine ⟨_, rfl, ?_⟩))
      go_meet
      case rel => exact ⟨_, (decide ((a2.size : Int) > 2147483647)), (by first | rfl | (simp; done) | (simp [*]; done)), H', ⟨by first | omega | exact Nat.le_refl _⟩, ⟨by repeat (first | (with_reducible first | exact HB.out | apply below_alloc | apply pw_below_drewN | apply below_drew1) | exact HB.out)⟩⟩
    · replace c7 := Bool.eq_false_iff.mpr c7
      subst c7
      have H1 : (laws_FnPrincipal.j0 k a0 l1 a2 a3 true) = some r := by rw [if_neg (show ¬ (false = true) by decide)] at H; exact H
      clear H
      have H := H1
      clear H1
      have H' := Aside0.mk H
      clear H
      go_wp2_with (first | ((with_reducible refine gate_callee (f := 14) rfl ?_); refine goesL_ (some 14) rfl rfl Try.func14 (by kernel_rfl) rfl #[.slice A1 l1.length c1] rfl (by (try simp only [List.map_toArray, List.map_cons, List.map_nil]); first | done | rfl | (simp only [List.length_drop, List.length_take]; rfl)) ?_; (with_reducible refine (laws_zzFits4.calls k _ _ l1 false _ ?side1 ?side2 A6.out).mono ?_); (case side1 => repeat (first | exact (Kd.C_below HR1.out HB.out) | (with_reducible refine Kd.C_alloc ?_ _) | (with_reducible refine Kd.C_drewN ?_ _) | (with_reducible refine Kd.C_drew ?_))); (case side2 => exact HC1.out); rintro e w' ⟨rfl, ⟨nd, rfl⟩⟩; refine ⟨_, rfl, ?_⟩))
      go_meet
      case rel => exact ⟨_, (true), (by first | rfl | (simp; done) | (simp [*]; done)), H', ⟨by first | omega | exact Nat.le_refl _⟩, ⟨by repeat (first | (with_reducible first | exact HB.out | apply below_alloc | apply pw_below_drewN | apply below_drew1) | exact HB.out)⟩⟩
  case rest =>
    clear HC5
    try clear c1
    try clear p2
    try clear c7
    obtain ⟨kq, x20_4, rfl, HA, HJ4, HB⟩ := hcut
    cases kq with
    | zero => exact absurd HA.out (by simp [laws_FnPrincipal.j0])
    | succ kj4 =>
      have H := HA.out
      clear HA
      simp only [laws_FnPrincipal.j0] at H
      by_cases c8 : x20_4 = true
      · subst c8
        have H1 : (some true) = some r := by rw [if_pos rfl] at H; exact H
        clear H
        have H := H1
        clear H1
        obtain rfl := Option.some.inj H
        go_wp2
        go_ret
        exact ⟨by first | rfl | (simp [errW_none, errW_some] <;> rfl) | (simp [*, errW_none, errW_some] <;> rfl), by repeat (first | (with_reducible first | exact HB.out | apply below_alloc | apply pw_below_drewN | apply below_drew1) | exact HB.out)⟩
      · replace c8 := Bool.eq_false_iff.mpr c8
        subst c8
        have H1 : ((laws_partsRight.f kj4 l1).bind fun t242 => (if t242 = true then (if (a2.size : Int) > 50 then (laws_FnPrincipal.j1 kj4 a0 l1 a2 a3 true) else ((spec_CountByte.f kj4 a2 64).bind fun t243 => (laws_FnPrincipal.j1 kj4 a0 l1 a2 a3 (decide (t243 > 0))))) else (laws_FnPrincipal.j1 kj4 a0 l1 a2 a3 true))) = some r := by rw [if_neg (show ¬ (false = true) by decide)] at H; exact H
        clear H
        have H := H1
        clear H1
        have HC9 := Aside0.mk H
        clear H
        go_upto_region 3 with (fail)
        go_cut [33] (fun v33 wc => ∃ (kq : Nat) (x33_8 : Bool), v33 = .bool x33_8 ∧ Aside0 (laws_FnPrincipal.j1 kq a0 l1 a2 a3 x33_8 = some r) ∧ Aside0 (kq ≤ kj4) ∧ Aside0 (Below w.heap.size w wc))
        case first =>
          have H := HC9.out
          clear HC9
          replace H := Option.bind_eq_some_iff.mp H
          obtain ⟨t242, A100, H⟩ := H
          replace H : (if t242 = true then (if (a2.size : Int) > 50 then (laws_FnPrincipal.j1 kj4 a0 l1 a2 a3 true) else ((spec_CountByte.f kj4 a2 64).bind fun t243 => (laws_FnPrincipal.j1 kj4 a0 l1 a2 a3 (decide (t243 > 0))))) else (laws_FnPrincipal.j1 kj4 a0 l1 a2 a3 true)) = some r := H
          have A10 := Aside0.mk A100
          clear A100
          by_cases c11 : t242 = true
          · subst c11
            have H1 : (if (a2.size : Int) > 50 then (laws_FnPrincipal.j1 kj4 a0 l1 a2 a3 true) else ((spec_CountByte.f kj4 a2 64).bind fun t243 => (laws_FnPrincipal.j1 kj4 a0 l1 a2 a3 (decide (t243 > 0))))) = some r := by rw [if_pos rfl] at H; exact H
            clear H
            have H := H1
            clear H1
            by_cases c12 : (a2.size : Int) > 50
            · rw [if_pos c12] at H
              have c12b0 : decide (50 < (a2.size : Int)) = true := decide_eq_true c12
              have c12b1 : decide (50 < a2.size) = true := decide_eq_true (by omega)
              clear c12
              (first | rw [c12b0] | (simp only [i64_w, i32_w]; rw [c12b0]) | skip)
              have H' := Aside0.mk H
              clear H
              go_wp2_with (first | ((with_reducible refine gate_callee (f := 30) rfl ?_); refine goesL_ (some 22) rfl rfl Try.func30 (by kernel_rfl) rfl #[.slice A1 l1.length c1] rfl (by (try simp only [List.map_toArray, List.map_cons, List.map_nil]); first | done | rfl | (simp only [List.length_drop, List.length_take]; rfl)) ?_; (with_reducible refine (laws_partsRight.calls kj4 _ _ l1 true _ ?side1 ?side2 A10.out).mono ?_); (case side1 => repeat (first | exact (Kd.C_below HR1.out HB.out) | (with_reducible refine Kd.C_alloc ?_ _) | (with_reducible refine Kd.C_drewN ?_ _) | (with_reducible refine Kd.C_drew ?_))); (case side2 => exact HC1.out); rintro e w' ⟨rfl, ⟨nd, rfl⟩⟩; refine ⟨_, rfl, ?_⟩))
              go_meet
              case rel => exact ⟨_, (true), (by first | rfl | (simp; done) | (simp [*]; done)), H', ⟨by have := HJ4.out; first | omega | exact Nat.le_refl _⟩, ⟨by repeat (first | (with_reducible first | exact HB.out | apply below_alloc | apply pw_below_drewN | apply below_drew1) | exact HB.out)⟩⟩
            · rw [if_neg c12] at H
              have c12b0 : decide (50 < (a2.size : Int)) = false := decide_eq_false c12
              have c12b1 : decide (50 < a2.size) = false := decide_eq_false (by omega)
              clear c12
              (first | rw [c12b0] | (simp only [i64_w, i32_w]; rw [c12b0]) | skip)
              replace H := Option.bind_eq_some_iff.mp H
              obtain ⟨t243, A130, H⟩ := H
              replace H : (laws_FnPrincipal.j1 kj4 a0 l1 a2 a3 (decide (t243 > 0))) = some r := H
              have A13 := Aside0.mk A130
              clear A130
              have H' := Aside0.mk H
              clear H
              go_wp2_with (first | ((with_reducible refine gate_callee (f := 30) rfl ?_); refine goesL_ (some 22) rfl rfl Try.func30 (by kernel_rfl) rfl #[.slice A1 l1.length c1] rfl (by (try simp only [List.map_toArray, List.map_cons, List.map_nil]); first | done | rfl | (simp only [List.length_drop, List.length_take]; rfl)) ?_; (with_reducible refine (laws_partsRight.calls kj4 _ _ l1 true _ ?side1 ?side2 A10.out).mono ?_); (case side1 => repeat (first | exact (Kd.C_below HR1.out HB.out) | (with_reducible refine Kd.C_alloc ?_ _) | (with_reducible refine Kd.C_drewN ?_ _) | (with_reducible refine Kd.C_drew ?_))); (case side2 => exact HC1.out); rintro e w' ⟨rfl, ⟨nd, rfl⟩⟩; refine ⟨_, rfl, ?_⟩) | (go_at_call 33; (with_reducible refine (spec_CountByte.calls kj4 a2 64 t243 _ A13.out).mono ?_); rintro e w' ⟨rfl, ⟨nd, rfl⟩⟩))
              go_meet
              case rel => exact ⟨_, (decide (t243 > 0)), (by first | rfl | (simp; done) | (simp [*]; done)), H', ⟨by have := HJ4.out; first | omega | exact Nat.le_refl _⟩, ⟨by repeat (first | (with_reducible first | exact HB.out | apply below_alloc | apply pw_below_drewN | apply below_drew1) | exact HB.out)⟩⟩
          · replace c11 := Bool.eq_false_iff.mpr c11
            subst c11
            have H1 : (laws_FnPrincipal.j1 kj4 a0 l1 a2 a3 true) = some r := by rw [if_neg (show ¬ (false = true) by decide)] at H; exact H
            clear H
            have H := H1
            clear H1
            have H' := Aside0.mk H
            clear H
            go_wp2_with (first | ((with_reducible refine gate_callee (f := 30) rfl ?_); refine goesL_ (some 22) rfl rfl Try.func30 (by kernel_rfl) rfl #[.slice A1 l1.length c1] rfl (by (try simp only [List.map_toArray, List.map_cons, List.map_nil]); first | done | rfl | (simp only [List.length_drop, List.length_take]; rfl)) ?_; (with_reducible refine (laws_partsRight.calls kj4 _ _ l1 false _ ?side1 ?side2 A10.out).mono ?_); (case side1 => repeat (first | exact (Kd.C_below HR1.out HB.out) | (with_reducible refine Kd.C_alloc ?_ _) | (with_reducible refine Kd.C_drewN ?_ _) | (with_reducible refine Kd.C_drew ?_))); (case side2 => exact HC1.out); rintro e w' ⟨rfl, ⟨nd, rfl⟩⟩; refine ⟨_, rfl, ?_⟩))
            go_meet
            case rel => exact ⟨_, (true), (by first | rfl | (simp; done) | (simp [*]; done)), H', ⟨by have := HJ4.out; first | omega | exact Nat.le_refl _⟩, ⟨by repeat (first | (with_reducible first | exact HB.out | apply below_alloc | apply pw_below_drewN | apply below_drew1) | exact HB.out)⟩⟩
        case rest =>
          clear HC9
          try clear c1
          try clear p2
          try clear c3
          try clear c7
          try clear c8
          try clear c11
          try clear c12
          try clear c12b0
          try clear c12b1
          try clear p2
          obtain ⟨kq, x33_8, rfl, HA, HJ8, HB⟩ := hcut
          cases kq with
          | zero => exact absurd HA.out (by simp [laws_FnPrincipal.j1])
          | succ kj8 =>
            have H := HA.out
            clear HA
            simp only [laws_FnPrincipal.j1] at H
            by_cases c14 : x33_8 = true
            · subst c14
              have H1 : ((laws_plainAwake.f kj8).bind fun t244 => (some t244)) = some r := by rw [if_pos rfl] at H; exact H
              clear H
              have H := H1
              clear H1
              replace H := Option.bind_eq_some_iff.mp H
              obtain ⟨t244, A150, H⟩ := H
              replace H : (some t244) = some r := H
              have A15 := Aside0.mk A150
              clear A150
              obtain rfl := Option.some.inj H
              go_wp2_with (first | ((with_reducible refine gate_callee (f := 26) rfl ?_); refine goesL_ (some 34) rfl rfl Try.func26 (by kernel_rfl) rfl #[] rfl (by (try simp only [List.map_toArray, List.map_cons, List.map_nil]); first | done | rfl | (simp only [List.length_drop, List.length_take]; rfl)) ?_; (with_reducible refine (laws_plainAwake.calls kj8  t244 _ A15.out).mono ?_); rintro e w16 ⟨rfl, hb⟩; refine ⟨_, rfl, ?_⟩; have n0_ := Aside0.mk (below_step (by repeat (first | (with_reducible first | exact HB.out | apply below_alloc | apply pw_below_drewN | apply below_drew1) | exact HB.out)) hb); clear HB; have HB := n0_; clear n0_; (try clear hb); (try clear hb2); (try clear hk); (try clear hi)))
              go_ret
              exact ⟨by first | rfl | (simp [errW_none, errW_some] <;> rfl) | (simp [*, errW_none, errW_some] <;> rfl), by repeat (first | (with_reducible first | exact HB.out | apply below_alloc | apply pw_below_drewN | apply below_drew1) | exact HB.out)⟩
            · replace c14 := Bool.eq_false_iff.mpr c14
              subst c14
              have H1 : ((spec_Joined.f kj8 l1 (⟨#[47]⟩ : ByteArray)).bind fun t245 => ((impl_PrincipalOf.f kj8 a0 t245).bind fun bt246 => (if bt246.1 = a0 then ((slices_Equal_string_string.f kj8 bt246.2 l1).bind fun t251 => (if t251 = true then ((impl_PrincipalText.f bt246.1 bt246.2).bind fun t252 => (if t252.toList = t245.toList then ((impl_PrincipalSalt.f kj8 bt246.1 bt246.2 a2).bind fun t253 => ((spec_Joined.f kj8 l1 (⟨#[]⟩ : ByteArray)).bind fun t254 => (if a2.size + t254.size ≤ 9223372036854775807 then (laws_FnPrincipal.j2 kj8 l1 a2 a3 t245 (t253.toList != (a2 ++ t254).toList)) else (none)))) else (laws_FnPrincipal.j2 kj8 l1 a2 a3 t245 true))) else (laws_FnPrincipal.j2 kj8 l1 a2 a3 t245 true))) else (laws_FnPrincipal.j2 kj8 l1 a2 a3 t245 true)))) = some r := by rw [if_neg (show ¬ (false = true) by decide)] at H; exact H
              clear H
              have H := H1
              clear H1
              replace H := Option.bind_eq_some_iff.mp H
              obtain ⟨t245, A170, H⟩ := H
              replace H : ((impl_PrincipalOf.f kj8 a0 t245).bind fun bt246 => (if bt246.1 = a0 then ((slices_Equal_string_string.f kj8 bt246.2 l1).bind fun t251 => (if t251 = true then ((impl_PrincipalText.f bt246.1 bt246.2).bind fun t252 => (if t252.toList = t245.toList then ((impl_PrincipalSalt.f kj8 bt246.1 bt246.2 a2).bind fun t253 => ((spec_Joined.f kj8 l1 (⟨#[]⟩ : ByteArray)).bind fun t254 => (if a2.size + t254.size ≤ 9223372036854775807 then (laws_FnPrincipal.j2 kj8 l1 a2 a3 t245 (t253.toList != (a2 ++ t254).toList)) else (none)))) else (laws_FnPrincipal.j2 kj8 l1 a2 a3 t245 true))) else (laws_FnPrincipal.j2 kj8 l1 a2 a3 t245 true))) else (laws_FnPrincipal.j2 kj8 l1 a2 a3 t245 true))) = some r := H
              have A17 := Aside0.mk A170
              clear A170
              replace H := Option.bind_eq_some_iff.mp H
              obtain ⟨⟨t246, t247⟩, A180, H⟩ := H
              replace H : (if t246 = a0 then ((slices_Equal_string_string.f kj8 t247 l1).bind fun t251 => (if t251 = true then ((impl_PrincipalText.f t246 t247).bind fun t252 => (if t252.toList = t245.toList then ((impl_PrincipalSalt.f kj8 t246 t247 a2).bind fun t253 => ((spec_Joined.f kj8 l1 (⟨#[]⟩ : ByteArray)).bind fun t254 => (if a2.size + t254.size ≤ 9223372036854775807 then (laws_FnPrincipal.j2 kj8 l1 a2 a3 t245 (t253.toList != (a2 ++ t254).toList)) else (none)))) else (laws_FnPrincipal.j2 kj8 l1 a2 a3 t245 true))) else (laws_FnPrincipal.j2 kj8 l1 a2 a3 t245 true))) else (laws_FnPrincipal.j2 kj8 l1 a2 a3 t245 true)) = some r := H
              have A18 := Aside0.mk A180
              clear A180
              have HC19 := Aside0.mk H
              clear H
              go_upto_region 7 with (first | ((with_reducible refine gate_callee (f := 34) rfl ?_); refine goesL_ (some 36) rfl rfl Try.func34 (by kernel_rfl) rfl #[.slice A1 l1.length c1, .string (⟨#[47]⟩ : ByteArray)] rfl (by (try simp only [List.map_toArray, List.map_cons, List.map_nil]); first | done | rfl | (simp only [List.length_drop, List.length_take]; rfl)) ?_; (with_reducible refine (spec_Joined.calls kj8 _ _ l1 (⟨#[47]⟩ : ByteArray) t245 _ ?side1 ?side2 A17.out).mono ?_); (case side1 => repeat (first | exact (Kd.C_below HR1.out HB.out) | (with_reducible refine Kd.C_alloc ?_ _) | (with_reducible refine Kd.C_drewN ?_ _) | (with_reducible refine Kd.C_drew ?_))); (case side2 => exact HC1.out); rintro e w' ⟨rfl, ⟨nd, rfl⟩⟩; refine ⟨_, rfl, ?_⟩; (try (rw [drewN_self wc]; generalize hq_ : World.drewN wc _ = wc; have n0_ : Aside0 (Below w.heap.size w wc) := ⟨by rw [← hq_]; exact (by repeat (first | (with_reducible first | exact HB.out | apply below_alloc | apply pw_below_drewN | apply below_drew1) | exact HB.out))⟩; clear HB hq_; have HB := n0_; clear n0_))) | ((with_reducible refine gate_callee (f := 35) rfl ?_); refine goesL_ (some 39) rfl rfl Try.func35 (by kernel_rfl) rfl #[.int .i32 a0, .string t245] rfl (by (try simp only [List.map_toArray, List.map_cons, List.map_nil]); first | done | rfl | (simp only [List.length_drop, List.length_take]; rfl)) ?_; (with_reducible refine (impl_PrincipalOf.calls kj8 a0 t245 t246 t247 _ A18.out).mono ?_); rintro e w20 ⟨v248, rfl, ho0, hb⟩; refine ⟨_, rfl, ?_⟩; have n0_ := Aside0.mk (Kd.R_lower ho0 (below_size (by repeat (first | (with_reducible first | exact HB.out | apply below_alloc | apply pw_below_drewN | apply below_drew1) | exact HB.out)))); have n1_ := Aside0.mk (below_step (by repeat (first | (with_reducible first | exact HB.out | apply below_alloc | apply pw_below_drewN | apply below_drew1) | exact HB.out)) hb); clear HB; have HO249 := n0_; have HB := n1_; clear n0_ n1_; (try clear hb); (try clear hb2); (try clear hk); (try clear hi); (try clear ho0)) | ((with_reducible refine gate_dst (N := 10) rfl ?_); (try (refine gate_guard (by rfl) ?_; dsimp only)); refine box_event ?hg (N := 10) ?hd (cs := #[.int .i32 0, .slice none 0 0]) (t := 53) ?hr ?_; (case hd => rfl); (case hg => rfl); (case hr => first | (go_simp; done) | (go_simp; rfl)); intro gb250 hg w21 hbox hb; have n0_ := Aside0.mk (Kd.R_below (by (with_reducible repeat (first | apply Kd.R_alloc | apply Kd.R_drewN | apply Kd.R_drew)); exact HO249.out) hb); have n1_ := Aside0.mk (below_step (by repeat (first | (with_reducible first | exact HB.out | apply below_alloc | apply pw_below_drewN | apply below_drew1) | exact HB.out)) hb); have n2_ := Aside0.mk (hbox); have n3_ := Aside0.mk ((by rw [hg]; exact (below_size (by repeat (first | (with_reducible first | exact HB.out | apply below_alloc | apply pw_below_drewN | apply below_drew1) | exact HB.out))) : w.heap.size ≤ gb250)); have n4_ := Aside0.mk ((by rw [hg]; exact (below_size (by repeat (first | (with_reducible first | exact HB.out | apply below_alloc | apply pw_below_drewN | apply below_drew1) | exact HB.out))) : w.heap.size ≤ gb250)); clear HO249; clear HB; have HO249 := n0_; have HB := n1_; have BK250 := n2_; have GW250 := n3_; have GE250 := n4_; clear n0_ n1_ n2_ n3_ n4_; clear hb hbox hg; have hcz22_0 : w21.cell? ⟨gb250, 0, none⟩ = some (.int .i32 0) := (blk_cell BK250.out 0).trans rfl; have hcz22_1 : w21.cell? ⟨gb250, 1, none⟩ = some (.slice none 0 0) := (blk_cell BK250.out 1).trans rfl; have hfz22_0 := blk_frozen BK250.out 0; have hfz22_1 := blk_frozen BK250.out 1; obtain ⟨Ao23, co23, eo23⟩ := Kd.R_slice HO249.out; subst eo23))
              (try simp only [Act.put, List.setIfInBounds_toArray, List.set_cons_zero, List.set_cons_succ])
              go_cut [66] (fun v66 wc => ∃ (kq : Nat) (x66_18 : Bool), v66 = .bool x66_18 ∧ Aside0 (laws_FnPrincipal.j2 kq l1 a2 a3 t245 x66_18 = some r) ∧ Aside0 (kq ≤ kj8) ∧ Aside0 (Kd.R Kd.string 9 wc w.heap.size (fun _ => True) (.slice Ao23 t247.length co23) t247) ∧ Aside0 (wc.heap[gb250]? = some (.cells #[.int .i32 t246, (.slice Ao23 t247.length co23)] 53 (0, 0))) ∧ Aside0 (Below w.heap.size w wc))
              case first =>
                have H := HC19.out
                clear HC19
                by_cases c24 : t246 = a0
                · rw [if_pos c24] at H
                  have c24b0 : (t246 == a0) = true := beq_iff_eq.mpr c24
                  have c24b1 : (t246 != a0) = false := bne_eq_false_iff_eq.mpr c24
                  clear c24
                  (first | rw [c24b0] | (simp only [i64_w, i32_w]; rw [c24b0]) | skip)
                  replace H := Option.bind_eq_some_iff.mp H
                  obtain ⟨t251, A250, H⟩ := H
                  replace H : (if t251 = true then ((impl_PrincipalText.f t246 t247).bind fun t252 => (if t252.toList = t245.toList then ((impl_PrincipalSalt.f kj8 t246 t247 a2).bind fun t253 => ((spec_Joined.f kj8 l1 (⟨#[]⟩ : ByteArray)).bind fun t254 => (if a2.size + t254.size ≤ 9223372036854775807 then (laws_FnPrincipal.j2 kj8 l1 a2 a3 t245 (t253.toList != (a2 ++ t254).toList)) else (none)))) else (laws_FnPrincipal.j2 kj8 l1 a2 a3 t245 true))) else (laws_FnPrincipal.j2 kj8 l1 a2 a3 t245 true)) = some r := H
                  have A25 := Aside0.mk A250
                  clear A250
                  by_cases c26 : t251 = true
                  · subst c26
                    have H1 : ((impl_PrincipalText.f t246 t247).bind fun t252 => (if t252.toList = t245.toList then ((impl_PrincipalSalt.f kj8 t246 t247 a2).bind fun t253 => ((spec_Joined.f kj8 l1 (⟨#[]⟩ : ByteArray)).bind fun t254 => (if a2.size + t254.size ≤ 9223372036854775807 then (laws_FnPrincipal.j2 kj8 l1 a2 a3 t245 (t253.toList != (a2 ++ t254).toList)) else (none)))) else (laws_FnPrincipal.j2 kj8 l1 a2 a3 t245 true))) = some r := by rw [if_pos rfl] at H; exact H
                    clear H
                    have H := H1
                    clear H1
                    replace H := Option.bind_eq_some_iff.mp H
                    obtain ⟨t252, A270, H⟩ := H
                    replace H : (if t252.toList = t245.toList then ((impl_PrincipalSalt.f kj8 t246 t247 a2).bind fun t253 => ((spec_Joined.f kj8 l1 (⟨#[]⟩ : ByteArray)).bind fun t254 => (if a2.size + t254.size ≤ 9223372036854775807 then (laws_FnPrincipal.j2 kj8 l1 a2 a3 t245 (t253.toList != (a2 ++ t254).toList)) else (none)))) else (laws_FnPrincipal.j2 kj8 l1 a2 a3 t245 true)) = some r := H
                    have A27 := Aside0.mk A270
                    clear A270
                    by_cases c28 : t252.toList = t245.toList
                    · rw [if_pos c28] at H
                      have c28b0 : (t252.toList == t245.toList) = true := beq_iff_eq.mpr c28
                      have c28b1 : (t252.toList != t245.toList) = false := bne_eq_false_iff_eq.mpr c28
                      clear c28
                      replace H := Option.bind_eq_some_iff.mp H
                      obtain ⟨t253, A290, H⟩ := H
                      replace H : ((spec_Joined.f kj8 l1 (⟨#[]⟩ : ByteArray)).bind fun t254 => (if a2.size + t254.size ≤ 9223372036854775807 then (laws_FnPrincipal.j2 kj8 l1 a2 a3 t245 (t253.toList != (a2 ++ t254).toList)) else (none))) = some r := H
                      have A29 := Aside0.mk A290
                      clear A290
                      replace H := Option.bind_eq_some_iff.mp H
                      obtain ⟨t254, A300, H⟩ := H
                      replace H : (if a2.size + t254.size ≤ 9223372036854775807 then (laws_FnPrincipal.j2 kj8 l1 a2 a3 t245 (t253.toList != (a2 ++ t254).toList)) else (none)) = some r := H
                      have A30 := Aside0.mk A300
                      clear A300
                      by_cases c31 : a2.size + t254.size ≤ 9223372036854775807
                      · rw [if_pos c31] at H
                        have c31b0 := eq_true c31
                        have c31b1 : decide (a2.size + t254.size ≤ 9223372036854775807) = true := decide_eq_true c31
                        try have c31b2 : (9223372036854775807 < a2.size + t254.size) = False := eq_false (Nat.not_lt.2 c31)
                        have H' := Aside0.mk H
                        clear H
                        have hcz32_0 : w21.cell? ⟨gb250, 0, none⟩ = some (.int .i32 0) := (blk_cell BK250.out 0).trans rfl
                        have hcz32_1 : w21.cell? ⟨gb250, 1, none⟩ = some (.slice none 0 0) := (blk_cell BK250.out 1).trans rfl
                        have hfz32_0 := blk_frozen BK250.out 0
                        have hfz32_1 := blk_frozen BK250.out 1
                        go_wp2_with (first | (go_at_call 31; (with_reducible refine (slices_Equal_string_string.calls kj8 _ _ t247 _ _ l1 true _ ?side1 ?side2 ?side3 ?side4 A25.out).mono ?_); (case side1 => refine (Kd.R_reads' (e := 9) (base := w.heap.size) (ok := fun k_ => True) (n := t247.length) (c := co23) ?_).2.2; exact (by (with_reducible repeat (first | apply Kd.R_alloc | apply Kd.R_drewN | apply Kd.R_drew)); exact (Kd.R_mono (Kd.R_far (p := ⟨gb250, 1, none⟩) (Kd.R_far (p := ⟨gb250, 0, none⟩) (Kd.R_types HO249.out BK250.out (by decide)) (fun _ hk => hk.2) (.int .i32 t246)) (fun _ hk => hk.2) (.slice Ao23 t247.length co23)) (fun _ h_ => h_.1)))); (case side2 => exact (Kd.R_reads' HO249.out).2.1); (case side3 => exact Kd.C_below HR1.out (by repeat (first | (with_reducible first | exact HB.out | apply below_alloc | apply pw_below_drewN | apply below_drew1 | refine below_set ?_ GE250.out) | exact HB.out))); (case side4 => exact HC1.out); rintro e w' ⟨rfl, ⟨nd, rfl⟩⟩) | (go_at_call 36; (with_reducible refine (impl_PrincipalText.calls t246 _ _ t247 t252 _ ?side1 ?side2 A27.out).mono ?_); (case side1 => refine (Kd.R_reads' (e := 9) (base := w.heap.size) (ok := fun k_ => True) (n := t247.length) (c := co23) ?_).2.2; exact (by (with_reducible repeat (first | apply Kd.R_alloc | apply Kd.R_drewN | apply Kd.R_drew)); exact (Kd.R_mono (Kd.R_far (p := ⟨gb250, 1, none⟩) (Kd.R_far (p := ⟨gb250, 0, none⟩) (Kd.R_types HO249.out BK250.out (by decide)) (fun _ hk => hk.2) (.int .i32 t246)) (fun _ hk => hk.2) (.slice Ao23 t247.length co23)) (fun _ h_ => h_.1)))); (case side2 => exact (Kd.R_reads' HO249.out).2.1); rintro e w33 ⟨rfl, hb⟩; have n0_ := Aside0.mk (Kd.R_below (by (with_reducible repeat (first | apply Kd.R_alloc | apply Kd.R_drewN | apply Kd.R_drew)); exact (Kd.R_mono (Kd.R_far (p := ⟨gb250, 1, none⟩) (Kd.R_far (p := ⟨gb250, 0, none⟩) (Kd.R_types HO249.out BK250.out (by decide)) (fun _ hk => hk.2) (.int .i32 t246)) (fun _ hk => hk.2) (.slice Ao23 t247.length co23)) (fun _ h_ => h_.1))) hb); have n1_ := Aside0.mk (blk_below (g := gb250) (o := .cells #[.int .i32 t246, .slice Ao23 t247.length co23] 53 (0, 0)) (by (with_reducible repeat (first | refine blk_drewN ?_ _ | refine blk_drew ?_ | refine blk_alloc ?_ _)); refine blk_put (cs := #[.int .i32 t246, .slice none 0 0]) ?_ 1 _ rfl; (with_reducible repeat (first | refine blk_drewN ?_ _ | refine blk_drew ?_ | refine blk_alloc ?_ _)); refine blk_put (cs := #[.int .i32 0, .slice none 0 0]) ?_ 0 _ rfl; (with_reducible repeat (first | refine blk_drewN ?_ _ | refine blk_drew ?_ | refine blk_alloc ?_ _)); exact BK250.out) hb); have n2_ := Aside0.mk (below_step (by repeat (first | (with_reducible first | exact HB.out | apply below_alloc | apply pw_below_drewN | apply below_drew1 | refine below_set ?_ GE250.out) | exact HB.out)) hb); clear HO249; clear BK250; clear HB; have HO249 := n0_; have BK250 := n1_; have HB := n2_; clear n0_ n1_ n2_; (try clear hb); (try clear hb2); (try clear hk); (try clear hi); have hcz34_0 : w33.cell? ⟨gb250, 0, none⟩ = some (.int .i32 t246) := (blk_cell BK250.out 0).trans rfl; have hcz34_1 : w33.cell? ⟨gb250, 1, none⟩ = some (.slice Ao23 t247.length co23) := (blk_cell BK250.out 1).trans rfl; have hfz34_0 := blk_frozen BK250.out 0; have hfz34_1 := blk_frozen BK250.out 1) | (go_at_call 37; (with_reducible refine (impl_PrincipalSalt.calls kj8 t246 _ _ t247 a2 t253 _ ?side1 ?side2 A29.out).mono ?_); (case side1 => repeat (first | exact (Kd.R_reads' HO249.out).2.2 | (with_reducible refine Kd.C_alloc ?_ _) | (with_reducible refine Kd.C_drewN ?_ _) | (with_reducible refine Kd.C_drew ?_))); (case side2 => exact (Kd.R_reads' HO249.out).2.1); rintro e w35 ⟨rfl, hb⟩; have n0_ := Aside0.mk (Kd.R_below (by (with_reducible repeat (first | apply Kd.R_alloc | apply Kd.R_drewN | apply Kd.R_drew)); exact HO249.out) hb); have n1_ := Aside0.mk (blk_below (g := gb250) (o := .cells #[.int .i32 t246, .slice Ao23 t247.length co23] 53 (0, 0)) (by (with_reducible repeat (first | refine blk_drewN ?_ _ | refine blk_drew ?_ | refine blk_alloc ?_ _)); exact BK250.out) hb); have n2_ := Aside0.mk (below_step (by repeat (first | (with_reducible first | exact HB.out | apply below_alloc | apply pw_below_drewN | apply below_drew1 | refine below_set ?_ GE250.out) | exact HB.out)) hb); clear HO249; clear BK250; clear HB; have HO249 := n0_; have BK250 := n1_; have HB := n2_; clear n0_ n1_ n2_; (try clear hb); (try clear hb2); (try clear hk); (try clear hi)) | (go_at_call 34; (with_reducible refine (spec_Joined.calls kj8 _ _ l1 (⟨#[]⟩ : ByteArray) t254 _ ?side1 ?side2 A30.out).mono ?_); (case side1 => repeat (first | exact (Kd.C_below HR1.out HB.out) | (with_reducible refine Kd.C_alloc ?_ _) | (with_reducible refine Kd.C_drewN ?_ _) | (with_reducible refine Kd.C_drew ?_))); (case side2 => exact HC1.out); rintro e w' ⟨rfl, ⟨nd, rfl⟩⟩))
                        go_meet
                        case rel => exact ⟨_, ((t253.toList != (a2 ++ t254).toList)), (by first | rfl | (simp; done) | (simp [*]; done)), H', ⟨by have := HJ4.out; have := HJ8.out; first | omega | exact Nat.le_refl _⟩, ⟨by (with_reducible repeat (first | apply Kd.R_alloc | apply Kd.R_drewN | apply Kd.R_drew)); exact HO249.out⟩, ⟨by (with_reducible repeat (first | refine blk_drewN ?_ _ | refine blk_drew ?_ | refine blk_alloc ?_ _)); exact BK250.out⟩, ⟨by repeat (first | (with_reducible first | exact HB.out | apply below_alloc | apply pw_below_drewN | apply below_drew1 | refine below_set ?_ GE250.out) | exact HB.out)⟩⟩
                      · rw [if_neg c31] at H
                        exact absurd H (by simp)
                    · rw [if_neg c28] at H
                      have c28b0 : (t252.toList == t245.toList) = false := beq_eq_false_iff_ne.mpr c28
                      have c28b1 : (t252.toList != t245.toList) = true := bne_iff_ne.mpr c28
                      have H' := Aside0.mk H
                      clear H
                      have hcz36_0 : w21.cell? ⟨gb250, 0, none⟩ = some (.int .i32 0) := (blk_cell BK250.out 0).trans rfl
                      have hcz36_1 : w21.cell? ⟨gb250, 1, none⟩ = some (.slice none 0 0) := (blk_cell BK250.out 1).trans rfl
                      have hfz36_0 := blk_frozen BK250.out 0
                      have hfz36_1 := blk_frozen BK250.out 1
                      go_wp2_with (first | (go_at_call 31; (with_reducible refine (slices_Equal_string_string.calls kj8 _ _ t247 _ _ l1 true _ ?side1 ?side2 ?side3 ?side4 A25.out).mono ?_); (case side1 => refine (Kd.R_reads' (e := 9) (base := w.heap.size) (ok := fun k_ => True) (n := t247.length) (c := co23) ?_).2.2; exact (by (with_reducible repeat (first | apply Kd.R_alloc | apply Kd.R_drewN | apply Kd.R_drew)); exact (Kd.R_mono (Kd.R_far (p := ⟨gb250, 1, none⟩) (Kd.R_far (p := ⟨gb250, 0, none⟩) (Kd.R_types HO249.out BK250.out (by decide)) (fun _ hk => hk.2) (.int .i32 t246)) (fun _ hk => hk.2) (.slice Ao23 t247.length co23)) (fun _ h_ => h_.1)))); (case side2 => exact (Kd.R_reads' HO249.out).2.1); (case side3 => exact Kd.C_below HR1.out (by repeat (first | (with_reducible first | exact HB.out | apply below_alloc | apply pw_below_drewN | apply below_drew1 | refine below_set ?_ GE250.out) | exact HB.out))); (case side4 => exact HC1.out); rintro e w' ⟨rfl, ⟨nd, rfl⟩⟩) | (go_at_call 36; (with_reducible refine (impl_PrincipalText.calls t246 _ _ t247 t252 _ ?side1 ?side2 A27.out).mono ?_); (case side1 => refine (Kd.R_reads' (e := 9) (base := w.heap.size) (ok := fun k_ => True) (n := t247.length) (c := co23) ?_).2.2; exact (by (with_reducible repeat (first | apply Kd.R_alloc | apply Kd.R_drewN | apply Kd.R_drew)); exact (Kd.R_mono (Kd.R_far (p := ⟨gb250, 1, none⟩) (Kd.R_far (p := ⟨gb250, 0, none⟩) (Kd.R_types HO249.out BK250.out (by decide)) (fun _ hk => hk.2) (.int .i32 t246)) (fun _ hk => hk.2) (.slice Ao23 t247.length co23)) (fun _ h_ => h_.1)))); (case side2 => exact (Kd.R_reads' HO249.out).2.1); rintro e w37 ⟨rfl, hb⟩; have n0_ := Aside0.mk (Kd.R_below (by (with_reducible repeat (first | apply Kd.R_alloc | apply Kd.R_drewN | apply Kd.R_drew)); exact (Kd.R_mono (Kd.R_far (p := ⟨gb250, 1, none⟩) (Kd.R_far (p := ⟨gb250, 0, none⟩) (Kd.R_types HO249.out BK250.out (by decide)) (fun _ hk => hk.2) (.int .i32 t246)) (fun _ hk => hk.2) (.slice Ao23 t247.length co23)) (fun _ h_ => h_.1))) hb); have n1_ := Aside0.mk (blk_below (g := gb250) (o := .cells #[.int .i32 t246, .slice Ao23 t247.length co23] 53 (0, 0)) (by (with_reducible repeat (first | refine blk_drewN ?_ _ | refine blk_drew ?_ | refine blk_alloc ?_ _)); refine blk_put (cs := #[.int .i32 t246, .slice none 0 0]) ?_ 1 _ rfl; (with_reducible repeat (first | refine blk_drewN ?_ _ | refine blk_drew ?_ | refine blk_alloc ?_ _)); refine blk_put (cs := #[.int .i32 0, .slice none 0 0]) ?_ 0 _ rfl; (with_reducible repeat (first | refine blk_drewN ?_ _ | refine blk_drew ?_ | refine blk_alloc ?_ _)); exact BK250.out) hb); have n2_ := Aside0.mk (below_step (by repeat (first | (with_reducible first | exact HB.out | apply below_alloc | apply pw_below_drewN | apply below_drew1 | refine below_set ?_ GE250.out) | exact HB.out)) hb); clear HO249; clear BK250; clear HB; have HO249 := n0_; have BK250 := n1_; have HB := n2_; clear n0_ n1_ n2_; (try clear hb); (try clear hb2); (try clear hk); (try clear hi)))
                      go_meet
                      case rel => exact ⟨_, (true), (by first | rfl | (simp; done) | (simp [*]; done)), H', ⟨by have := HJ4.out; have := HJ8.out; first | omega | exact Nat.le_refl _⟩, ⟨by (with_reducible repeat (first | apply Kd.R_alloc | apply Kd.R_drewN | apply Kd.R_drew)); exact HO249.out⟩, ⟨by (with_reducible repeat (first | refine blk_drewN ?_ _ | refine blk_drew ?_ | refine blk_alloc ?_ _)); exact BK250.out⟩, ⟨by repeat (first | (with_reducible first | exact HB.out | apply below_alloc | apply pw_below_drewN | apply below_drew1 | refine below_set ?_ GE250.out) | exact HB.out)⟩⟩
                  · replace c26 := Bool.eq_false_iff.mpr c26
                    subst c26
                    have H1 : (laws_FnPrincipal.j2 kj8 l1 a2 a3 t245 true) = some r := by rw [if_neg (show ¬ (false = true) by decide)] at H; exact H
                    clear H
                    have H := H1
                    clear H1
                    have H' := Aside0.mk H
                    clear H
                    have hcz38_0 : w21.cell? ⟨gb250, 0, none⟩ = some (.int .i32 0) := (blk_cell BK250.out 0).trans rfl
                    have hcz38_1 : w21.cell? ⟨gb250, 1, none⟩ = some (.slice none 0 0) := (blk_cell BK250.out 1).trans rfl
                    have hfz38_0 := blk_frozen BK250.out 0
                    have hfz38_1 := blk_frozen BK250.out 1
                    go_wp2_with (first | (go_at_call 31; (with_reducible refine (slices_Equal_string_string.calls kj8 _ _ t247 _ _ l1 false _ ?side1 ?side2 ?side3 ?side4 A25.out).mono ?_); (case side1 => refine (Kd.R_reads' (e := 9) (base := w.heap.size) (ok := fun k_ => True) (n := t247.length) (c := co23) ?_).2.2; exact (by (with_reducible repeat (first | apply Kd.R_alloc | apply Kd.R_drewN | apply Kd.R_drew)); exact (Kd.R_mono (Kd.R_far (p := ⟨gb250, 1, none⟩) (Kd.R_far (p := ⟨gb250, 0, none⟩) (Kd.R_types HO249.out BK250.out (by decide)) (fun _ hk => hk.2) (.int .i32 t246)) (fun _ hk => hk.2) (.slice Ao23 t247.length co23)) (fun _ h_ => h_.1)))); (case side2 => exact (Kd.R_reads' HO249.out).2.1); (case side3 => exact Kd.C_below HR1.out (by repeat (first | (with_reducible first | exact HB.out | apply below_alloc | apply pw_below_drewN | apply below_drew1 | refine below_set ?_ GE250.out) | exact HB.out))); (case side4 => exact HC1.out); rintro e w' ⟨rfl, ⟨nd, rfl⟩⟩))
                    go_meet
                    case rel => exact ⟨_, (true), (by first | rfl | (simp; done) | (simp [*]; done)), H', ⟨by have := HJ4.out; have := HJ8.out; first | omega | exact Nat.le_refl _⟩, ⟨by (with_reducible repeat (first | apply Kd.R_alloc | apply Kd.R_drewN | apply Kd.R_drew)); exact Kd.R_mono (Kd.R_far (p := ⟨gb250, 1, none⟩) (Kd.R_far (p := ⟨gb250, 0, none⟩) (Kd.R_types HO249.out BK250.out (by decide)) (fun _ hk => hk.2) (.int .i32 t246)) (fun _ hk => hk.2) (.slice Ao23 t247.length co23)) (fun _ hk => trivial)⟩, ⟨by (with_reducible repeat (first | refine blk_drewN ?_ _ | refine blk_drew ?_ | refine blk_alloc ?_ _)); refine blk_put (cs := #[.int .i32 t246, .slice none 0 0]) ?_ 1 _ rfl; (with_reducible repeat (first | refine blk_drewN ?_ _ | refine blk_drew ?_ | refine blk_alloc ?_ _)); refine blk_put (cs := #[.int .i32 0, .slice none 0 0]) ?_ 0 _ rfl; (with_reducible repeat (first | refine blk_drewN ?_ _ | refine blk_drew ?_ | refine blk_alloc ?_ _)); exact BK250.out⟩, ⟨by repeat (first | (with_reducible first | exact HB.out | apply below_alloc | apply pw_below_drewN | apply below_drew1 | refine below_set ?_ GE250.out) | exact HB.out)⟩⟩
                · rw [if_neg c24] at H
                  have c24b0 : (t246 == a0) = false := beq_eq_false_iff_ne.mpr c24
                  have c24b1 : (t246 != a0) = true := bne_iff_ne.mpr c24
                  (first | rw [c24b0] | (simp only [i64_w, i32_w]; rw [c24b0]) | skip)
                  have H' := Aside0.mk H
                  clear H
                  have hcz39_0 : w21.cell? ⟨gb250, 0, none⟩ = some (.int .i32 0) := (blk_cell BK250.out 0).trans rfl
                  have hcz39_1 : w21.cell? ⟨gb250, 1, none⟩ = some (.slice none 0 0) := (blk_cell BK250.out 1).trans rfl
                  have hfz39_0 := blk_frozen BK250.out 0
                  have hfz39_1 := blk_frozen BK250.out 1
                  go_wp2
                  go_meet
                  case rel => exact ⟨_, (true), (by first | rfl | (simp; done) | (simp [*]; done)), H', ⟨by have := HJ4.out; have := HJ8.out; first | omega | exact Nat.le_refl _⟩, ⟨by (with_reducible repeat (first | apply Kd.R_alloc | apply Kd.R_drewN | apply Kd.R_drew)); exact Kd.R_mono (Kd.R_far (p := ⟨gb250, 1, none⟩) (Kd.R_far (p := ⟨gb250, 0, none⟩) (Kd.R_types HO249.out BK250.out (by decide)) (fun _ hk => hk.2) (.int .i32 t246)) (fun _ hk => hk.2) (.slice Ao23 t247.length co23)) (fun _ hk => trivial)⟩, ⟨by (with_reducible repeat (first | refine blk_drewN ?_ _ | refine blk_drew ?_ | refine blk_alloc ?_ _)); refine blk_put (cs := #[.int .i32 t246, .slice none 0 0]) ?_ 1 _ rfl; (with_reducible repeat (first | refine blk_drewN ?_ _ | refine blk_drew ?_ | refine blk_alloc ?_ _)); refine blk_put (cs := #[.int .i32 0, .slice none 0 0]) ?_ 0 _ rfl; (with_reducible repeat (first | refine blk_drewN ?_ _ | refine blk_drew ?_ | refine blk_alloc ?_ _)); exact BK250.out⟩, ⟨by repeat (first | (with_reducible first | exact HB.out | apply below_alloc | apply pw_below_drewN | apply below_drew1 | refine below_set ?_ GE250.out) | exact HB.out)⟩⟩
              case rest =>
                clear HC19
                try clear c1
                try clear c2
                try clear p2
                try clear c3
                try clear c7
                try clear c8
                try clear c11
                try clear c12
                try clear c12b0
                try clear c12b1
                try clear c14
                try clear c24
                try clear c24b0
                try clear c24b1
                try clear c26
                try clear c28
                try clear c28b0
                try clear c28b1
                try clear c30
                try clear c31
                try clear c31b0
                try clear c31b1
                try clear c31b2
                try clear c34
                try clear c35
                try clear hcz22_0
                try clear hcz22_1
                try clear hcz32_0
                try clear hcz32_1
                try clear hcz34_0
                try clear hcz34_1
                try clear hcz36_0
                try clear hcz36_1
                try clear hcz38_0
                try clear hcz38_1
                try clear hcz39_0
                try clear hcz39_1
                try clear hfz22_0
                try clear hfz22_1
                try clear hfz32_0
                try clear hfz32_1
                try clear hfz34_0
                try clear hfz34_1
                try clear hfz36_0
                try clear hfz36_1
                try clear hfz38_0
                try clear hfz38_1
                try clear hfz39_0
                try clear hfz39_1
                try clear p2
                obtain ⟨kq, x66_18, rfl, HA, HJ18, HO_251001, BK250, HB⟩ := hcut
                cases kq with
                | zero => exact absurd HA.out (by simp [laws_FnPrincipal.j2])
                | succ kj18 =>
                  have H := HA.out
                  clear HA
                  simp only [laws_FnPrincipal.j2] at H
                  by_cases c40 : x66_18 = true
                  · subst c40
                    have H1 : (some false) = some r := by rw [if_pos rfl] at H; exact H
                    clear H
                    have H := H1
                    clear H1
                    obtain rfl := Option.some.inj H
                    go_wp2
                    go_ret
                    exact ⟨by first | rfl | (simp [errW_none, errW_some] <;> rfl) | (simp [*, errW_none, errW_some] <;> rfl), by repeat (first | (with_reducible first | exact HB.out | apply below_alloc | apply pw_below_drewN | apply below_drew1 | refine below_set ?_ GE250.out) | exact HB.out)⟩
                  · replace c40 := Bool.eq_false_iff.mpr c40
                    subst c40
                    have H1 : (if a3 = true then (if 1 + a2.size ≤ 9223372036854775807 then (if t245.size + ((⟨#[64]⟩ : ByteArray) ++ a2).size ≤ 9223372036854775807 then ((impl_ParseSPN.f kj18 (t245 ++ ((⟨#[64]⟩ : ByteArray) ++ a2))).bind fun bt255 => (if bt255.2.2.toList = a2.toList then (if bt255.1 = 1 then ((slices_Equal_string_string.f kj18 bt255.2.1 l1).bind fun t261 => (if t261 = true then ((laws_plainAwake.f kj18).bind fun t262 => (some t262)) else (some false))) else (some false)) else (some false))) else (none)) else (none)) else ((impl_ParseSPN.f kj18 t245).bind fun bt263 => (if bt263.2.2.toList = ([] : List UInt8) then (if bt263.1 = 1 then ((slices_Equal_string_string.f kj18 bt263.2.1 l1).bind fun t269 => (if t269 = true then ((laws_plainAwake.f kj18).bind fun t270 => (some t270)) else (some false))) else (some false)) else (some false)))) = some r := by rw [if_neg (show ¬ (false = true) by decide)] at H; exact H
                    clear H
                    have H := H1
                    clear H1
                    by_cases c41 : a3 = true
                    · subst c41
                      have H1 : (if 1 + a2.size ≤ 9223372036854775807 then (if t245.size + ((⟨#[64]⟩ : ByteArray) ++ a2).size ≤ 9223372036854775807 then ((impl_ParseSPN.f kj18 (t245 ++ ((⟨#[64]⟩ : ByteArray) ++ a2))).bind fun bt255 => (if bt255.2.2.toList = a2.toList then (if bt255.1 = 1 then ((slices_Equal_string_string.f kj18 bt255.2.1 l1).bind fun t261 => (if t261 = true then ((laws_plainAwake.f kj18).bind fun t262 => (some t262)) else (some false))) else (some false)) else (some false))) else (none)) else (none)) = some r := by rw [if_pos rfl] at H; exact H
                      clear H
                      have H := H1
                      clear H1
                      by_cases c42 : 1 + a2.size ≤ 9223372036854775807
                      · rw [if_pos c42] at H
                        have c42b0 := eq_true c42
                        have c42b1 : decide (1 + a2.size ≤ 9223372036854775807) = true := decide_eq_true c42
                        try have c42b2 : (9223372036854775807 < 1 + a2.size) = False := eq_false (Nat.not_lt.2 c42)
                        by_cases c43 : t245.size + ((⟨#[64]⟩ : ByteArray) ++ a2).size ≤ 9223372036854775807
                        · rw [if_pos c43] at H
                          have c43b0 := eq_true c43
                          have c43b1 : decide (t245.size + ((⟨#[64]⟩ : ByteArray) ++ a2).size ≤ 9223372036854775807) = true := decide_eq_true c43
                          try have c43b2 : (9223372036854775807 < t245.size + ((⟨#[64]⟩ : ByteArray) ++ a2).size) = False := eq_false (Nat.not_lt.2 c43)
                          try (have c43b3 := c43b2; rw [ByteArray.size_append] at c43b3)
                          replace H := Option.bind_eq_some_iff.mp H
                          obtain ⟨⟨t255, t256, t259⟩, A440, H⟩ := H
                          replace H : (if t259.toList = a2.toList then (if t255 = 1 then ((slices_Equal_string_string.f kj18 t256 l1).bind fun t261 => (if t261 = true then ((laws_plainAwake.f kj18).bind fun t262 => (some t262)) else (some false))) else (some false)) else (some false)) = some r := H
                          have A44 := Aside0.mk A440
                          clear A440
                          by_cases c45 : t259.toList = a2.toList
                          · rw [if_pos c45] at H
                            have c45b0 : (t259.toList == a2.toList) = true := beq_iff_eq.mpr c45
                            have c45b1 : (t259.toList != a2.toList) = false := bne_eq_false_iff_eq.mpr c45
                            clear c45
                            by_cases c46 : t255 = 1
                            · rw [if_pos c46] at H
                              have c46b0 : (t255 == 1) = true := beq_iff_eq.mpr c46
                              have c46b1 : (t255 != 1) = false := bne_eq_false_iff_eq.mpr c46
                              clear c46
                              replace H := Option.bind_eq_some_iff.mp H
                              obtain ⟨t261, A470, H⟩ := H
                              replace H : (if t261 = true then ((laws_plainAwake.f kj18).bind fun t262 => (some t262)) else (some false)) = some r := H
                              have A47 := Aside0.mk A470
                              clear A470
                              by_cases c48 : t261 = true
                              · subst c48
                                have H1 : ((laws_plainAwake.f kj18).bind fun t262 => (some t262)) = some r := by rw [if_pos rfl] at H; exact H
                                clear H
                                have H := H1
                                clear H1
                                replace H := Option.bind_eq_some_iff.mp H
                                obtain ⟨t262, A490, H⟩ := H
                                replace H : (some t262) = some r := H
                                have A49 := Aside0.mk A490
                                clear A490
                                obtain rfl := Option.some.inj H
                                go_wp2_with (first | ((with_reducible refine gate_callee (f := 38) rfl ?_); refine goesL_ (some 75) rfl rfl Try.func38 (by kernel_rfl) rfl #[.string (t245 ++ ((⟨#[64]⟩ : ByteArray) ++ a2))] rfl (by (try simp only [List.map_toArray, List.map_cons, List.map_nil]); first | done | rfl | (simp only [List.length_drop, List.length_take]; rfl)) ?_; (with_reducible refine (impl_ParseSPN.calls kj18 (t245 ++ ((⟨#[64]⟩ : ByteArray) ++ a2)) t255 t256 t259 _ A44.out).mono ?_); rintro e w50 ⟨v257, rfl, ho0, hb⟩; refine ⟨_, rfl, ?_⟩; have n0_ := Aside0.mk (Kd.R_elder' (by (with_reducible repeat (first | apply Kd.R_alloc | apply Kd.R_drewN | apply Kd.R_drew)); exact HO_251001.out) (Kd.R_base ho0) hb); have n1_ := Aside0.mk (Kd.R_lower (Kd.R_new' ho0 (Kd.R_lt (by (with_reducible repeat (first | apply Kd.R_alloc | apply Kd.R_drewN | apply Kd.R_drew)); exact HO_251001.out))) (below_size (by repeat (first | (with_reducible first | exact HB.out | apply below_alloc | apply pw_below_drewN | apply below_drew1 | refine below_set ?_ GE250.out) | exact HB.out)))); have n2_ := Aside0.mk (blk_below (g := gb250) (o := .cells #[.int .i32 t246, .slice Ao23 t247.length co23] 53 (0, 0)) (by (with_reducible repeat (first | refine blk_drewN ?_ _ | refine blk_drew ?_ | refine blk_alloc ?_ _)); exact BK250.out) hb); have n3_ := Aside0.mk (below_step (by repeat (first | (with_reducible first | exact HB.out | apply below_alloc | apply pw_below_drewN | apply below_drew1 | refine below_set ?_ GE250.out) | exact HB.out)) hb); clear HO_251001; clear BK250; clear HB; have HO_251001 := n0_; have HO258 := n1_; have BK250 := n2_; have HB := n3_; clear n0_ n1_ n2_ n3_; (try clear hb); (try clear hb2); (try clear hk); (try clear hi); (try clear ho0)) | ((with_reducible refine gate_dst (N := 11) rfl ?_); (try (refine gate_guard (by rfl) ?_; dsimp only)); refine box_event ?hg (N := 11) ?hd (cs := #[.int .i32 0, .slice none 0 0]) (t := 53) ?hr ?_; (case hd => rfl); (case hg => rfl); (case hr => first | (go_simp; done) | (go_simp; rfl)); intro gb260 hg w51 hbox hb; have n0_ := Aside0.mk (Kd.R_below (by (with_reducible repeat (first | apply Kd.R_alloc | apply Kd.R_drewN | apply Kd.R_drew)); exact HO_251001.out) hb); have n1_ := Aside0.mk (Kd.R_below (by (with_reducible repeat (first | apply Kd.R_alloc | apply Kd.R_drewN | apply Kd.R_drew)); exact HO258.out) hb); have n2_ := Aside0.mk (blk_below (g := gb250) (o := .cells #[.int .i32 t246, .slice Ao23 t247.length co23] 53 (0, 0)) (by (with_reducible repeat (first | refine blk_drewN ?_ _ | refine blk_drew ?_ | refine blk_alloc ?_ _)); exact BK250.out) hb); have n3_ := Aside0.mk (below_step (by repeat (first | (with_reducible first | exact HB.out | apply below_alloc | apply pw_below_drewN | apply below_drew1 | refine below_set ?_ GE250.out) | exact HB.out)) hb); have n4_ := Aside0.mk (hbox); have n5_ := Aside0.mk ((by rw [hg]; exact (below_size (by repeat (first | (with_reducible first | exact HB.out | apply below_alloc | apply pw_below_drewN | apply below_drew1 | refine below_set ?_ GE250.out) | exact HB.out))) : w.heap.size ≤ gb260)); have n6_ := Aside0.mk ((by rw [hg]; exact (below_size (by repeat (first | (with_reducible first | exact HB.out | apply below_alloc | apply pw_below_drewN | apply below_drew1 | refine below_set ?_ GE250.out) | exact HB.out))) : w.heap.size ≤ gb260)); have n7_ := Aside0.mk ((by rw [hg]; exact Nat.ne_of_lt (blk_lt (g := gb250) (o := .cells #[.int .i32 t246, .slice Ao23 t247.length co23] 53 (0, 0)) (by (with_reducible repeat (first | refine blk_drewN ?_ _ | refine blk_drew ?_ | refine blk_alloc ?_ _)); exact BK250.out)) : gb250 ≠ gb260)); have n8_ := Aside0.mk ((by rw [hg]; exact Nat.ne_of_gt (blk_lt (g := gb250) (o := .cells #[.int .i32 t246, .slice Ao23 t247.length co23] 53 (0, 0)) (by (with_reducible repeat (first | refine blk_drewN ?_ _ | refine blk_drew ?_ | refine blk_alloc ?_ _)); exact BK250.out)) : gb260 ≠ gb250)); clear HO_251001; clear HO258; clear BK250; clear HB; have HO_251001 := n0_; have HO258 := n1_; have BK250 := n2_; have HB := n3_; have BK260 := n4_; have GW260 := n5_; have GE260 := n6_; have NB250_260 := n7_; have NB260_250 := n8_; clear n0_ n1_ n2_ n3_ n4_ n5_ n6_ n7_ n8_; clear hb hbox hg; have hnb52 := NB260_250.out; have hnc52 := NB250_260.out; have hcz53_0 : w51.cell? ⟨gb260, 0, none⟩ = some (.int .i32 0) := (blk_cell BK260.out 0).trans rfl; have hcz53_1 : w51.cell? ⟨gb260, 1, none⟩ = some (.slice none 0 0) := (blk_cell BK260.out 1).trans rfl; have hfz53_0 := blk_frozen BK260.out 0; have hfz53_1 := blk_frozen BK260.out 1; obtain ⟨Ao54, co54, eo54⟩ := Kd.R_slice HO258.out; subst eo54) | (go_at_call 31; (with_reducible refine (slices_Equal_string_string.calls kj18 _ _ t256 _ _ l1 true _ ?side1 ?side2 ?side3 ?side4 A47.out).mono ?_); (case side1 => refine (Kd.R_reads' (e := 9) (base := w.heap.size) (ok := fun k_ => (True ∧ some k_ ≠ (.slice Ao23 t247.length co23 : Value).ownBlock)) (n := t256.length) (c := co54) ?_).2.2; exact (by (with_reducible repeat (first | apply Kd.R_alloc | apply Kd.R_drewN | apply Kd.R_drew)); exact (Kd.R_mono (Kd.R_far (p := ⟨gb260, 1, none⟩) (Kd.R_far (p := ⟨gb260, 0, none⟩) (Kd.R_types HO258.out BK260.out (by decide)) (fun _ hk => hk.2) (.int .i32 t255)) (fun _ hk => hk.2) (.slice Ao54 t256.length co54)) (fun _ h_ => h_.1)))); (case side2 => exact (Kd.R_reads' HO258.out).2.1); (case side3 => exact Kd.C_below HR1.out (by repeat (first | (with_reducible first | exact HB.out | apply below_alloc | apply pw_below_drewN | apply below_drew1 | refine below_set ?_ GE250.out | refine below_set ?_ GE260.out) | exact HB.out))); (case side4 => exact HC1.out); rintro e w' ⟨rfl, ⟨nd, rfl⟩⟩) | (go_at_call 26; (with_reducible refine (laws_plainAwake.calls kj18  t262 _ A49.out).mono ?_); rintro e w55 ⟨rfl, hb⟩; have n0_ := Aside0.mk (Kd.R_below (by (with_reducible repeat (first | apply Kd.R_alloc | apply Kd.R_drewN | apply Kd.R_drew)); exact (Kd.R_mono (Kd.R_far (p := ⟨gb260, 1, none⟩) (Kd.R_far (p := ⟨gb260, 0, none⟩) (Kd.R_types HO_251001.out BK260.out (by decide)) (fun _ hk => hk.2) (.int .i32 t255)) (fun _ hk => hk.2) (.slice Ao54 t256.length co54)) (fun _ h_ => h_.1))) hb); have n1_ := Aside0.mk (Kd.R_below (by (with_reducible repeat (first | apply Kd.R_alloc | apply Kd.R_drewN | apply Kd.R_drew)); exact (Kd.R_mono (Kd.R_far (p := ⟨gb260, 1, none⟩) (Kd.R_far (p := ⟨gb260, 0, none⟩) (Kd.R_types HO258.out BK260.out (by decide)) (fun _ hk => hk.2) (.int .i32 t255)) (fun _ hk => hk.2) (.slice Ao54 t256.length co54)) (fun _ h_ => h_.1))) hb); have n2_ := Aside0.mk (blk_below (g := gb250) (o := .cells #[.int .i32 t246, .slice Ao23 t247.length co23] 53 (0, 0)) (by (with_reducible repeat (first | refine blk_drewN ?_ _ | refine blk_drew ?_ | refine blk_alloc ?_ _)); refine blk_far ?_ NB250_260.out _; (with_reducible repeat (first | refine blk_drewN ?_ _ | refine blk_drew ?_ | refine blk_alloc ?_ _)); refine blk_far ?_ NB250_260.out _; (with_reducible repeat (first | refine blk_drewN ?_ _ | refine blk_drew ?_ | refine blk_alloc ?_ _)); exact BK250.out) hb); have n3_ := Aside0.mk (blk_below (g := gb260) (o := .cells #[.int .i32 t255, .slice Ao54 t256.length co54] 53 (0, 0)) (by (with_reducible repeat (first | refine blk_drewN ?_ _ | refine blk_drew ?_ | refine blk_alloc ?_ _)); refine blk_put (cs := #[.int .i32 t255, .slice none 0 0]) ?_ 1 _ rfl; (with_reducible repeat (first | refine blk_drewN ?_ _ | refine blk_drew ?_ | refine blk_alloc ?_ _)); refine blk_put (cs := #[.int .i32 0, .slice none 0 0]) ?_ 0 _ rfl; (with_reducible repeat (first | refine blk_drewN ?_ _ | refine blk_drew ?_ | refine blk_alloc ?_ _)); exact BK260.out) hb); have n4_ := Aside0.mk (below_step (by repeat (first | (with_reducible first | exact HB.out | apply below_alloc | apply pw_below_drewN | apply below_drew1 | refine below_set ?_ GE250.out | refine below_set ?_ GE260.out) | exact HB.out)) hb); clear HO_251001; clear HO258; clear BK250; clear BK260; clear HB; have HO_251001 := n0_; have HO258 := n1_; have BK250 := n2_; have BK260 := n3_; have HB := n4_; clear n0_ n1_ n2_ n3_ n4_; (try clear hb); (try clear hb2); (try clear hk); (try clear hi)))
                                go_ret
                                exact ⟨by first | rfl | (simp [errW_none, errW_some] <;> rfl) | (simp [*, errW_none, errW_some] <;> rfl), by repeat (first | (with_reducible first | exact HB.out | apply below_alloc | apply pw_below_drewN | apply below_drew1 | refine below_set ?_ GE250.out | refine below_set ?_ GE260.out) | exact HB.out)⟩
                              · replace c48 := Bool.eq_false_iff.mpr c48
                                subst c48
                                have H1 : (some false) = some r := by rw [if_neg (show ¬ (false = true) by decide)] at H; exact H
                                clear H
                                have H := H1
                                clear H1
                                obtain rfl := Option.some.inj H
                                go_wp2_with (first | ((with_reducible refine gate_callee (f := 38) rfl ?_); refine goesL_ (some 75) rfl rfl Try.func38 (by kernel_rfl) rfl #[.string (t245 ++ ((⟨#[64]⟩ : ByteArray) ++ a2))] rfl (by (try simp only [List.map_toArray, List.map_cons, List.map_nil]); first | done | rfl | (simp only [List.length_drop, List.length_take]; rfl)) ?_; (with_reducible refine (impl_ParseSPN.calls kj18 (t245 ++ ((⟨#[64]⟩ : ByteArray) ++ a2)) t255 t256 t259 _ A44.out).mono ?_); rintro e w56 ⟨v257, rfl, ho0, hb⟩; refine ⟨_, rfl, ?_⟩; have n0_ := Aside0.mk (Kd.R_elder' (by (with_reducible repeat (first | apply Kd.R_alloc | apply Kd.R_drewN | apply Kd.R_drew)); exact HO_251001.out) (Kd.R_base ho0) hb); have n1_ := Aside0.mk (Kd.R_lower (Kd.R_new' ho0 (Kd.R_lt (by (with_reducible repeat (first | apply Kd.R_alloc | apply Kd.R_drewN | apply Kd.R_drew)); exact HO_251001.out))) (below_size (by repeat (first | (with_reducible first | exact HB.out | apply below_alloc | apply pw_below_drewN | apply below_drew1 | refine below_set ?_ GE250.out) | exact HB.out)))); have n2_ := Aside0.mk (blk_below (g := gb250) (o := .cells #[.int .i32 t246, .slice Ao23 t247.length co23] 53 (0, 0)) (by (with_reducible repeat (first | refine blk_drewN ?_ _ | refine blk_drew ?_ | refine blk_alloc ?_ _)); exact BK250.out) hb); have n3_ := Aside0.mk (below_step (by repeat (first | (with_reducible first | exact HB.out | apply below_alloc | apply pw_below_drewN | apply below_drew1 | refine below_set ?_ GE250.out) | exact HB.out)) hb); clear HO_251001; clear BK250; clear HB; have HO_251001 := n0_; have HO258 := n1_; have BK250 := n2_; have HB := n3_; clear n0_ n1_ n2_ n3_; (try clear hb); (try clear hb2); (try clear hk); (try clear hi); (try clear ho0)) | ((with_reducible refine gate_dst (N := 11) rfl ?_); (try (refine gate_guard (by rfl) ?_; dsimp only)); refine box_event ?hg (N := 11) ?hd (cs := #[.int .i32 0, .slice none 0 0]) (t := 53) ?hr ?_; (case hd => rfl); (case hg => rfl); (case hr => first | (go_simp; done) | (go_simp; rfl)); intro gb260 hg w57 hbox hb; have n0_ := Aside0.mk (Kd.R_below (by (with_reducible repeat (first | apply Kd.R_alloc | apply Kd.R_drewN | apply Kd.R_drew)); exact HO_251001.out) hb); have n1_ := Aside0.mk (Kd.R_below (by (with_reducible repeat (first | apply Kd.R_alloc | apply Kd.R_drewN | apply Kd.R_drew)); exact HO258.out) hb); have n2_ := Aside0.mk (blk_below (g := gb250) (o := .cells #[.int .i32 t246, .slice Ao23 t247.length co23] 53 (0, 0)) (by (with_reducible repeat (first | refine blk_drewN ?_ _ | refine blk_drew ?_ | refine blk_alloc ?_ _)); exact BK250.out) hb); have n3_ := Aside0.mk (below_step (by repeat (first | (with_reducible first | exact HB.out | apply below_alloc | apply pw_below_drewN | apply below_drew1 | refine below_set ?_ GE250.out) | exact HB.out)) hb); have n4_ := Aside0.mk (hbox); have n5_ := Aside0.mk ((by rw [hg]; exact (below_size (by repeat (first | (with_reducible first | exact HB.out | apply below_alloc | apply pw_below_drewN | apply below_drew1 | refine below_set ?_ GE250.out) | exact HB.out))) : w.heap.size ≤ gb260)); have n6_ := Aside0.mk ((by rw [hg]; exact (below_size (by repeat (first | (with_reducible first | exact HB.out | apply below_alloc | apply pw_below_drewN | apply below_drew1 | refine below_set ?_ GE250.out) | exact HB.out))) : w.heap.size ≤ gb260)); have n7_ := Aside0.mk ((by rw [hg]; exact Nat.ne_of_lt (blk_lt (g := gb250) (o := .cells #[.int .i32 t246, .slice Ao23 t247.length co23] 53 (0, 0)) (by (with_reducible repeat (first | refine blk_drewN ?_ _ | refine blk_drew ?_ | refine blk_alloc ?_ _)); exact BK250.out)) : gb250 ≠ gb260)); have n8_ := Aside0.mk ((by rw [hg]; exact Nat.ne_of_gt (blk_lt (g := gb250) (o := .cells #[.int .i32 t246, .slice Ao23 t247.length co23] 53 (0, 0)) (by (with_reducible repeat (first | refine blk_drewN ?_ _ | refine blk_drew ?_ | refine blk_alloc ?_ _)); exact BK250.out)) : gb260 ≠ gb250)); clear HO_251001; clear HO258; clear BK250; clear HB; have HO_251001 := n0_; have HO258 := n1_; have BK250 := n2_; have HB := n3_; have BK260 := n4_; have GW260 := n5_; have GE260 := n6_; have NB250_260 := n7_; have NB260_250 := n8_; clear n0_ n1_ n2_ n3_ n4_ n5_ n6_ n7_ n8_; clear hb hbox hg; have hnb58 := NB260_250.out; have hnc58 := NB250_260.out; have hcz59_0 : w57.cell? ⟨gb260, 0, none⟩ = some (.int .i32 0) := (blk_cell BK260.out 0).trans rfl; have hcz59_1 : w57.cell? ⟨gb260, 1, none⟩ = some (.slice none 0 0) := (blk_cell BK260.out 1).trans rfl; have hfz59_0 := blk_frozen BK260.out 0; have hfz59_1 := blk_frozen BK260.out 1; obtain ⟨Ao60, co60, eo60⟩ := Kd.R_slice HO258.out; subst eo60) | (go_at_call 31; (with_reducible refine (slices_Equal_string_string.calls kj18 _ _ t256 _ _ l1 false _ ?side1 ?side2 ?side3 ?side4 A47.out).mono ?_); (case side1 => refine (Kd.R_reads' (e := 9) (base := w.heap.size) (ok := fun k_ => (True ∧ some k_ ≠ (.slice Ao23 t247.length co23 : Value).ownBlock)) (n := t256.length) (c := co60) ?_).2.2; exact (by (with_reducible repeat (first | apply Kd.R_alloc | apply Kd.R_drewN | apply Kd.R_drew)); exact (Kd.R_mono (Kd.R_far (p := ⟨gb260, 1, none⟩) (Kd.R_far (p := ⟨gb260, 0, none⟩) (Kd.R_types HO258.out BK260.out (by decide)) (fun _ hk => hk.2) (.int .i32 t255)) (fun _ hk => hk.2) (.slice Ao60 t256.length co60)) (fun _ h_ => h_.1)))); (case side2 => exact (Kd.R_reads' HO258.out).2.1); (case side3 => exact Kd.C_below HR1.out (by repeat (first | (with_reducible first | exact HB.out | apply below_alloc | apply pw_below_drewN | apply below_drew1 | refine below_set ?_ GE250.out | refine below_set ?_ GE260.out) | exact HB.out))); (case side4 => exact HC1.out); rintro e w' ⟨rfl, ⟨nd, rfl⟩⟩))
                                go_ret
                                exact ⟨by first | rfl | (simp [errW_none, errW_some] <;> rfl) | (simp [*, errW_none, errW_some] <;> rfl), by repeat (first | (with_reducible first | exact HB.out | apply below_alloc | apply pw_below_drewN | apply below_drew1 | refine below_set ?_ GE250.out | refine below_set ?_ GE260.out) | exact HB.out)⟩
                            · rw [if_neg c46] at H
                              have c46b0 : (t255 == 1) = false := beq_eq_false_iff_ne.mpr c46
                              have c46b1 : (t255 != 1) = true := bne_iff_ne.mpr c46
                              obtain rfl := Option.some.inj H
                              go_wp2_with (first | ((with_reducible refine gate_callee (f := 38) rfl ?_); refine goesL_ (some 75) rfl rfl Try.func38 (by kernel_rfl) rfl #[.string (t245 ++ ((⟨#[64]⟩ : ByteArray) ++ a2))] rfl (by (try simp only [List.map_toArray, List.map_cons, List.map_nil]); first | done | rfl | (simp only [List.length_drop, List.length_take]; rfl)) ?_; (with_reducible refine (impl_ParseSPN.calls kj18 (t245 ++ ((⟨#[64]⟩ : ByteArray) ++ a2)) t255 t256 t259 _ A44.out).mono ?_); rintro e w61 ⟨v257, rfl, ho0, hb⟩; refine ⟨_, rfl, ?_⟩; have n0_ := Aside0.mk (Kd.R_elder' (by (with_reducible repeat (first | apply Kd.R_alloc | apply Kd.R_drewN | apply Kd.R_drew)); exact HO_251001.out) (Kd.R_base ho0) hb); have n1_ := Aside0.mk (Kd.R_lower (Kd.R_new' ho0 (Kd.R_lt (by (with_reducible repeat (first | apply Kd.R_alloc | apply Kd.R_drewN | apply Kd.R_drew)); exact HO_251001.out))) (below_size (by repeat (first | (with_reducible first | exact HB.out | apply below_alloc | apply pw_below_drewN | apply below_drew1 | refine below_set ?_ GE250.out) | exact HB.out)))); have n2_ := Aside0.mk (blk_below (g := gb250) (o := .cells #[.int .i32 t246, .slice Ao23 t247.length co23] 53 (0, 0)) (by (with_reducible repeat (first | refine blk_drewN ?_ _ | refine blk_drew ?_ | refine blk_alloc ?_ _)); exact BK250.out) hb); have n3_ := Aside0.mk (below_step (by repeat (first | (with_reducible first | exact HB.out | apply below_alloc | apply pw_below_drewN | apply below_drew1 | refine below_set ?_ GE250.out) | exact HB.out)) hb); clear HO_251001; clear BK250; clear HB; have HO_251001 := n0_; have HO258 := n1_; have BK250 := n2_; have HB := n3_; clear n0_ n1_ n2_ n3_; (try clear hb); (try clear hb2); (try clear hk); (try clear hi); (try clear ho0)) | ((with_reducible refine gate_dst (N := 11) rfl ?_); (try (refine gate_guard (by rfl) ?_; dsimp only)); refine box_event ?hg (N := 11) ?hd (cs := #[.int .i32 0, .slice none 0 0]) (t := 53) ?hr ?_; (case hd => rfl); (case hg => rfl); (case hr => first | (go_simp; done) | (go_simp; rfl)); intro gb260 hg w62 hbox hb; have n0_ := Aside0.mk (Kd.R_below (by (with_reducible repeat (first | apply Kd.R_alloc | apply Kd.R_drewN | apply Kd.R_drew)); exact HO_251001.out) hb); have n1_ := Aside0.mk (Kd.R_below (by (with_reducible repeat (first | apply Kd.R_alloc | apply Kd.R_drewN | apply Kd.R_drew)); exact HO258.out) hb); have n2_ := Aside0.mk (blk_below (g := gb250) (o := .cells #[.int .i32 t246, .slice Ao23 t247.length co23] 53 (0, 0)) (by (with_reducible repeat (first | refine blk_drewN ?_ _ | refine blk_drew ?_ | refine blk_alloc ?_ _)); exact BK250.out) hb); have n3_ := Aside0.mk (below_step (by repeat (first | (with_reducible first | exact HB.out | apply below_alloc | apply pw_below_drewN | apply below_drew1 | refine below_set ?_ GE250.out) | exact HB.out)) hb); have n4_ := Aside0.mk (hbox); have n5_ := Aside0.mk ((by rw [hg]; exact (below_size (by repeat (first | (with_reducible first | exact HB.out | apply below_alloc | apply pw_below_drewN | apply below_drew1 | refine below_set ?_ GE250.out) | exact HB.out))) : w.heap.size ≤ gb260)); have n6_ := Aside0.mk ((by rw [hg]; exact (below_size (by repeat (first | (with_reducible first | exact HB.out | apply below_alloc | apply pw_below_drewN | apply below_drew1 | refine below_set ?_ GE250.out) | exact HB.out))) : w.heap.size ≤ gb260)); have n7_ := Aside0.mk ((by rw [hg]; exact Nat.ne_of_lt (blk_lt (g := gb250) (o := .cells #[.int .i32 t246, .slice Ao23 t247.length co23] 53 (0, 0)) (by (with_reducible repeat (first | refine blk_drewN ?_ _ | refine blk_drew ?_ | refine blk_alloc ?_ _)); exact BK250.out)) : gb250 ≠ gb260)); have n8_ := Aside0.mk ((by rw [hg]; exact Nat.ne_of_gt (blk_lt (g := gb250) (o := .cells #[.int .i32 t246, .slice Ao23 t247.length co23] 53 (0, 0)) (by (with_reducible repeat (first | refine blk_drewN ?_ _ | refine blk_drew ?_ | refine blk_alloc ?_ _)); exact BK250.out)) : gb260 ≠ gb250)); clear HO_251001; clear HO258; clear BK250; clear HB; have HO_251001 := n0_; have HO258 := n1_; have BK250 := n2_; have HB := n3_; have BK260 := n4_; have GW260 := n5_; have GE260 := n6_; have NB250_260 := n7_; have NB260_250 := n8_; clear n0_ n1_ n2_ n3_ n4_ n5_ n6_ n7_ n8_; clear hb hbox hg; have hnb63 := NB260_250.out; have hnc63 := NB250_260.out; have hcz64_0 : w62.cell? ⟨gb260, 0, none⟩ = some (.int .i32 0) := (blk_cell BK260.out 0).trans rfl; have hcz64_1 : w62.cell? ⟨gb260, 1, none⟩ = some (.slice none 0 0) := (blk_cell BK260.out 1).trans rfl; have hfz64_0 := blk_frozen BK260.out 0; have hfz64_1 := blk_frozen BK260.out 1; obtain ⟨Ao65, co65, eo65⟩ := Kd.R_slice HO258.out; subst eo65))
                              go_ret
                              exact ⟨by first | rfl | (simp [errW_none, errW_some] <;> rfl) | (simp [*, errW_none, errW_some] <;> rfl), by repeat (first | (with_reducible first | exact HB.out | apply below_alloc | apply pw_below_drewN | apply below_drew1 | refine below_set ?_ GE250.out | refine below_set ?_ GE260.out) | exact HB.out)⟩
                          · rw [if_neg c45] at H
                            have c45b0 : (t259.toList == a2.toList) = false := beq_eq_false_iff_ne.mpr c45
                            have c45b1 : (t259.toList != a2.toList) = true := bne_iff_ne.mpr c45
                            obtain rfl := Option.some.inj H
                            go_wp2_with (first | ((with_reducible refine gate_callee (f := 38) rfl ?_); refine goesL_ (some 75) rfl rfl Try.func38 (by kernel_rfl) rfl #[.string (t245 ++ ((⟨#[64]⟩ : ByteArray) ++ a2))] rfl (by (try simp only [List.map_toArray, List.map_cons, List.map_nil]); first | done | rfl | (simp only [List.length_drop, List.length_take]; rfl)) ?_; (with_reducible refine (impl_ParseSPN.calls kj18 (t245 ++ ((⟨#[64]⟩ : ByteArray) ++ a2)) t255 t256 t259 _ A44.out).mono ?_); rintro e w66 ⟨v257, rfl, ho0, hb⟩; refine ⟨_, rfl, ?_⟩; have n0_ := Aside0.mk (Kd.R_elder' (by (with_reducible repeat (first | apply Kd.R_alloc | apply Kd.R_drewN | apply Kd.R_drew)); exact HO_251001.out) (Kd.R_base ho0) hb); have n1_ := Aside0.mk (Kd.R_lower (Kd.R_new' ho0 (Kd.R_lt (by (with_reducible repeat (first | apply Kd.R_alloc | apply Kd.R_drewN | apply Kd.R_drew)); exact HO_251001.out))) (below_size (by repeat (first | (with_reducible first | exact HB.out | apply below_alloc | apply pw_below_drewN | apply below_drew1 | refine below_set ?_ GE250.out) | exact HB.out)))); have n2_ := Aside0.mk (blk_below (g := gb250) (o := .cells #[.int .i32 t246, .slice Ao23 t247.length co23] 53 (0, 0)) (by (with_reducible repeat (first | refine blk_drewN ?_ _ | refine blk_drew ?_ | refine blk_alloc ?_ _)); exact BK250.out) hb); have n3_ := Aside0.mk (below_step (by repeat (first | (with_reducible first | exact HB.out | apply below_alloc | apply pw_below_drewN | apply below_drew1 | refine below_set ?_ GE250.out) | exact HB.out)) hb); clear HO_251001; clear BK250; clear HB; have HO_251001 := n0_; have HO258 := n1_; have BK250 := n2_; have HB := n3_; clear n0_ n1_ n2_ n3_; (try clear hb); (try clear hb2); (try clear hk); (try clear hi); (try clear ho0)) | ((with_reducible refine gate_dst (N := 11) rfl ?_); (try (refine gate_guard (by rfl) ?_; dsimp only)); refine box_event ?hg (N := 11) ?hd (cs := #[.int .i32 0, .slice none 0 0]) (t := 53) ?hr ?_; (case hd => rfl); (case hg => rfl); (case hr => first | (go_simp; done) | (go_simp; rfl)); intro gb260 hg w67 hbox hb; have n0_ := Aside0.mk (Kd.R_below (by (with_reducible repeat (first | apply Kd.R_alloc | apply Kd.R_drewN | apply Kd.R_drew)); exact HO_251001.out) hb); have n1_ := Aside0.mk (Kd.R_below (by (with_reducible repeat (first | apply Kd.R_alloc | apply Kd.R_drewN | apply Kd.R_drew)); exact HO258.out) hb); have n2_ := Aside0.mk (blk_below (g := gb250) (o := .cells #[.int .i32 t246, .slice Ao23 t247.length co23] 53 (0, 0)) (by (with_reducible repeat (first | refine blk_drewN ?_ _ | refine blk_drew ?_ | refine blk_alloc ?_ _)); exact BK250.out) hb); have n3_ := Aside0.mk (below_step (by repeat (first | (with_reducible first | exact HB.out | apply below_alloc | apply pw_below_drewN | apply below_drew1 | refine below_set ?_ GE250.out) | exact HB.out)) hb); have n4_ := Aside0.mk (hbox); have n5_ := Aside0.mk ((by rw [hg]; exact (below_size (by repeat (first | (with_reducible first | exact HB.out | apply below_alloc | apply pw_below_drewN | apply below_drew1 | refine below_set ?_ GE250.out) | exact HB.out))) : w.heap.size ≤ gb260)); have n6_ := Aside0.mk ((by rw [hg]; exact (below_size (by repeat (first | (with_reducible first | exact HB.out | apply below_alloc | apply pw_below_drewN | apply below_drew1 | refine below_set ?_ GE250.out) | exact HB.out))) : w.heap.size ≤ gb260)); have n7_ := Aside0.mk ((by rw [hg]; exact Nat.ne_of_lt (blk_lt (g := gb250) (o := .cells #[.int .i32 t246, .slice Ao23 t247.length co23] 53 (0, 0)) (by (with_reducible repeat (first | refine blk_drewN ?_ _ | refine blk_drew ?_ | refine blk_alloc ?_ _)); exact BK250.out)) : gb250 ≠ gb260)); have n8_ := Aside0.mk ((by rw [hg]; exact Nat.ne_of_gt (blk_lt (g := gb250) (o := .cells #[.int .i32 t246, .slice Ao23 t247.length co23] 53 (0, 0)) (by (with_reducible repeat (first | refine blk_drewN ?_ _ | refine blk_drew ?_ | refine blk_alloc ?_ _)); exact BK250.out)) : gb260 ≠ gb250)); clear HO_251001; clear HO258; clear BK250; clear HB; have HO_251001 := n0_; have HO258 := n1_; have BK250 := n2_; have HB := n3_; have BK260 := n4_; have GW260 := n5_; have GE260 := n6_; have NB250_260 := n7_; have NB260_250 := n8_; clear n0_ n1_ n2_ n3_ n4_ n5_ n6_ n7_ n8_; clear hb hbox hg; have hnb68 := NB260_250.out; have hnc68 := NB250_260.out; have hcz69_0 : w67.cell? ⟨gb260, 0, none⟩ = some (.int .i32 0) := (blk_cell BK260.out 0).trans rfl; have hcz69_1 : w67.cell? ⟨gb260, 1, none⟩ = some (.slice none 0 0) := (blk_cell BK260.out 1).trans rfl; have hfz69_0 := blk_frozen BK260.out 0; have hfz69_1 := blk_frozen BK260.out 1; obtain ⟨Ao70, co70, eo70⟩ := Kd.R_slice HO258.out; subst eo70))
                            go_ret
                            exact ⟨by first | rfl | (simp [errW_none, errW_some] <;> rfl) | (simp [*, errW_none, errW_some] <;> rfl), by repeat (first | (with_reducible first | exact HB.out | apply below_alloc | apply pw_below_drewN | apply below_drew1 | refine below_set ?_ GE250.out | refine below_set ?_ GE260.out) | exact HB.out)⟩
                        · rw [if_neg c43] at H
                          exact absurd H (by simp)
                      · rw [if_neg c42] at H
                        exact absurd H (by simp)
                    · replace c41 := Bool.eq_false_iff.mpr c41
                      subst c41
                      have H1 : ((impl_ParseSPN.f kj18 t245).bind fun bt263 => (if bt263.2.2.toList = ([] : List UInt8) then (if bt263.1 = 1 then ((slices_Equal_string_string.f kj18 bt263.2.1 l1).bind fun t269 => (if t269 = true then ((laws_plainAwake.f kj18).bind fun t270 => (some t270)) else (some false))) else (some false)) else (some false))) = some r := by rw [if_neg (show ¬ (false = true) by decide)] at H; exact H
                      clear H
                      have H := H1
                      clear H1
                      replace H := Option.bind_eq_some_iff.mp H
                      obtain ⟨⟨t263, t264, t267⟩, A710, H⟩ := H
                      replace H : (if t267.toList = ([] : List UInt8) then (if t263 = 1 then ((slices_Equal_string_string.f kj18 t264 l1).bind fun t269 => (if t269 = true then ((laws_plainAwake.f kj18).bind fun t270 => (some t270)) else (some false))) else (some false)) else (some false)) = some r := H
                      have A71 := Aside0.mk A710
                      clear A710
                      by_cases c72 : t267.toList = ([] : List UInt8)
                      · rw [if_pos c72] at H
                        have c72b0 : (t267.toList == ([] : List UInt8)) = true := beq_iff_eq.mpr c72
                        have c72b1 : (t267.toList != ([] : List UInt8)) = false := bne_eq_false_iff_eq.mpr c72
                        clear c72
                        by_cases c73 : t263 = 1
                        · rw [if_pos c73] at H
                          have c73b0 : (t263 == 1) = true := beq_iff_eq.mpr c73
                          have c73b1 : (t263 != 1) = false := bne_eq_false_iff_eq.mpr c73
                          clear c73
                          replace H := Option.bind_eq_some_iff.mp H
                          obtain ⟨t269, A740, H⟩ := H
                          replace H : (if t269 = true then ((laws_plainAwake.f kj18).bind fun t270 => (some t270)) else (some false)) = some r := H
                          have A74 := Aside0.mk A740
                          clear A740
                          by_cases c75 : t269 = true
                          · subst c75
                            have H1 : ((laws_plainAwake.f kj18).bind fun t270 => (some t270)) = some r := by rw [if_pos rfl] at H; exact H
                            clear H
                            have H := H1
                            clear H1
                            replace H := Option.bind_eq_some_iff.mp H
                            obtain ⟨t270, A760, H⟩ := H
                            replace H : (some t270) = some r := H
                            have A76 := Aside0.mk A760
                            clear A760
                            obtain rfl := Option.some.inj H
                            go_wp2_with (first | ((with_reducible refine gate_callee (f := 38) rfl ?_); refine goesL_ (some 75) rfl rfl Try.func38 (by kernel_rfl) rfl #[.string t245] rfl (by (try simp only [List.map_toArray, List.map_cons, List.map_nil]); first | done | rfl | (simp only [List.length_drop, List.length_take]; rfl)) ?_; (with_reducible refine (impl_ParseSPN.calls kj18 t245 t263 t264 t267 _ A71.out).mono ?_); rintro e w77 ⟨v265, rfl, ho0, hb⟩; refine ⟨_, rfl, ?_⟩; have n0_ := Aside0.mk (Kd.R_elder' (by (with_reducible repeat (first | apply Kd.R_alloc | apply Kd.R_drewN | apply Kd.R_drew)); exact HO_251001.out) (Kd.R_base ho0) hb); have n1_ := Aside0.mk (Kd.R_lower (Kd.R_new' ho0 (Kd.R_lt (by (with_reducible repeat (first | apply Kd.R_alloc | apply Kd.R_drewN | apply Kd.R_drew)); exact HO_251001.out))) (below_size (by repeat (first | (with_reducible first | exact HB.out | apply below_alloc | apply pw_below_drewN | apply below_drew1 | refine below_set ?_ GE250.out) | exact HB.out)))); have n2_ := Aside0.mk (blk_below (g := gb250) (o := .cells #[.int .i32 t246, .slice Ao23 t247.length co23] 53 (0, 0)) (by (with_reducible repeat (first | refine blk_drewN ?_ _ | refine blk_drew ?_ | refine blk_alloc ?_ _)); exact BK250.out) hb); have n3_ := Aside0.mk (below_step (by repeat (first | (with_reducible first | exact HB.out | apply below_alloc | apply pw_below_drewN | apply below_drew1 | refine below_set ?_ GE250.out) | exact HB.out)) hb); clear HO_251001; clear BK250; clear HB; have HO_251001 := n0_; have HO266 := n1_; have BK250 := n2_; have HB := n3_; clear n0_ n1_ n2_ n3_; (try clear hb); (try clear hb2); (try clear hk); (try clear hi); (try clear ho0)) | ((with_reducible refine gate_dst (N := 11) rfl ?_); (try (refine gate_guard (by rfl) ?_; dsimp only)); refine box_event ?hg (N := 11) ?hd (cs := #[.int .i32 0, .slice none 0 0]) (t := 53) ?hr ?_; (case hd => rfl); (case hg => rfl); (case hr => first | (go_simp; done) | (go_simp; rfl)); intro gb268 hg w78 hbox hb; have n0_ := Aside0.mk (Kd.R_below (by (with_reducible repeat (first | apply Kd.R_alloc | apply Kd.R_drewN | apply Kd.R_drew)); exact HO_251001.out) hb); have n1_ := Aside0.mk (Kd.R_below (by (with_reducible repeat (first | apply Kd.R_alloc | apply Kd.R_drewN | apply Kd.R_drew)); exact HO266.out) hb); have n2_ := Aside0.mk (blk_below (g := gb250) (o := .cells #[.int .i32 t246, .slice Ao23 t247.length co23] 53 (0, 0)) (by (with_reducible repeat (first | refine blk_drewN ?_ _ | refine blk_drew ?_ | refine blk_alloc ?_ _)); exact BK250.out) hb); have n3_ := Aside0.mk (below_step (by repeat (first | (with_reducible first | exact HB.out | apply below_alloc | apply pw_below_drewN | apply below_drew1 | refine below_set ?_ GE250.out) | exact HB.out)) hb); have n4_ := Aside0.mk (hbox); have n5_ := Aside0.mk ((by rw [hg]; exact (below_size (by repeat (first | (with_reducible first | exact HB.out | apply below_alloc | apply pw_below_drewN | apply below_drew1 | refine below_set ?_ GE250.out) | exact HB.out))) : w.heap.size ≤ gb268)); have n6_ := Aside0.mk ((by rw [hg]; exact (below_size (by repeat (first | (with_reducible first | exact HB.out | apply below_alloc | apply pw_below_drewN | apply below_drew1 | refine below_set ?_ GE250.out) | exact HB.out))) : w.heap.size ≤ gb268)); have n7_ := Aside0.mk ((by rw [hg]; exact Nat.ne_of_lt (blk_lt (g := gb250) (o := .cells #[.int .i32 t246, .slice Ao23 t247.length co23] 53 (0, 0)) (by (with_reducible repeat (first | refine blk_drewN ?_ _ | refine blk_drew ?_ | refine blk_alloc ?_ _)); exact BK250.out)) : gb250 ≠ gb268)); have n8_ := Aside0.mk ((by rw [hg]; exact Nat.ne_of_gt (blk_lt (g := gb250) (o := .cells #[.int .i32 t246, .slice Ao23 t247.length co23] 53 (0, 0)) (by (with_reducible repeat (first | refine blk_drewN ?_ _ | refine blk_drew ?_ | refine blk_alloc ?_ _)); exact BK250.out)) : gb268 ≠ gb250)); clear HO_251001; clear HO266; clear BK250; clear HB; have HO_251001 := n0_; have HO266 := n1_; have BK250 := n2_; have HB := n3_; have BK268 := n4_; have GW268 := n5_; have GE268 := n6_; have NB250_268 := n7_; have NB268_250 := n8_; clear n0_ n1_ n2_ n3_ n4_ n5_ n6_ n7_ n8_; clear hb hbox hg; have hnb79 := NB268_250.out; have hnc79 := NB250_268.out; have hcz80_0 : w78.cell? ⟨gb268, 0, none⟩ = some (.int .i32 0) := (blk_cell BK268.out 0).trans rfl; have hcz80_1 : w78.cell? ⟨gb268, 1, none⟩ = some (.slice none 0 0) := (blk_cell BK268.out 1).trans rfl; have hfz80_0 := blk_frozen BK268.out 0; have hfz80_1 := blk_frozen BK268.out 1; obtain ⟨Ao81, co81, eo81⟩ := Kd.R_slice HO266.out; subst eo81) | (go_at_call 31; (with_reducible refine (slices_Equal_string_string.calls kj18 _ _ t264 _ _ l1 true _ ?side1 ?side2 ?side3 ?side4 A74.out).mono ?_); (case side1 => refine (Kd.R_reads' (e := 9) (base := w.heap.size) (ok := fun k_ => (True ∧ some k_ ≠ (.slice Ao23 t247.length co23 : Value).ownBlock)) (n := t264.length) (c := co81) ?_).2.2; exact (by (with_reducible repeat (first | apply Kd.R_alloc | apply Kd.R_drewN | apply Kd.R_drew)); exact (Kd.R_mono (Kd.R_far (p := ⟨gb268, 1, none⟩) (Kd.R_far (p := ⟨gb268, 0, none⟩) (Kd.R_types HO266.out BK268.out (by decide)) (fun _ hk => hk.2) (.int .i32 t263)) (fun _ hk => hk.2) (.slice Ao81 t264.length co81)) (fun _ h_ => h_.1)))); (case side2 => exact (Kd.R_reads' HO266.out).2.1); (case side3 => exact Kd.C_below HR1.out (by repeat (first | (with_reducible first | exact HB.out | apply below_alloc | apply pw_below_drewN | apply below_drew1 | refine below_set ?_ GE250.out | refine below_set ?_ GE268.out) | exact HB.out))); (case side4 => exact HC1.out); rintro e w' ⟨rfl, ⟨nd, rfl⟩⟩) | (go_at_call 26; (with_reducible refine (laws_plainAwake.calls kj18  t270 _ A76.out).mono ?_); rintro e w82 ⟨rfl, hb⟩; have n0_ := Aside0.mk (Kd.R_below (by (with_reducible repeat (first | apply Kd.R_alloc | apply Kd.R_drewN | apply Kd.R_drew)); exact (Kd.R_mono (Kd.R_far (p := ⟨gb268, 1, none⟩) (Kd.R_far (p := ⟨gb268, 0, none⟩) (Kd.R_types HO_251001.out BK268.out (by decide)) (fun _ hk => hk.2) (.int .i32 t263)) (fun _ hk => hk.2) (.slice Ao81 t264.length co81)) (fun _ h_ => h_.1))) hb); have n1_ := Aside0.mk (Kd.R_below (by (with_reducible repeat (first | apply Kd.R_alloc | apply Kd.R_drewN | apply Kd.R_drew)); exact (Kd.R_mono (Kd.R_far (p := ⟨gb268, 1, none⟩) (Kd.R_far (p := ⟨gb268, 0, none⟩) (Kd.R_types HO266.out BK268.out (by decide)) (fun _ hk => hk.2) (.int .i32 t263)) (fun _ hk => hk.2) (.slice Ao81 t264.length co81)) (fun _ h_ => h_.1))) hb); have n2_ := Aside0.mk (blk_below (g := gb250) (o := .cells #[.int .i32 t246, .slice Ao23 t247.length co23] 53 (0, 0)) (by (with_reducible repeat (first | refine blk_drewN ?_ _ | refine blk_drew ?_ | refine blk_alloc ?_ _)); refine blk_far ?_ NB250_268.out _; (with_reducible repeat (first | refine blk_drewN ?_ _ | refine blk_drew ?_ | refine blk_alloc ?_ _)); refine blk_far ?_ NB250_268.out _; (with_reducible repeat (first | refine blk_drewN ?_ _ | refine blk_drew ?_ | refine blk_alloc ?_ _)); exact BK250.out) hb); have n3_ := Aside0.mk (blk_below (g := gb268) (o := .cells #[.int .i32 t263, .slice Ao81 t264.length co81] 53 (0, 0)) (by (with_reducible repeat (first | refine blk_drewN ?_ _ | refine blk_drew ?_ | refine blk_alloc ?_ _)); refine blk_put (cs := #[.int .i32 t263, .slice none 0 0]) ?_ 1 _ rfl; (with_reducible repeat (first | refine blk_drewN ?_ _ | refine blk_drew ?_ | refine blk_alloc ?_ _)); refine blk_put (cs := #[.int .i32 0, .slice none 0 0]) ?_ 0 _ rfl; (with_reducible repeat (first | refine blk_drewN ?_ _ | refine blk_drew ?_ | refine blk_alloc ?_ _)); exact BK268.out) hb); have n4_ := Aside0.mk (below_step (by repeat (first | (with_reducible first | exact HB.out | apply below_alloc | apply pw_below_drewN | apply below_drew1 | refine below_set ?_ GE250.out | refine below_set ?_ GE268.out) | exact HB.out)) hb); clear HO_251001; clear HO266; clear BK250; clear BK268; clear HB; have HO_251001 := n0_; have HO266 := n1_; have BK250 := n2_; have BK268 := n3_; have HB := n4_; clear n0_ n1_ n2_ n3_ n4_; (try clear hb); (try clear hb2); (try clear hk); (try clear hi)))
                            go_ret
                            exact ⟨by first | rfl | (simp [errW_none, errW_some] <;> rfl) | (simp [*, errW_none, errW_some] <;> rfl), by repeat (first | (with_reducible first | exact HB.out | apply below_alloc | apply pw_below_drewN | apply below_drew1 | refine below_set ?_ GE250.out | refine below_set ?_ GE268.out) | exact HB.out)⟩
                          · replace c75 := Bool.eq_false_iff.mpr c75
                            subst c75
                            have H1 : (some false) = some r := by rw [if_neg (show ¬ (false = true) by decide)] at H; exact H
                            clear H
                            have H := H1
                            clear H1
                            obtain rfl := Option.some.inj H
                            go_wp2_with (first | ((with_reducible refine gate_callee (f := 38) rfl ?_); refine goesL_ (some 75) rfl rfl Try.func38 (by kernel_rfl) rfl #[.string t245] rfl (by (try simp only [List.map_toArray, List.map_cons, List.map_nil]); first | done | rfl | (simp only [List.length_drop, List.length_take]; rfl)) ?_; (with_reducible refine (impl_ParseSPN.calls kj18 t245 t263 t264 t267 _ A71.out).mono ?_); rintro e w83 ⟨v265, rfl, ho0, hb⟩; refine ⟨_, rfl, ?_⟩; have n0_ := Aside0.mk (Kd.R_elder' (by (with_reducible repeat (first | apply Kd.R_alloc | apply Kd.R_drewN | apply Kd.R_drew)); exact HO_251001.out) (Kd.R_base ho0) hb); have n1_ := Aside0.mk (Kd.R_lower (Kd.R_new' ho0 (Kd.R_lt (by (with_reducible repeat (first | apply Kd.R_alloc | apply Kd.R_drewN | apply Kd.R_drew)); exact HO_251001.out))) (below_size (by repeat (first | (with_reducible first | exact HB.out | apply below_alloc | apply pw_below_drewN | apply below_drew1 | refine below_set ?_ GE250.out) | exact HB.out)))); have n2_ := Aside0.mk (blk_below (g := gb250) (o := .cells #[.int .i32 t246, .slice Ao23 t247.length co23] 53 (0, 0)) (by (with_reducible repeat (first | refine blk_drewN ?_ _ | refine blk_drew ?_ | refine blk_alloc ?_ _)); exact BK250.out) hb); have n3_ := Aside0.mk (below_step (by repeat (first | (with_reducible first | exact HB.out | apply below_alloc | apply pw_below_drewN | apply below_drew1 | refine below_set ?_ GE250.out) | exact HB.out)) hb); clear HO_251001; clear BK250; clear HB; have HO_251001 := n0_; have HO266 := n1_; have BK250 := n2_; have HB := n3_; clear n0_ n1_ n2_ n3_; (try clear hb); (try clear hb2); (try clear hk); (try clear hi); (try clear ho0)) | ((with_reducible refine gate_dst (N := 11) rfl ?_); (try (refine gate_guard (by rfl) ?_; dsimp only)); refine box_event ?hg (N := 11) ?hd (cs := #[.int .i32 0, .slice none 0 0]) (t := 53) ?hr ?_; (case hd => rfl); (case hg => rfl); (case hr => first | (go_simp; done) | (go_simp; rfl)); intro gb268 hg w84 hbox hb; have n0_ := Aside0.mk (Kd.R_below (by (with_reducible repeat (first | apply Kd.R_alloc | apply Kd.R_drewN | apply Kd.R_drew)); exact HO_251001.out) hb); have n1_ := Aside0.mk (Kd.R_below (by (with_reducible repeat (first | apply Kd.R_alloc | apply Kd.R_drewN | apply Kd.R_drew)); exact HO266.out) hb); have n2_ := Aside0.mk (blk_below (g := gb250) (o := .cells #[.int .i32 t246, .slice Ao23 t247.length co23] 53 (0, 0)) (by (with_reducible repeat (first | refine blk_drewN ?_ _ | refine blk_drew ?_ | refine blk_alloc ?_ _)); exact BK250.out) hb); have n3_ := Aside0.mk (below_step (by repeat (first | (with_reducible first | exact HB.out | apply below_alloc | apply pw_below_drewN | apply below_drew1 | refine below_set ?_ GE250.out) | exact HB.out)) hb); have n4_ := Aside0.mk (hbox); have n5_ := Aside0.mk ((by rw [hg]; exact (below_size (by repeat (first | (with_reducible first | exact HB.out | apply below_alloc | apply pw_below_drewN | apply below_drew1 | refine below_set ?_ GE250.out) | exact HB.out))) : w.heap.size ≤ gb268)); have n6_ := Aside0.mk ((by rw [hg]; exact (below_size (by repeat (first | (with_reducible first | exact HB.out | apply below_alloc | apply pw_below_drewN | apply below_drew1 | refine below_set ?_ GE250.out) | exact HB.out))) : w.heap.size ≤ gb268)); have n7_ := Aside0.mk ((by rw [hg]; exact Nat.ne_of_lt (blk_lt (g := gb250) (o := .cells #[.int .i32 t246, .slice Ao23 t247.length co23] 53 (0, 0)) (by (with_reducible repeat (first | refine blk_drewN ?_ _ | refine blk_drew ?_ | refine blk_alloc ?_ _)); exact BK250.out)) : gb250 ≠ gb268)); have n8_ := Aside0.mk ((by rw [hg]; exact Nat.ne_of_gt (blk_lt (g := gb250) (o := .cells #[.int .i32 t246, .slice Ao23 t247.length co23] 53 (0, 0)) (by (with_reducible repeat (first | refine blk_drewN ?_ _ | refine blk_drew ?_ | refine blk_alloc ?_ _)); exact BK250.out)) : gb268 ≠ gb250)); clear HO_251001; clear HO266; clear BK250; clear HB; have HO_251001 := n0_; have HO266 := n1_; have BK250 := n2_; have HB := n3_; have BK268 := n4_; have GW268 := n5_; have GE268 := n6_; have NB250_268 := n7_; have NB268_250 := n8_; clear n0_ n1_ n2_ n3_ n4_ n5_ n6_ n7_ n8_; clear hb hbox hg; have hnb85 := NB268_250.out; have hnc85 := NB250_268.out; have hcz86_0 : w84.cell? ⟨gb268, 0, none⟩ = some (.int .i32 0) := (blk_cell BK268.out 0).trans rfl; have hcz86_1 : w84.cell? ⟨gb268, 1, none⟩ = some (.slice none 0 0) := (blk_cell BK268.out 1).trans rfl; have hfz86_0 := blk_frozen BK268.out 0; have hfz86_1 := blk_frozen BK268.out 1; obtain ⟨Ao87, co87, eo87⟩ := Kd.R_slice HO266.out; subst eo87) | (go_at_call 31; (with_reducible refine (slices_Equal_string_string.calls kj18 _ _ t264 _ _ l1 false _ ?side1 ?side2 ?side3 ?side4 A74.out).mono ?_); (case side1 => refine (Kd.R_reads' (e := 9) (base := w.heap.size) (ok := fun k_ => (True ∧ some k_ ≠ (.slice Ao23 t247.length co23 : Value).ownBlock)) (n := t264.length) (c := co87) ?_).2.2; exact (by (with_reducible repeat (first | apply Kd.R_alloc | apply Kd.R_drewN | apply Kd.R_drew)); exact (Kd.R_mono (Kd.R_far (p := ⟨gb268, 1, none⟩) (Kd.R_far (p := ⟨gb268, 0, none⟩) (Kd.R_types HO266.out BK268.out (by decide)) (fun _ hk => hk.2) (.int .i32 t263)) (fun _ hk => hk.2) (.slice Ao87 t264.length co87)) (fun _ h_ => h_.1)))); (case side2 => exact (Kd.R_reads' HO266.out).2.1); (case side3 => exact Kd.C_below HR1.out (by repeat (first | (with_reducible first | exact HB.out | apply below_alloc | apply pw_below_drewN | apply below_drew1 | refine below_set ?_ GE250.out | refine below_set ?_ GE268.out) | exact HB.out))); (case side4 => exact HC1.out); rintro e w' ⟨rfl, ⟨nd, rfl⟩⟩))
                            go_ret
                            exact ⟨by first | rfl | (simp [errW_none, errW_some] <;> rfl) | (simp [*, errW_none, errW_some] <;> rfl), by repeat (first | (with_reducible first | exact HB.out | apply below_alloc | apply pw_below_drewN | apply below_drew1 | refine below_set ?_ GE250.out | refine below_set ?_ GE268.out) | exact HB.out)⟩
                        · rw [if_neg c73] at H
                          have c73b0 : (t263 == 1) = false := beq_eq_false_iff_ne.mpr c73
                          have c73b1 : (t263 != 1) = true := bne_iff_ne.mpr c73
                          obtain rfl := Option.some.inj H
                          go_wp2_with (first | ((with_reducible refine gate_callee (f := 38) rfl ?_); refine goesL_ (some 75) rfl rfl Try.func38 (by kernel_rfl) rfl #[.string t245] rfl (by (try simp only [List.map_toArray, List.map_cons, List.map_nil]); first | done | rfl | (simp only [List.length_drop, List.length_take]; rfl)) ?_; (with_reducible refine (impl_ParseSPN.calls kj18 t245 t263 t264 t267 _ A71.out).mono ?_); rintro e w88 ⟨v265, rfl, ho0, hb⟩; refine ⟨_, rfl, ?_⟩; have n0_ := Aside0.mk (Kd.R_elder' (by (with_reducible repeat (first | apply Kd.R_alloc | apply Kd.R_drewN | apply Kd.R_drew)); exact HO_251001.out) (Kd.R_base ho0) hb); have n1_ := Aside0.mk (Kd.R_lower (Kd.R_new' ho0 (Kd.R_lt (by (with_reducible repeat (first | apply Kd.R_alloc | apply Kd.R_drewN | apply Kd.R_drew)); exact HO_251001.out))) (below_size (by repeat (first | (with_reducible first | exact HB.out | apply below_alloc | apply pw_below_drewN | apply below_drew1 | refine below_set ?_ GE250.out) | exact HB.out)))); have n2_ := Aside0.mk (blk_below (g := gb250) (o := .cells #[.int .i32 t246, .slice Ao23 t247.length co23] 53 (0, 0)) (by (with_reducible repeat (first | refine blk_drewN ?_ _ | refine blk_drew ?_ | refine blk_alloc ?_ _)); exact BK250.out) hb); have n3_ := Aside0.mk (below_step (by repeat (first | (with_reducible first | exact HB.out | apply below_alloc | apply pw_below_drewN | apply below_drew1 | refine below_set ?_ GE250.out) | exact HB.out)) hb); clear HO_251001; clear BK250; clear HB; have HO_251001 := n0_; have HO266 := n1_; have BK250 := n2_; have HB := n3_; clear n0_ n1_ n2_ n3_; (try clear hb); (try clear hb2); (try clear hk); (try clear hi); (try clear ho0)) | ((with_reducible refine gate_dst (N := 11) rfl ?_); (try (refine gate_guard (by rfl) ?_; dsimp only)); refine box_event ?hg (N := 11) ?hd (cs := #[.int .i32 0, .slice none 0 0]) (t := 53) ?hr ?_; (case hd => rfl); (case hg => rfl); (case hr => first | (go_simp; done) | (go_simp; rfl)); intro gb268 hg w89 hbox hb; have n0_ := Aside0.mk (Kd.R_below (by (with_reducible repeat (first | apply Kd.R_alloc | apply Kd.R_drewN | apply Kd.R_drew)); exact HO_251001.out) hb); have n1_ := Aside0.mk (Kd.R_below (by (with_reducible repeat (first | apply Kd.R_alloc | apply Kd.R_drewN | apply Kd.R_drew)); exact HO266.out) hb); have n2_ := Aside0.mk (blk_below (g := gb250) (o := .cells #[.int .i32 t246, .slice Ao23 t247.length co23] 53 (0, 0)) (by (with_reducible repeat (first | refine blk_drewN ?_ _ | refine blk_drew ?_ | refine blk_alloc ?_ _)); exact BK250.out) hb); have n3_ := Aside0.mk (below_step (by repeat (first | (with_reducible first | exact HB.out | apply below_alloc | apply pw_below_drewN | apply below_drew1 | refine below_set ?_ GE250.out) | exact HB.out)) hb); have n4_ := Aside0.mk (hbox); have n5_ := Aside0.mk ((by rw [hg]; exact (below_size (by repeat (first | (with_reducible first | exact HB.out | apply below_alloc | apply pw_below_drewN | apply below_drew1 | refine below_set ?_ GE250.out) | exact HB.out))) : w.heap.size ≤ gb268)); have n6_ := Aside0.mk ((by rw [hg]; exact (below_size (by repeat (first | (with_reducible first | exact HB.out | apply below_alloc | apply pw_below_drewN | apply below_drew1 | refine below_set ?_ GE250.out) | exact HB.out))) : w.heap.size ≤ gb268)); have n7_ := Aside0.mk ((by rw [hg]; exact Nat.ne_of_lt (blk_lt (g := gb250) (o := .cells #[.int .i32 t246, .slice Ao23 t247.length co23] 53 (0, 0)) (by (with_reducible repeat (first | refine blk_drewN ?_ _ | refine blk_drew ?_ | refine blk_alloc ?_ _)); exact BK250.out)) : gb250 ≠ gb268)); have n8_ := Aside0.mk ((by rw [hg]; exact Nat.ne_of_gt (blk_lt (g := gb250) (o := .cells #[.int .i32 t246, .slice Ao23 t247.length co23] 53 (0, 0)) (by (with_reducible repeat (first | refine blk_drewN ?_ _ | refine blk_drew ?_ | refine blk_alloc ?_ _)); exact BK250.out)) : gb268 ≠ gb250)); clear HO_251001; clear HO266; clear BK250; clear HB; have HO_251001 := n0_; have HO266 := n1_; have BK250 := n2_; have HB := n3_; have BK268 := n4_; have GW268 := n5_; have GE268 := n6_; have NB250_268 := n7_; have NB268_250 := n8_; clear n0_ n1_ n2_ n3_ n4_ n5_ n6_ n7_ n8_; clear hb hbox hg; have hnb90 := NB268_250.out; have hnc90 := NB250_268.out; have hcz91_0 : w89.cell? ⟨gb268, 0, none⟩ = some (.int .i32 0) := (blk_cell BK268.out 0).trans rfl; have hcz91_1 : w89.cell? ⟨gb268, 1, none⟩ = some (.slice none 0 0) := (blk_cell BK268.out 1).trans rfl; have hfz91_0 := blk_frozen BK268.out 0; have hfz91_1 := blk_frozen BK268.out 1; obtain ⟨Ao92, co92, eo92⟩ := Kd.R_slice HO266.out; subst eo92))
                          go_ret
                          exact ⟨by first | rfl | (simp [errW_none, errW_some] <;> rfl) | (simp [*, errW_none, errW_some] <;> rfl), by repeat (first | (with_reducible first | exact HB.out | apply below_alloc | apply pw_below_drewN | apply below_drew1 | refine below_set ?_ GE250.out | refine below_set ?_ GE268.out) | exact HB.out)⟩
                      · rw [if_neg c72] at H
                        have c72b0 : (t267.toList == ([] : List UInt8)) = false := beq_eq_false_iff_ne.mpr c72
                        have c72b1 : (t267.toList != ([] : List UInt8)) = true := bne_iff_ne.mpr c72
                        obtain rfl := Option.some.inj H
                        go_wp2_with (first | ((with_reducible refine gate_callee (f := 38) rfl ?_); refine goesL_ (some 75) rfl rfl Try.func38 (by kernel_rfl) rfl #[.string t245] rfl (by (try simp only [List.map_toArray, List.map_cons, List.map_nil]); first | done | rfl | (simp only [List.length_drop, List.length_take]; rfl)) ?_; (with_reducible refine (impl_ParseSPN.calls kj18 t245 t263 t264 t267 _ A71.out).mono ?_); rintro e w93 ⟨v265, rfl, ho0, hb⟩; refine ⟨_, rfl, ?_⟩; have n0_ := Aside0.mk (Kd.R_elder' (by (with_reducible repeat (first | apply Kd.R_alloc | apply Kd.R_drewN | apply Kd.R_drew)); exact HO_251001.out) (Kd.R_base ho0) hb); have n1_ := Aside0.mk (Kd.R_lower (Kd.R_new' ho0 (Kd.R_lt (by (with_reducible repeat (first | apply Kd.R_alloc | apply Kd.R_drewN | apply Kd.R_drew)); exact HO_251001.out))) (below_size (by repeat (first | (with_reducible first | exact HB.out | apply below_alloc | apply pw_below_drewN | apply below_drew1 | refine below_set ?_ GE250.out) | exact HB.out)))); have n2_ := Aside0.mk (blk_below (g := gb250) (o := .cells #[.int .i32 t246, .slice Ao23 t247.length co23] 53 (0, 0)) (by (with_reducible repeat (first | refine blk_drewN ?_ _ | refine blk_drew ?_ | refine blk_alloc ?_ _)); exact BK250.out) hb); have n3_ := Aside0.mk (below_step (by repeat (first | (with_reducible first | exact HB.out | apply below_alloc | apply pw_below_drewN | apply below_drew1 | refine below_set ?_ GE250.out) | exact HB.out)) hb); clear HO_251001; clear BK250; clear HB; have HO_251001 := n0_; have HO266 := n1_; have BK250 := n2_; have HB := n3_; clear n0_ n1_ n2_ n3_; (try clear hb); (try clear hb2); (try clear hk); (try clear hi); (try clear ho0)) | ((with_reducible refine gate_dst (N := 11) rfl ?_); (try (refine gate_guard (by rfl) ?_; dsimp only)); refine box_event ?hg (N := 11) ?hd (cs := #[.int .i32 0, .slice none 0 0]) (t := 53) ?hr ?_; (case hd => rfl); (case hg => rfl); (case hr => first | (go_simp; done) | (go_simp; rfl)); intro gb268 hg w94 hbox hb; have n0_ := Aside0.mk (Kd.R_below (by (with_reducible repeat (first | apply Kd.R_alloc | apply Kd.R_drewN | apply Kd.R_drew)); exact HO_251001.out) hb); have n1_ := Aside0.mk (Kd.R_below (by (with_reducible repeat (first | apply Kd.R_alloc | apply Kd.R_drewN | apply Kd.R_drew)); exact HO266.out) hb); have n2_ := Aside0.mk (blk_below (g := gb250) (o := .cells #[.int .i32 t246, .slice Ao23 t247.length co23] 53 (0, 0)) (by (with_reducible repeat (first | refine blk_drewN ?_ _ | refine blk_drew ?_ | refine blk_alloc ?_ _)); exact BK250.out) hb); have n3_ := Aside0.mk (below_step (by repeat (first | (with_reducible first | exact HB.out | apply below_alloc | apply pw_below_drewN | apply below_drew1 | refine below_set ?_ GE250.out) | exact HB.out)) hb); have n4_ := Aside0.mk (hbox); have n5_ := Aside0.mk ((by rw [hg]; exact (below_size (by repeat (first | (with_reducible first | exact HB.out | apply below_alloc | apply pw_below_drewN | apply below_drew1 | refine below_set ?_ GE250.out) | exact HB.out))) : w.heap.size ≤ gb268)); have n6_ := Aside0.mk ((by rw [hg]; exact (below_size (by repeat (first | (with_reducible first | exact HB.out | apply below_alloc | apply pw_below_drewN | apply below_drew1 | refine below_set ?_ GE250.out) | exact HB.out))) : w.heap.size ≤ gb268)); have n7_ := Aside0.mk ((by rw [hg]; exact Nat.ne_of_lt (blk_lt (g := gb250) (o := .cells #[.int .i32 t246, .slice Ao23 t247.length co23] 53 (0, 0)) (by (with_reducible repeat (first | refine blk_drewN ?_ _ | refine blk_drew ?_ | refine blk_alloc ?_ _)); exact BK250.out)) : gb250 ≠ gb268)); have n8_ := Aside0.mk ((by rw [hg]; exact Nat.ne_of_gt (blk_lt (g := gb250) (o := .cells #[.int .i32 t246, .slice Ao23 t247.length co23] 53 (0, 0)) (by (with_reducible repeat (first | refine blk_drewN ?_ _ | refine blk_drew ?_ | refine blk_alloc ?_ _)); exact BK250.out)) : gb268 ≠ gb250)); clear HO_251001; clear HO266; clear BK250; clear HB; have HO_251001 := n0_; have HO266 := n1_; have BK250 := n2_; have HB := n3_; have BK268 := n4_; have GW268 := n5_; have GE268 := n6_; have NB250_268 := n7_; have NB268_250 := n8_; clear n0_ n1_ n2_ n3_ n4_ n5_ n6_ n7_ n8_; clear hb hbox hg; have hnb95 := NB268_250.out; have hnc95 := NB250_268.out; have hcz96_0 : w94.cell? ⟨gb268, 0, none⟩ = some (.int .i32 0) := (blk_cell BK268.out 0).trans rfl; have hcz96_1 : w94.cell? ⟨gb268, 1, none⟩ = some (.slice none 0 0) := (blk_cell BK268.out 1).trans rfl; have hfz96_0 := blk_frozen BK268.out 0; have hfz96_1 := blk_frozen BK268.out 1; obtain ⟨Ao97, co97, eo97⟩ := Kd.R_slice HO266.out; subst eo97))
                        go_ret
                        exact ⟨by first | rfl | (simp [errW_none, errW_some] <;> rfl) | (simp [*, errW_none, errW_some] <;> rfl), by repeat (first | (with_reducible first | exact HB.out | apply below_alloc | apply pw_below_drewN | apply below_drew1 | refine below_set ?_ GE250.out | refine below_set ?_ GE268.out) | exact HB.out)⟩

/-- THE ONE PURE STATEMENT of laws_FnPrincipal. -/
def laws_FnPrincipal.Pure : Prop := ∀ (a0 : Int) (l1 : List ByteArray) (a2 : ByteArray) (a3 : Bool), ((Lit.int .i32 a0).wf = true) → (l1.length ≤ 9223372036854775807 ∧ ∀ x_ ∈ l1, x_.size ≤ maxLen) → (a2.size ≤ 140737488351232) → ∃ k, laws_FnPrincipal.f k a0 l1 a2 a3 = some true
theorem laws_FnPrincipal.walk (P : laws_FnPrincipal.Pure) (a0 : Int) (A1 : Option Addr) (c1 : Nat) (l1 : List ByteArray) (a2 : ByteArray) (a3 : Bool) (w : World) (hr1 : Kd.C Kd.string w A1 l1.length l1) (hc1 : l1.length ≤ c1) (g0 : (Lit.int .i32 a0).wf = true) (g1 : l1.length ≤ 9223372036854775807 ∧ ∀ x_ ∈ l1, x_.size ≤ maxLen) (g2 : a2.size ≤ 140737488351232) :
    Calls Try.prog 8 #[.int .i32 a0, .slice A1 l1.length c1, .string a2, .bool a3] w fun e w' => e = .returned (.bool true) ∧ Below w.heap.size w w' := by
  obtain ⟨k, h⟩ := P a0 l1 a2 a3 g0 g1 g2
  refine (laws_FnPrincipal.calls k a0 _ _ l1 a2 a3 true w hr1 hc1 h).mono ?_
  rintro e w' ⟨rfl, hd⟩
  exact ⟨rfl, hd⟩

end Go.Proofs.Ythgcpicflmigjaa.F

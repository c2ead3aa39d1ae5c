/- Go functions of this seat come to the answers of the Lean functions that stand here ('.calls'), under what each theorem states and nothing else. Written by pw.py, a program of this session, with texts of its own. -/
import Derived.Test.YthgcpicflmigjaaQ0
import Derived.Test.YthgcpicflmigjaaQ3
import Derived.Test.YthgcpicflmigjaaQ6
import Derived.Test.YthgcpicflmigjaaQ7
namespace Go.Proofs.Ythgcpicflmigjaa.Q
open Go.RowKit Go.Proofs.YthgcpicflmigjaaW.PrintWords Go.Proofs.YthgcpicflmigjaaW.PrintLast Go.Proofs.YthgcpicflmigjaaW.PrintMore
attribute [local go_sem] max2_int min2_int max_two min_two max_three min_three max_four min_four   -- for this text's walks alone
set_option linter.unusedVariables false
set_option linter.unusedSimpArgs false
set_option maxRecDepth 100000

/-! ### laws_FnAppTag: function 5 -/
def laws_FnAppTag.j0 : Nat → ByteArray → Int → Bool → Option (Bool)
  | 0, _, _, _ => none
  | k + 1, x0, x1, x14 => if x14 = true then ((laws_lengthAwake.f k).bind fun t214 => (some t214)) else ((impl_AppTag.f k x0 (wrap64 (x1))).bind fun t215 => ((spec_AppTagged.f k x0 (wrap64 (x1))).bind fun t216 => (if t215.toList = t216.toList then ((laws_lengthAwake.f k).bind fun t217 => (some t217)) else (some false))))
def laws_FnAppTag.f (k : Nat) (a0 : ByteArray) (a1 : Int) : Option (Bool) := if (a0.size : Int) > 2147483647 then (some true) else (if (a0.size : Int) > 1000 then (laws_FnAppTag.j0 k a0 a1 true) else (laws_FnAppTag.j0 k a0 a1 (decide (a1 > 1000))))
set_option maxRecDepth 100000 in
theorem laws_FnAppTag.mono_l : ∀ k, (∀ y0 y1 y2, LeO (laws_FnAppTag.j0 k y0 y1 y2) (laws_FnAppTag.j0 (k + 1) y0 y1 y2))
  | 0 => fun _ _ _ r h => by simp [laws_FnAppTag.j0] at h
  | k + 1 => by
    have ih0 := laws_FnAppTag.mono_l k
    · intro y0 y1 y2
      unfold laws_FnAppTag.j0
      repeat' first
      | (with_reducible exact ih0 _ _ _)
      | (with_reducible exact impl_AppTag.mono _ _ _)
      | (with_reducible exact laws_lengthAwake.mono _)
      | (with_reducible exact spec_AppTagged.mono _ _ _)
      | (with_reducible exact LeO.refl _)
      | (with_reducible exact LeO.none _)
      | (with_reducible refine LeO.ite ?_ ?_)
      | (with_reducible refine LeO.bind ?_ (fun _ => ?_))
      | exact ih0 _ _ _
      | exact impl_AppTag.mono _ _ _
      | exact laws_lengthAwake.mono _
      | exact spec_AppTagged.mono _ _ _
      | exact LeO.none _
      | refine LeO.ite ?_ ?_
      | refine LeO.bind ?_ (fun _ => ?_)
set_option maxRecDepth 100000 in
theorem laws_FnAppTag.mono : ∀ a0 a1 k, LeO (laws_FnAppTag.f k a0 a1) (laws_FnAppTag.f (k + 1) a0 a1) := by
  intro a0 a1 k
  have ih0 := laws_FnAppTag.mono_l k
  unfold laws_FnAppTag.f
  repeat' first
      | (with_reducible exact ih0 _ _ _)
      | (with_reducible exact impl_AppTag.mono _ _ _)
      | (with_reducible exact laws_lengthAwake.mono _)
      | (with_reducible exact spec_AppTagged.mono _ _ _)
      | (with_reducible exact LeO.refl _)
      | (with_reducible exact LeO.none _)
      | (with_reducible refine LeO.ite ?_ ?_)
      | (with_reducible refine LeO.bind ?_ (fun _ => ?_))
      | exact ih0 _ _ _
      | exact impl_AppTag.mono _ _ _
      | exact laws_lengthAwake.mono _
      | exact spec_AppTagged.mono _ _ _
      | exact LeO.none _
      | refine LeO.ite ?_ ?_
      | refine LeO.bind ?_ (fun _ => ?_)
set_option maxHeartbeats 8000000 in
set_option maxRecDepth 100000 in
theorem laws_FnAppTag.calls (k : Nat) (a0 : ByteArray) (a1 : Int) (r : Bool) (w : World) (h : laws_FnAppTag.f k a0 a1 = some r) :
    Calls Try.prog 5 #[.string a0, .int .u16 a1] w fun e w' => e = .returned (.bool r) ∧ Below w.heap.size w w' := by
  have HB := Aside0.mk (Below.refl w.heap.size w)
  have H : (if (a0.size : Int) > 2147483647 then (some true) else (if (a0.size : Int) > 1000 then (laws_FnAppTag.j0 k a0 a1 true) else (laws_FnAppTag.j0 k a0 a1 (decide (a1 > 1000))))) = some r := h
  clear h
  by_cases c3 : (a0.size : Int) > 2147483647
  · rw [if_pos c3] at H
    have c3b0 : decide (2147483647 < (a0.size : Int)) = true := decide_eq_true c3
    have c3b1 : decide (2147483647 < a0.size) = true := decide_eq_true (by omega)
    clear c3
    obtain rfl := Option.some.inj H
    go_enter Try.func5, Try.ntmps5
    go_wp2
    go_ret
    exact ⟨by first | rfl | (simp [errW_none, errW_some] <;> rfl) | (simp [*, errW_none, errW_some] <;> rfl), by repeat (first | (with_reducible first | exact HB.out | apply below_alloc | apply pw_below_drewN | apply below_drew1) | exact HB.out)⟩
  · rw [if_neg c3] at H
    have c3b0 : decide (2147483647 < (a0.size : Int)) = false := decide_eq_false c3
    have c3b1 : decide (2147483647 < a0.size) = false := decide_eq_false (by omega)
    clear c3
    have HC4 := Aside0.mk H
    clear H
    go_enter Try.func5, Try.ntmps5
    go_upto_region 3 with (fail)
    go_cut [14] (fun v14 wc => ∃ (kq : Nat) (x14_3 : Bool), v14 = .bool x14_3 ∧ Aside0 (laws_FnAppTag.j0 kq a0 a1 x14_3 = some r) ∧ Aside0 (kq ≤ k) ∧ Aside0 (Below w.heap.size w wc))
    case first =>
      have H := HC4.out
      clear HC4
      by_cases c5 : (a0.size : Int) > 1000
      · rw [if_pos c5] at H
        have c5b0 : decide (1000 < (a0.size : Int)) = true := decide_eq_true c5
        have c5b1 : decide (1000 < a0.size) = true := decide_eq_true (by omega)
        clear c5
        (first | rw [c5b0] | (simp only [i64_w, i32_w]; rw [c5b0]) | skip)
        have H' := Aside0.mk H
        clear H
        go_wp2
        go_meet
        case rel => exact ⟨_, (true), (by first | rfl | (simp; done) | (simp [*]; done)), H', ⟨by first | omega | exact Nat.le_refl _⟩, ⟨by repeat (first | (with_reducible first | exact HB.out | apply below_alloc | apply pw_below_drewN | apply below_drew1) | exact HB.out)⟩⟩
      · rw [if_neg c5] at H
        have c5b0 : decide (1000 < (a0.size : Int)) = false := decide_eq_false c5
        have c5b1 : decide (1000 < a0.size) = false := decide_eq_false (by omega)
        clear c5
        (first | rw [c5b0] | (simp only [i64_w, i32_w]; rw [c5b0]) | skip)
        have H' := Aside0.mk H
        clear H
        go_wp2
        go_meet
        case rel => exact ⟨_, (decide (a1 > 1000)), (by first | rfl | (simp; done) | (simp [*]; done)), H', ⟨by first | omega | exact Nat.le_refl _⟩, ⟨by repeat (first | (with_reducible first | exact HB.out | apply below_alloc | apply pw_below_drewN | apply below_drew1) | exact HB.out)⟩⟩
    case rest =>
      clear HC4
      try clear p2
      try clear c3
      try clear c3b0
      try clear c3b1
      try clear c5
      try clear c5b0
      try clear c5b1
      obtain ⟨kq, x14_3, rfl, HA, HJ3, HB⟩ := hcut
      cases kq with
      | zero => exact absurd HA.out (by simp [laws_FnAppTag.j0])
      | succ kj3 =>
        have H := HA.out
        clear HA
        simp only [laws_FnAppTag.j0] at H
        by_cases c6 : x14_3 = true
        · subst c6
          have H1 : ((laws_lengthAwake.f kj3).bind fun t214 => (some t214)) = some r := by rw [if_pos rfl] at H; exact H
          clear H
          have H := H1
          clear H1
          replace H := Option.bind_eq_some_iff.mp H
          obtain ⟨t214, A70, H⟩ := H
          replace H : (some t214) = some r := H
          have A7 := Aside0.mk A70
          clear A70
          obtain rfl := Option.some.inj H
          go_wp2_with (first | ((with_reducible refine gate_callee (f := 9) rfl ?_); refine goesL_ (some 15) rfl rfl Try.func9 (by kernel_rfl) rfl #[] rfl (by (try simp only [List.map_toArray, List.map_cons, List.map_nil]); first | done | rfl | (simp only [List.length_drop, List.length_take]; rfl)) ?_; (with_reducible refine (laws_lengthAwake.calls kj3  t214 _ A7.out).mono ?_); rintro e w8 ⟨rfl, hb⟩; refine ⟨_, rfl, ?_⟩; have n0_ := Aside0.mk (below_step (by repeat (first | (with_reducible first | exact HB.out | apply below_alloc | apply pw_below_drewN | apply below_drew1) | exact HB.out)) hb); clear HB; have HB := n0_; clear n0_; (try clear hb); (try clear hb2); (try clear hk); (try clear hi)))
          go_ret
          exact ⟨by first | rfl | (simp [errW_none, errW_some] <;> rfl) | (simp [*, errW_none, errW_some] <;> rfl), by repeat (first | (with_reducible first | exact HB.out | apply below_alloc | apply pw_below_drewN | apply below_drew1) | exact HB.out)⟩
        · replace c6 := Bool.eq_false_iff.mpr c6
          subst c6
          have H1 : ((impl_AppTag.f kj3 a0 (wrap64 (a1))).bind fun t215 => ((spec_AppTagged.f kj3 a0 (wrap64 (a1))).bind fun t216 => (if t215.toList = t216.toList then ((laws_lengthAwake.f kj3).bind fun t217 => (some t217)) else (some false)))) = some r := by rw [if_neg (show ¬ (false = true) by decide)] at H; exact H
          clear H
          have H := H1
          clear H1
          replace H := Option.bind_eq_some_iff.mp H
          obtain ⟨t215, A90, H⟩ := H
          replace H : ((spec_AppTagged.f kj3 a0 (wrap64 (a1))).bind fun t216 => (if t215.toList = t216.toList then ((laws_lengthAwake.f kj3).bind fun t217 => (some t217)) else (some false))) = some r := H
          have A9 := Aside0.mk A90
          clear A90
          replace H := Option.bind_eq_some_iff.mp H
          obtain ⟨t216, A100, H⟩ := H
          replace H : (if t215.toList = t216.toList then ((laws_lengthAwake.f kj3).bind fun t217 => (some t217)) else (some false)) = some r := H
          have A10 := Aside0.mk A100
          clear A100
          by_cases c11 : t215.toList = t216.toList
          · rw [if_pos c11] at H
            have c11b0 : (t215.toList == t216.toList) = true := beq_iff_eq.mpr c11
            have c11b1 : (t215.toList != t216.toList) = false := bne_eq_false_iff_eq.mpr c11
            clear c11
            replace H := Option.bind_eq_some_iff.mp H
            obtain ⟨t217, A120, H⟩ := H
            replace H : (some t217) = some r := H
            have A12 := Aside0.mk A120
            clear A120
            obtain rfl := Option.some.inj H
            go_wp2_with (first | ((with_reducible refine gate_callee (f := 23) rfl ?_); refine goesL_ (some 19) rfl rfl Try.func23 (by kernel_rfl) rfl #[.string a0, .int .i64 (wrap64 (a1))] rfl (by (try simp only [List.map_toArray, List.map_cons, List.map_nil]); first | done | rfl | (simp only [List.length_drop, List.length_take]; rfl)) ?_; (with_reducible refine (impl_AppTag.calls kj3 a0 (wrap64 (a1)) t215 _ A9.out).mono ?_); rintro e w13 ⟨rfl, hb⟩; refine ⟨_, rfl, ?_⟩; have n0_ := Aside0.mk (below_step (by repeat (first | (with_reducible first | exact HB.out | apply below_alloc | apply pw_below_drewN | apply below_drew1) | exact HB.out)) hb); clear HB; have HB := n0_; clear n0_; (try clear hb); (try clear hb2); (try clear hk); (try clear hi)) | ((with_reducible refine gate_callee (f := 24) rfl ?_); refine goesL_ (some 23) rfl rfl Try.func24 (by kernel_rfl) rfl #[.string a0, .int .i64 (wrap64 (a1))] rfl (by (try simp only [List.map_toArray, List.map_cons, List.map_nil]); first | done | rfl | (simp only [List.length_drop, List.length_take]; rfl)) ?_; (with_reducible refine (spec_AppTagged.calls kj3 a0 (wrap64 (a1)) t216 _ A10.out).mono ?_); rintro e w14 ⟨rfl, hb⟩; refine ⟨_, rfl, ?_⟩; have n0_ := Aside0.mk (below_step (by repeat (first | (with_reducible first | exact HB.out | apply below_alloc | apply pw_below_drewN | apply below_drew1) | exact HB.out)) hb); clear HB; have HB := n0_; clear n0_; (try clear hb); (try clear hb2); (try clear hk); (try clear hi)) | (go_at_call 9; (with_reducible refine (laws_lengthAwake.calls kj3  t217 _ A12.out).mono ?_); rintro e w15 ⟨rfl, hb⟩; have n0_ := Aside0.mk (below_step (by repeat (first | (with_reducible first | exact HB.out | apply below_alloc | apply pw_below_drewN | apply below_drew1) | exact HB.out)) hb); clear HB; have HB := n0_; clear n0_; (try clear hb); (try clear hb2); (try clear hk); (try clear hi)))
            go_ret
            exact ⟨by first | rfl | (simp [errW_none, errW_some] <;> rfl) | (simp [*, errW_none, errW_some] <;> rfl), by repeat (first | (with_reducible first | exact HB.out | apply below_alloc | apply pw_below_drewN | apply below_drew1) | exact HB.out)⟩
          · rw [if_neg c11] at H
            have c11b0 : (t215.toList == t216.toList) = false := beq_eq_false_iff_ne.mpr c11
            have c11b1 : (t215.toList != t216.toList) = true := bne_iff_ne.mpr c11
            obtain rfl := Option.some.inj H
            go_wp2_with (first | ((with_reducible refine gate_callee (f := 23) rfl ?_); refine goesL_ (some 19) rfl rfl Try.func23 (by kernel_rfl) rfl #[.string a0, .int .i64 (wrap64 (a1))] rfl (by (try simp only [List.map_toArray, List.map_cons, List.map_nil]); first | done | rfl | (simp only [List.length_drop, List.length_take]; rfl)) ?_; (with_reducible refine (impl_AppTag.calls kj3 a0 (wrap64 (a1)) t215 _ A9.out).mono ?_); rintro e w16 ⟨rfl, hb⟩; refine ⟨_, rfl, ?_⟩; have n0_ := Aside0.mk (below_step (by repeat (first | (with_reducible first | exact HB.out | apply below_alloc | apply pw_below_drewN | apply below_drew1) | exact HB.out)) hb); clear HB; have HB := n0_; clear n0_; (try clear hb); (try clear hb2); (try clear hk); (try clear hi)) | ((with_reducible refine gate_callee (f := 24) rfl ?_); refine goesL_ (some 23) rfl rfl Try.func24 (by kernel_rfl) rfl #[.string a0, .int .i64 (wrap64 (a1))] rfl (by (try simp only [List.map_toArray, List.map_cons, List.map_nil]); first | done | rfl | (simp only [List.length_drop, List.length_take]; rfl)) ?_; (with_reducible refine (spec_AppTagged.calls kj3 a0 (wrap64 (a1)) t216 _ A10.out).mono ?_); rintro e w17 ⟨rfl, hb⟩; refine ⟨_, rfl, ?_⟩; have n0_ := Aside0.mk (below_step (by repeat (first | (with_reducible first | exact HB.out | apply below_alloc | apply pw_below_drewN | apply below_drew1) | exact HB.out)) hb); clear HB; have HB := n0_; clear n0_; (try clear hb); (try clear hb2); (try clear hk); (try clear hi)))
            go_ret
            exact ⟨by first | rfl | (simp [errW_none, errW_some] <;> rfl) | (simp [*, errW_none, errW_some] <;> rfl), by repeat (first | (with_reducible first | exact HB.out | apply below_alloc | apply pw_below_drewN | apply below_drew1) | exact HB.out)⟩

/-- THE ONE PURE STATEMENT of laws_FnAppTag: yours. -/
def laws_FnAppTag.Pure : Prop := ∀ (a0 : ByteArray) (a1 : Int), a0.size ≤ 140737488351232 → (Lit.int .u16 a1).wf = true → ∃ k, laws_FnAppTag.f k a0 a1 = some true
theorem laws_FnAppTag.walk (P : laws_FnAppTag.Pure) (a0 : ByteArray) (a1 : Int) (w : World) (w0 : a0.size ≤ 140737488351232) (w1 : (Lit.int .u16 a1).wf = true) :
    Calls Try.prog 5 #[.string a0, .int .u16 a1] w fun e w' => e = .returned (.bool true) ∧ Below w.heap.size w w' := by
  obtain ⟨k, h⟩ := P a0 a1 w0 w1
  refine (laws_FnAppTag.calls k a0 a1 true w h).mono ?_
  rintro e w' ⟨rfl, hd⟩
  exact ⟨rfl, hd⟩

/-! ### asn1tools_GetNumberBytesInLengthHeader: function 42 -/
def asn1tools_GetNumberBytesInLengthHeader.f (l0 : List Int) : Option (Int) := if 1 < (l0.length : Int) then (if (wrap64 (rd l0 1)) ≤ 127 then (some 1) else (some (wrap64 ((wrap64 (1 + (wrap64 (rd l0 1)))) - 128)))) else (none)
set_option maxHeartbeats 8000000 in
set_option maxRecDepth 100000 in
theorem asn1tools_GetNumberBytesInLengthHeader.calls (A0 : Option Addr) (c0 : Nat) (l0 : List Int) (r : Int) (w : World) (hr0 : Kd.C (Kd.int .u8) w A0 l0.length l0) (hc0 : l0.length ≤ c0) (h : asn1tools_GetNumberBytesInLengthHeader.f l0 = some r) :
    Calls Try.prog 42 #[.slice A0 l0.length c0] w fun e w' => e = .returned (.int .i64 r) ∧ Drawn0 w w' := by
  have HR0 := Aside0.mk hr0
  have HC0 := Aside0.mk hc0
  clear hr0 hc0
  have H : (if 1 < (l0.length : Int) then (if (wrap64 (rd l0 1)) ≤ 127 then (some 1) else (some (wrap64 ((wrap64 (1 + (wrap64 (rd l0 1)))) - 128)))) else (none)) = some r := h
  clear h
  by_cases c2 : 1 < (l0.length : Int)
  · rw [if_pos c2] at H
    have c2b0 : decide (1 < (l0.length : Int)) = true := decide_eq_true c2
    have c2b1 : decide (1 < l0.length) = true := decide_eq_true (by omega)
    clear c2
    by_cases c3 : (wrap64 (rd l0 1)) ≤ 127
    · rw [if_pos c3] at H
      have c3b0 : decide ((wrap64 (rd l0 1)) ≤ 127) = true := decide_eq_true c3
      clear c3
      obtain rfl := Option.some.inj H
      have p218 : 0 ≤ (1 : Int) := (by omega)
      have q218 : 1 < (l0.length : Int) := of_decide_eq_true (by first | (with_reducible assumption) | assumption)
      obtain ⟨ad218, e218, hx218_0⟩ := Kd.at_int HR0.out 1 p218 q218
      cases e218
      (try simp only [show (1 : Int).toNat = 1 from rfl, Nat.reduceMul, Nat.reduceEqDiff, Go.Addr.add, ↓reduceIte] at hx218_0)
      have qi218 : (1 < l0.length) = True := eq_true (by omega)
      (try rw [show ((1 : Int)).toNat = 1 from rfl] at hx218_0)
      replace p218 := eq_true p218
      replace q218 := eq_true q218
      go_enter Try.func42, Try.ntmps42
      go_wp2
      go_ret
      exact ⟨by first | rfl | (simp; done) | (simp [*]; done), by repeat (first | exact Drawn0.refl _ | apply Drawn0.step)⟩
    · rw [if_neg c3] at H
      have c3b0 : decide ((wrap64 (rd l0 1)) ≤ 127) = false := decide_eq_false c3
      clear c3
      obtain rfl := Option.some.inj H
      have p218 : 0 ≤ (1 : Int) := (by omega)
      have q218 : 1 < (l0.length : Int) := of_decide_eq_true (by first | (with_reducible assumption) | assumption)
      obtain ⟨ad218, e218, hx218_0⟩ := Kd.at_int HR0.out 1 p218 q218
      cases e218
      (try simp only [show (1 : Int).toNat = 1 from rfl, Nat.reduceMul, Nat.reduceEqDiff, Go.Addr.add, ↓reduceIte] at hx218_0)
      have qi218 : (1 < l0.length) = True := eq_true (by omega)
      (try rw [show ((1 : Int)).toNat = 1 from rfl] at hx218_0)
      replace p218 := eq_true p218
      replace q218 := eq_true q218
      have p219 : 0 ≤ (1 : Int) := (by omega)
      have q219 : 1 < (l0.length : Int) := of_decide_eq_true (by first | (with_reducible assumption) | assumption)
      obtain ⟨ad219, e219, hx219_0⟩ := Kd.at_int HR0.out 1 p219 q219
      obtain rfl : ad218 = ad219 := (by injection e219)
      (try simp only [show (1 : Int).toNat = 1 from rfl, Nat.reduceMul, Nat.reduceEqDiff, Go.Addr.add, ↓reduceIte] at hx219_0)
      have qi219 : (1 < l0.length) = True := eq_true (by omega)
      (try rw [show ((1 : Int)).toNat = 1 from rfl] at hx219_0)
      replace p219 := eq_true p219
      replace q219 := eq_true q219
      go_enter Try.func42, Try.ntmps42
      go_wp2
      go_ret
      exact ⟨by first | rfl | (simp; done) | (simp [*]; done), by repeat (first | exact Drawn0.refl _ | apply Drawn0.step)⟩
  · rw [if_neg c2] at H
    exact absurd H (by simp)

end Go.Proofs.Ythgcpicflmigjaa.Q

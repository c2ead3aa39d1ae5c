/- Go functions of this seat come to the answers of the Lean functions that stand here ('.calls'), under what each theorem states and nothing else. Written by pw.py, a program of this session, with texts of its own. -/
import Derived.Test.YthgcpicflmigjaaF0
namespace Go.Proofs.Ythgcpicflmigjaa.F
open Go.RowKit Go.Proofs.YthgcpicflmigjaaW.PrintWords Go.Proofs.YthgcpicflmigjaaW.PrintLast Go.Proofs.YthgcpicflmigjaaW.PrintMore
attribute [local go_sem] max2_int min2_int max_two min_two max_three min_three max_four min_four   -- for this text's walks alone
set_option linter.unusedVariables false
set_option linter.unusedSimpArgs false
set_option maxRecDepth 100000

/-! ### laws_zzFits4: function 14 -/
def laws_zzFits4.l0 : Nat → List ByteArray → Int → Int → Option (Bool)
  | 0, _, _, _ => none
  | k + 1, x8, x9, x10 => if x10 < x9 then (if 0 ≤ x10 then (if x10 < (x8.length : Int) then (if ((rdOf ByteArray.empty x8 x10).size : Int) > 2147483647 then (some false) else (laws_zzFits4.l0 k x8 x9 (wrap64 (x10 + 1)))) else (none)) else (none)) else (some true)
def laws_zzFits4.f (k : Nat) (l0 : List ByteArray) : Option (Bool) := if (l0.length : Int) > 2147483647 then (some false) else (laws_zzFits4.l0 k l0 (l0.length : Int) 0)
set_option maxRecDepth 100000 in
theorem laws_zzFits4.mono_l : ∀ k, (∀ y0 y1 y2, LeO (laws_zzFits4.l0 k y0 y1 y2) (laws_zzFits4.l0 (k + 1) y0 y1 y2))
  | 0 => fun _ _ _ r h => by simp [laws_zzFits4.l0] at h
  | k + 1 => by
    have ih0 := laws_zzFits4.mono_l k
    · intro y0 y1 y2
      unfold laws_zzFits4.l0
      repeat' first
      | (with_reducible exact ih0 _ _ _)
      | (with_reducible exact LeO.refl _)
      | (with_reducible exact LeO.none _)
      | (with_reducible refine LeO.ite ?_ ?_)
      | (with_reducible refine LeO.bind ?_ (fun _ => ?_))
      | exact ih0 _ _ _
      | exact LeO.none _
      | refine LeO.ite ?_ ?_
      | refine LeO.bind ?_ (fun _ => ?_)
set_option maxRecDepth 100000 in
theorem laws_zzFits4.mono : ∀ a0 k, LeO (laws_zzFits4.f k a0) (laws_zzFits4.f (k + 1) a0) := by
  intro a0 k
  have ih0 := laws_zzFits4.mono_l k
  unfold laws_zzFits4.f
  repeat' first
      | (with_reducible exact ih0 _ _ _)
      | (with_reducible exact LeO.refl _)
      | (with_reducible exact LeO.none _)
      | (with_reducible refine LeO.ite ?_ ?_)
      | (with_reducible refine LeO.bind ?_ (fun _ => ?_))
      | exact ih0 _ _ _
      | exact LeO.none _
      | refine LeO.ite ?_ ?_
      | refine LeO.bind ?_ (fun _ => ?_)
set_option maxHeartbeats 8000000 in
set_option maxRecDepth 100000 in
theorem laws_zzFits4.calls (k : Nat) (A0 : Option Addr) (c0 : Nat) (l0 : List ByteArray) (r : Bool) (w : World) (hr0 : Kd.C Kd.string w A0 l0.length l0) (hc0 : l0.length ≤ c0) (h : laws_zzFits4.f k l0 = some r) :
    Calls Try.prog 14 #[.slice A0 l0.length c0] w fun e w' => e = .returned (.bool r) ∧ Drawn0 w w' := by
  have HR0 := Aside0.mk hr0
  have HC0 := Aside0.mk hc0
  clear hr0 hc0
  have H : (if (l0.length : Int) > 2147483647 then (some false) else (laws_zzFits4.l0 k l0 (l0.length : Int) 0)) = some r := h
  clear h
  by_cases c2 : (l0.length : Int) > 2147483647
  · rw [if_pos c2] at H
    have c2b0 : decide (2147483647 < (l0.length : Int)) = true := decide_eq_true c2
    have c2b1 : decide (2147483647 < l0.length) = true := decide_eq_true (by omega)
    clear c2
    obtain rfl := Option.some.inj H
    go_enter Try.func14, Try.ntmps14
    go_wp2
    go_ret
    exact ⟨by first | rfl | (simp; done) | (simp [*]; done), by repeat (first | exact Drawn0.refl _ | apply Drawn0.step)⟩
  · rw [if_neg c2] at H
    have c2b0 : decide (2147483647 < (l0.length : Int)) = false := decide_eq_false c2
    have c2b1 : decide (2147483647 < l0.length) = false := decide_eq_false (by omega)
    clear c2
    have H' := Aside0.mk H
    clear H
    go_enter Try.func14, Try.ntmps14
    go_wp2
    go_loopg [10] k (fun kq v10 w' => ∃ (x10_1 : Int), v10 = .int .i64 x10_1 ∧ Aside0 (laws_zzFits4.l0 kq l0 (l0.length : Int) x10_1 = some r) ∧ Aside0 (kq ≤ k) ∧ Drawn0 w w')
    case atStart => exact ⟨(0), (by first | rfl | (simp; done) | (simp [*]; done)), H', ⟨Nat.le_refl _⟩, by repeat (first | exact Drawn0.refl _ | apply Drawn0.step)⟩
    case round =>
      clear H'
      try clear c1
      try clear c2
      try clear c2b0
      try clear c2b1
      try clear p2
      obtain ⟨x10_1, rfl, HA, HK1, ⟨m1, rfl⟩⟩ := hrel
      cases gk with
      | zero => exact absurd HA.out (by simp [laws_zzFits4.l0])
      | succ k1 =>
        have H := HA.out
        clear HA
        simp only [laws_zzFits4.l0] at H
        by_cases c3 : x10_1 < (l0.length : Int)
        · rw [if_pos c3] at H
          have c3b0 : decide (x10_1 < (l0.length : Int)) = true := decide_eq_true c3
          clear c3
          by_cases c4 : 0 ≤ x10_1
          · rw [if_pos c4] at H
            have c4b0 : decide (0 ≤ x10_1) = true := decide_eq_true c4
            clear c4
            by_cases c5 : x10_1 < (l0.length : Int)
            · rw [if_pos c5] at H
              have c5b0 : decide (x10_1 < (l0.length : Int)) = true := decide_eq_true c5
              clear c5
              by_cases c6 : ((rdOf ByteArray.empty l0 x10_1).size : Int) > 2147483647
              · rw [if_pos c6] at H
                have c6b0 : decide (2147483647 < ((rdOf ByteArray.empty l0 x10_1).size : Int)) = true := decide_eq_true c6
                have c6b1 : decide (2147483647 < (rdOf ByteArray.empty l0 x10_1).size) = true := decide_eq_true (by omega)
                clear c6
                obtain rfl := Option.some.inj H
                have p179 : 0 ≤ (x10_1 : Int) := of_decide_eq_true (by first | (with_reducible assumption) | assumption)
                have q179 : x10_1 < (l0.length : Int) := of_decide_eq_true (by first | (with_reducible assumption) | assumption)
                obtain ⟨ad179, e179, hx179_0⟩ := Kd.at_string HR0.out x10_1 p179 q179
                cases e179
                replace p179 := eq_true p179
                replace q179 := eq_true q179
                go_wp2
                go_ret
                exact ⟨by first | rfl | (simp; done) | (simp [*]; done), by repeat (first | exact Drawn0.refl _ | apply Drawn0.step)⟩
              · rw [if_neg c6] at H
                have c6b0 : decide (2147483647 < ((rdOf ByteArray.empty l0 x10_1).size : Int)) = false := decide_eq_false c6
                have c6b1 : decide (2147483647 < (rdOf ByteArray.empty l0 x10_1).size) = false := decide_eq_false (by omega)
                clear c6
                have H' := Aside0.mk H
                clear H
                have p179 : 0 ≤ (x10_1 : Int) := of_decide_eq_true (by first | (with_reducible assumption) | assumption)
                have q179 : x10_1 < (l0.length : Int) := of_decide_eq_true (by first | (with_reducible assumption) | assumption)
                obtain ⟨ad179, e179, hx179_0⟩ := Kd.at_string HR0.out x10_1 p179 q179
                cases e179
                replace p179 := eq_true p179
                replace q179 := eq_true q179
                go_wp2
                go_roundg k1
                case measure => have := HK1.out; omega
                case rel => exact ⟨(wrap64 (x10_1 + 1)), (by first | rfl | (simp; done) | (simp [*]; done)), H', ⟨by have := HK1.out; omega⟩, by repeat (first | exact Drawn0.refl _ | apply Drawn0.step)⟩
            · rw [if_neg c5] at H
              exact absurd H (by simp)
          · rw [if_neg c4] at H
            exact absurd H (by simp)
        · rw [if_neg c3] at H
          have c3b0 : decide (x10_1 < (l0.length : Int)) = false := decide_eq_false c3
          clear c3
          obtain rfl := Option.some.inj H
          go_wp2
          go_ret
          exact ⟨by first | rfl | (simp; done) | (simp [*]; done), by repeat (first | exact Drawn0.refl _ | apply Drawn0.step)⟩

/-! ### spec_CountByte: function 33 -/
def spec_CountByte.l0 : Nat → ByteArray → Int → Int → Int → Int → Option (Int)
  | 0, _, _, _, _, _ => none
  | k + 1, x0, x1, x5, x8, x9 => if x9 < x8 then (if 0 ≤ x9 then (if x9 < (x0.size : Int) then (if (bt x0 x9) = x1 then (spec_CountByte.l0 k x0 x1 (wrap64 (x5 + 1)) x8 (wrap64 (x9 + 1))) else (spec_CountByte.l0 k x0 x1 x5 x8 (wrap64 (x9 + 1)))) else (none)) else (none)) else (some x5)
def spec_CountByte.f (k : Nat) (a0 : ByteArray) (a1 : Int) : Option (Int) := spec_CountByte.l0 k a0 a1 0 (a0.size : Int) 0
set_option maxRecDepth 100000 in
theorem spec_CountByte.mono_l : ∀ k, (∀ y0 y1 y2 y3 y4, LeO (spec_CountByte.l0 k y0 y1 y2 y3 y4) (spec_CountByte.l0 (k + 1) y0 y1 y2 y3 y4))
  | 0 => fun _ _ _ _ _ r h => by simp [spec_CountByte.l0] at h
  | k + 1 => by
    have ih0 := spec_CountByte.mono_l k
    · intro y0 y1 y2 y3 y4
      unfold spec_CountByte.l0
      repeat' first
      | (with_reducible exact ih0 _ _ _ _ _)
      | (with_reducible exact LeO.refl _)
      | (with_reducible exact LeO.none _)
      | (with_reducible refine LeO.ite ?_ ?_)
      | (with_reducible refine LeO.bind ?_ (fun _ => ?_))
      | exact ih0 _ _ _ _ _
      | exact LeO.none _
      | refine LeO.ite ?_ ?_
      | refine LeO.bind ?_ (fun _ => ?_)
set_option maxRecDepth 100000 in
theorem spec_CountByte.mono : ∀ a0 a1 k, LeO (spec_CountByte.f k a0 a1) (spec_CountByte.f (k + 1) a0 a1) := by
  intro a0 a1 k
  have ih0 := spec_CountByte.mono_l k
  unfold spec_CountByte.f
  repeat' first
      | (with_reducible exact ih0 _ _ _ _ _)
      | (with_reducible exact LeO.refl _)
      | (with_reducible exact LeO.none _)
      | (with_reducible refine LeO.ite ?_ ?_)
      | (with_reducible refine LeO.bind ?_ (fun _ => ?_))
      | exact ih0 _ _ _ _ _
      | exact LeO.none _
      | refine LeO.ite ?_ ?_
      | refine LeO.bind ?_ (fun _ => ?_)
set_option maxHeartbeats 8000000 in
set_option maxRecDepth 100000 in
theorem spec_CountByte.calls (k : Nat) (a0 : ByteArray) (a1 : Int) (r : Int) (w : World) (h : spec_CountByte.f k a0 a1 = some r) :
    Calls Try.prog 33 #[.string a0, .int .u8 a1] w fun e w' => e = .returned (.int .i64 r) ∧ Drawn0 w w' := by
  have H : (spec_CountByte.l0 k a0 a1 0 (a0.size : Int) 0) = some r := h
  clear h
  have H' := Aside0.mk H
  clear H
  go_enter Try.func33, Try.ntmps33
  go_wp2
  go_loopg [5, 9] k (fun kq v5 v9 w' => ∃ (x5_1 : Int) (x9_1 : Int), v5 = .int .i64 x5_1 ∧ v9 = .int .i64 x9_1 ∧ Aside0 (spec_CountByte.l0 kq a0 a1 x5_1 (a0.size : Int) x9_1 = some r) ∧ Aside0 (kq ≤ k) ∧ Drawn0 w w')
  case atStart => exact ⟨(0), (0), (by first | rfl | (simp; done) | (simp [*]; done)), (by first | rfl | (simp; done) | (simp [*]; done)), H', ⟨Nat.le_refl _⟩, by repeat (first | exact Drawn0.refl _ | apply Drawn0.step)⟩
  case round =>
    clear H'
    try clear p2
    obtain ⟨x5_1, x9_1, rfl, rfl, HA, HK1, ⟨m1, rfl⟩⟩ := hrel
    cases gk with
    | zero => exact absurd HA.out (by simp [spec_CountByte.l0])
    | succ k1 =>
      have H := HA.out
      clear HA
      simp only [spec_CountByte.l0] at H
      by_cases c3 : x9_1 < (a0.size : Int)
      · rw [if_pos c3] at H
        have c3b0 : decide (x9_1 < (a0.size : Int)) = true := decide_eq_true c3
        clear c3
        by_cases c4 : 0 ≤ x9_1
        · rw [if_pos c4] at H
          have c4b0 : decide (0 ≤ x9_1) = true := decide_eq_true c4
          clear c4
          by_cases c5 : x9_1 < (a0.size : Int)
          · rw [if_pos c5] at H
            have c5b0 : decide (x9_1 < (a0.size : Int)) = true := decide_eq_true c5
            clear c5
            by_cases c7 : (bt a0 x9_1) = a1
            · rw [if_pos c7] at H
              have c7b0 : ((bt a0 x9_1) == a1) = true := beq_iff_eq.mpr c7
              have c7b1 : ((bt a0 x9_1) != a1) = false := bne_eq_false_iff_eq.mpr c7
              clear c7
              have H' := Aside0.mk H
              clear H
              have p6 : 0 ≤ (x9_1 : Int) := of_decide_eq_true (by first | (with_reducible assumption) | assumption)
              have q6 : x9_1 < (a0.size : Int) := of_decide_eq_true (by first | (with_reducible assumption) | assumption)
              have hx6 := bt_at a0 x9_1
              replace p6 := eq_true p6
              replace q6 := eq_true q6
              go_wp2
              go_roundg k1
              case measure => have := HK1.out; omega
              case rel => exact ⟨(wrap64 (x5_1 + 1)), (wrap64 (x9_1 + 1)), (by first | rfl | (simp; done) | (simp [*]; done)), (by first | rfl | (simp; done) | (simp [*]; done)), H', ⟨by have := HK1.out; omega⟩, by repeat (first | exact Drawn0.refl _ | apply Drawn0.step)⟩
            · rw [if_neg c7] at H
              have c7b0 : ((bt a0 x9_1) == a1) = false := beq_eq_false_iff_ne.mpr c7
              have c7b1 : ((bt a0 x9_1) != a1) = true := bne_iff_ne.mpr c7
              have H' := Aside0.mk H
              clear H
              have p6 : 0 ≤ (x9_1 : Int) := of_decide_eq_true (by first | (with_reducible assumption) | assumption)
              have q6 : x9_1 < (a0.size : Int) := of_decide_eq_true (by first | (with_reducible assumption) | assumption)
              have hx6 := bt_at a0 x9_1
              replace p6 := eq_true p6
              replace q6 := eq_true q6
              go_wp2
              go_roundg k1
              case measure => have := HK1.out; omega
              case rel => exact ⟨(x5_1), (wrap64 (x9_1 + 1)), (by first | rfl | (simp; done) | (simp [*]; done)), (by first | rfl | (simp; done) | (simp [*]; done)), H', ⟨by have := HK1.out; omega⟩, by repeat (first | exact Drawn0.refl _ | apply Drawn0.step)⟩
          · rw [if_neg c5] at H
            exact absurd H (by simp)
        · rw [if_neg c4] at H
          exact absurd H (by simp)
      · rw [if_neg c3] at H
        have c3b0 : decide (x9_1 < (a0.size : Int)) = false := decide_eq_false c3
        clear c3
        obtain rfl := Option.some.inj H
        go_wp2
        go_ret
        exact ⟨by first | rfl | (simp; done) | (simp [*]; done), by repeat (first | exact Drawn0.refl _ | apply Drawn0.step)⟩

/-! ### laws_partsRight: function 30 -/
def laws_partsRight.l0 : Nat → List ByteArray → List ByteArray → Int → Int → Option (Bool)
  | 0, _, _, _, _ => none
  | k + 1, x0, x5, x6, x7 => if x7 < x6 then (if 0 ≤ x7 then (if x7 < (x5.length : Int) then (if ((rdOf ByteArray.empty x5 x7).size : Int) > 50 then (some false) else ((spec_CountByte.f k (rdOf ByteArray.empty x5 x7) 47).bind fun t181 => (if t181 > 0 then (some false) else ((spec_CountByte.f k (rdOf ByteArray.empty x5 x7) 64).bind fun t182 => (if t182 > 0 then (some false) else (laws_partsRight.l0 k x0 x5 x6 (wrap64 (x7 + 1)))))))) else (none)) else (none)) else (if (x0.length : Int) > 0 then (some (decide ((x0.length : Int) ≤ 10))) else (some false))
def laws_partsRight.f (k : Nat) (l0 : List ByteArray) : Option (Bool) := laws_partsRight.l0 k l0 l0 (l0.length : Int) 0
set_option maxRecDepth 100000 in
theorem laws_partsRight.mono_l : ∀ k, (∀ y0 y1 y2 y3, LeO (laws_partsRight.l0 k y0 y1 y2 y3) (laws_partsRight.l0 (k + 1) y0 y1 y2 y3))
  | 0 => fun _ _ _ _ r h => by simp [laws_partsRight.l0] at h
  | k + 1 => by
    have ih0 := laws_partsRight.mono_l k
    · intro y0 y1 y2 y3
      unfold laws_partsRight.l0
      repeat' first
      | (with_reducible exact ih0 _ _ _ _)
      | (with_reducible exact spec_CountByte.mono _ _ _)
      | (with_reducible exact LeO.refl _)
      | (with_reducible exact LeO.none _)
      | (with_reducible refine LeO.ite ?_ ?_)
      | (with_reducible refine LeO.bind ?_ (fun _ => ?_))
      | exact ih0 _ _ _ _
      | exact spec_CountByte.mono _ _ _
      | exact LeO.none _
      | refine LeO.ite ?_ ?_
      | refine LeO.bind ?_ (fun _ => ?_)
set_option maxRecDepth 100000 in
theorem laws_partsRight.mono : ∀ a0 k, LeO (laws_partsRight.f k a0) (laws_partsRight.f (k + 1) a0) := by
  intro a0 k
  have ih0 := laws_partsRight.mono_l k
  unfold laws_partsRight.f
  repeat' first
      | (with_reducible exact ih0 _ _ _ _)
      | (with_reducible exact spec_CountByte.mono _ _ _)
      | (with_reducible exact LeO.refl _)
      | (with_reducible exact LeO.none _)
      | (with_reducible refine LeO.ite ?_ ?_)
      | (with_reducible refine LeO.bind ?_ (fun _ => ?_))
      | exact ih0 _ _ _ _
      | exact spec_CountByte.mono _ _ _
      | exact LeO.none _
      | refine LeO.ite ?_ ?_
      | refine LeO.bind ?_ (fun _ => ?_)
set_option maxHeartbeats 8000000 in
set_option maxRecDepth 100000 in
theorem laws_partsRight.calls (k : Nat) (A0 : Option Addr) (c0 : Nat) (l0 : List ByteArray) (r : Bool) (w : World) (hr0 : Kd.C Kd.string w A0 l0.length l0) (hc0 : l0.length ≤ c0) (h : laws_partsRight.f k l0 = some r) :
    Calls Try.prog 30 #[.slice A0 l0.length c0] w fun e w' => e = .returned (.bool r) ∧ Drawn0 w w' := by
  have HR0 := Aside0.mk hr0
  have HC0 := Aside0.mk hc0
  clear hr0 hc0
  have H : (laws_partsRight.l0 k l0 l0 (l0.length : Int) 0) = some r := h
  clear h
  have H' := Aside0.mk H
  clear H
  go_enter Try.func30, Try.ntmps30
  go_wp2
  go_loopg [7] k (fun kq v7 w' => ∃ (x7_1 : Int), v7 = .int .i64 x7_1 ∧ Aside0 (laws_partsRight.l0 kq l0 l0 (l0.length : Int) x7_1 = some r) ∧ Aside0 (kq ≤ k) ∧ Drawn0 w w')
  case atStart => exact ⟨(0), (by first | rfl | (simp; done) | (simp [*]; done)), H', ⟨Nat.le_refl _⟩, by repeat (first | exact Drawn0.refl _ | apply Drawn0.step)⟩
  case round =>
    clear H'
    obtain ⟨x7_1, rfl, HA, HK1, ⟨m1, rfl⟩⟩ := hrel
    cases gk with
    | zero => exact absurd HA.out (by simp [laws_partsRight.l0])
    | succ k1 =>
      have H := HA.out
      clear HA
      simp only [laws_partsRight.l0] at H
      by_cases c2 : x7_1 < (l0.length : Int)
      · rw [if_pos c2] at H
        have c2b0 : decide (x7_1 < (l0.length : Int)) = true := decide_eq_true c2
        clear c2
        by_cases c3 : 0 ≤ x7_1
        · rw [if_pos c3] at H
          have c3b0 : decide (0 ≤ x7_1) = true := decide_eq_true c3
          clear c3
          by_cases c4 : x7_1 < (l0.length : Int)
          · rw [if_pos c4] at H
            have c4b0 : decide (x7_1 < (l0.length : Int)) = true := decide_eq_true c4
            clear c4
            by_cases c5 : ((rdOf ByteArray.empty l0 x7_1).size : Int) > 50
            · rw [if_pos c5] at H
              have c5b0 : decide (50 < ((rdOf ByteArray.empty l0 x7_1).size : Int)) = true := decide_eq_true c5
              have c5b1 : decide (50 < (rdOf ByteArray.empty l0 x7_1).size) = true := decide_eq_true (by omega)
              clear c5
              obtain rfl := Option.some.inj H
              have p180 : 0 ≤ (x7_1 : Int) := of_decide_eq_true (by first | (with_reducible assumption) | assumption)
              have q180 : x7_1 < (l0.length : Int) := of_decide_eq_true (by first | (with_reducible assumption) | assumption)
              obtain ⟨ad180, e180, hx180_0⟩ := Kd.at_string HR0.out x7_1 p180 q180
              cases e180
              replace p180 := eq_true p180
              replace q180 := eq_true q180
              go_wp2
              go_ret
              exact ⟨by first | rfl | (simp; done) | (simp [*]; done), by repeat (first | exact Drawn0.refl _ | apply Drawn0.step)⟩
            · rw [if_neg c5] at H
              have c5b0 : decide (50 < ((rdOf ByteArray.empty l0 x7_1).size : Int)) = false := decide_eq_false c5
              have c5b1 : decide (50 < (rdOf ByteArray.empty l0 x7_1).size) = false := decide_eq_false (by omega)
              clear c5
              replace H := Option.bind_eq_some_iff.mp H
              obtain ⟨t181, A60, H⟩ := H
              replace H : (if t181 > 0 then (some false) else ((spec_CountByte.f k1 (rdOf ByteArray.empty l0 x7_1) 64).bind fun t182 => (if t182 > 0 then (some false) else (laws_partsRight.l0 k1 l0 l0 (l0.length : Int) (wrap64 (x7_1 + 1)))))) = some r := H
              have A6 := Aside0.mk A60
              clear A60
              by_cases c7 : t181 > 0
              · rw [if_pos c7] at H
                have c7b0 : decide (0 < t181) = true := decide_eq_true c7
                clear c7
                obtain rfl := Option.some.inj H
                have p180 : 0 ≤ (x7_1 : Int) := of_decide_eq_true (by first | (with_reducible assumption) | assumption)
                have q180 : x7_1 < (l0.length : Int) := of_decide_eq_true (by first | (with_reducible assumption) | assumption)
                obtain ⟨ad180, e180, hx180_0⟩ := Kd.at_string HR0.out x7_1 p180 q180
                cases e180
                replace p180 := eq_true p180
                replace q180 := eq_true q180
                go_wp2_with (first | (go_at_call 33; (with_reducible refine (spec_CountByte.calls k1 (rdOf ByteArray.empty l0 x7_1) 47 t181 _ A6.out).mono ?_); rintro e w' ⟨rfl, ⟨nd, rfl⟩⟩))
                go_ret
                exact ⟨by first | rfl | (simp; done) | (simp [*]; done), by repeat (first | exact Drawn0.refl _ | apply Drawn0.step)⟩
              · rw [if_neg c7] at H
                have c7b0 : decide (0 < t181) = false := decide_eq_false c7
                clear c7
                replace H := Option.bind_eq_some_iff.mp H
                obtain ⟨t182, A80, H⟩ := H
                replace H : (if t182 > 0 then (some false) else (laws_partsRight.l0 k1 l0 l0 (l0.length : Int) (wrap64 (x7_1 + 1)))) = some r := H
                have A8 := Aside0.mk A80
                clear A80
                by_cases c9 : t182 > 0
                · rw [if_pos c9] at H
                  have c9b0 : decide (0 < t182) = true := decide_eq_true c9
                  clear c9
                  obtain rfl := Option.some.inj H
                  have p180 : 0 ≤ (x7_1 : Int) := of_decide_eq_true (by first | (with_reducible assumption) | assumption)
                  have q180 : x7_1 < (l0.length : Int) := of_decide_eq_true (by first | (with_reducible assumption) | assumption)
                  obtain ⟨ad180, e180, hx180_0⟩ := Kd.at_string HR0.out x7_1 p180 q180
                  cases e180
                  replace p180 := eq_true p180
                  replace q180 := eq_true q180
                  go_wp2_with (first | (go_at_call 33; (with_reducible refine (spec_CountByte.calls k1 (rdOf ByteArray.empty l0 x7_1) 47 t181 _ A6.out).mono ?_); rintro e w' ⟨rfl, ⟨nd, rfl⟩⟩) | (go_at_call 33; (with_reducible refine (spec_CountByte.calls k1 (rdOf ByteArray.empty l0 x7_1) 64 t182 _ A8.out).mono ?_); rintro e w' ⟨rfl, ⟨nd, rfl⟩⟩))
                  go_ret
                  exact ⟨by first | rfl | (simp; done) | (simp [*]; done), by repeat (first | exact Drawn0.refl _ | apply Drawn0.step)⟩
                · rw [if_neg c9] at H
                  have c9b0 : decide (0 < t182) = false := decide_eq_false c9
                  clear c9
                  have H' := Aside0.mk H
                  clear H
                  have p180 : 0 ≤ (x7_1 : Int) := of_decide_eq_true (by first | (with_reducible assumption) | assumption)
                  have q180 : x7_1 < (l0.length : Int) := of_decide_eq_true (by first | (with_reducible assumption) | assumption)
                  obtain ⟨ad180, e180, hx180_0⟩ := Kd.at_string HR0.out x7_1 p180 q180
                  cases e180
                  replace p180 := eq_true p180
                  replace q180 := eq_true q180
                  go_wp2_with (first | (go_at_call 33; (with_reducible refine (spec_CountByte.calls k1 (rdOf ByteArray.empty l0 x7_1) 47 t181 _ A6.out).mono ?_); rintro e w' ⟨rfl, ⟨nd, rfl⟩⟩) | (go_at_call 33; (with_reducible refine (spec_CountByte.calls k1 (rdOf ByteArray.empty l0 x7_1) 64 t182 _ A8.out).mono ?_); rintro e w' ⟨rfl, ⟨nd, rfl⟩⟩))
                  go_roundg k1
                  case measure => have := HK1.out; omega
                  case rel => exact ⟨(wrap64 (x7_1 + 1)), (by first | rfl | (simp; done) | (simp [*]; done)), H', ⟨by have := HK1.out; omega⟩, by repeat (first | exact Drawn0.refl _ | apply Drawn0.step)⟩
          · rw [if_neg c4] at H
            exact absurd H (by simp)
        · rw [if_neg c3] at H
          exact absurd H (by simp)
      · rw [if_neg c2] at H
        have c2b0 : decide (x7_1 < (l0.length : Int)) = false := decide_eq_false c2
        clear c2
        by_cases c10 : (l0.length : Int) > 0
        · rw [if_pos c10] at H
          have c10b0 : decide (0 < (l0.length : Int)) = true := decide_eq_true c10
          have c10b1 : decide (0 < l0.length) = true := decide_eq_true (by omega)
          clear c10
          obtain rfl := Option.some.inj H
          go_wp2
          go_ret
          exact ⟨by first | rfl | (simp; done) | (simp [*]; done), by repeat (first | exact Drawn0.refl _ | apply Drawn0.step)⟩
        · rw [if_neg c10] at H
          have c10b0 : decide (0 < (l0.length : Int)) = false := decide_eq_false c10
          have c10b1 : decide (0 < l0.length) = false := decide_eq_false (by omega)
          clear c10
          obtain rfl := Option.some.inj H
          go_wp2
          go_ret
          exact ⟨by first | rfl | (simp; done) | (simp [*]; done), by repeat (first | exact Drawn0.refl _ | apply Drawn0.step)⟩

/-! ### impl_principal: function 58 -/
def impl_principal.f (a0_0 : Int) (l0_1 : List ByteArray) : Option (Int × List ByteArray) := some (a0_0, l0_1)
set_option maxHeartbeats 8000000 in
set_option maxRecDepth 100000 in
theorem impl_principal.calls (a0_0 : Int) (P0_1_ : Nat → Prop) (A0_1 : Option Addr) (c0_1 : Nat) (l0_1 : List ByteArray) (r1 : Int) (r2 : List ByteArray) (w : World) (hs0_1 : Kd.V Kd.string 9 w w.heap.size (fun k_ => P0_1_ k_) (.slice A0_1 l0_1.length c0_1) l0_1) (h : impl_principal.f a0_0 l0_1 = some (r1, r2)) :
    Calls Try.prog 58 #[.agg #[.int .i32 a0_0, .slice A0_1 l0_1.length c0_1]] w fun e w' => ∃ v1_ : Value, e = .returned (.agg #[.int .i32 r1, v1_]) ∧ Kd.V Kd.string 9 w' w.heap.size (fun k_ => (P0_1_ k_ ∨ w.heap.size ≤ k_)) v1_ r2 ∧ Below w.heap.size w w' := by
  have hu53 := Try.underlying53
  have hu88 := Try.underlying88
  have HO0_1 := Aside0.mk (show Kd.V Kd.string 9 w w.heap.size (fun k_ => (P0_1_ k_ ∨ w.heap.size ≤ k_)) (.slice A0_1 l0_1.length c0_1) l0_1 from Kd.V_mono hs0_1 (fun k_ hk => .inl hk))
  have HB := Aside0.mk (Below.refl w.heap.size w)
  have H : (some (a0_0, l0_1)) = some (r1, r2) := h
  clear h
  simp only [Option.some.injEq, Prod.mk.injEq] at H
  obtain ⟨rfl, rfl⟩ := H
  go_enter Try.func58, Try.ntmps58
  go_wp2_with (first | ((with_reducible refine gate_dst (N := 1) rfl ?_); refine box_event ?hg (N := 1) ?hd (cs := #[.int .i32 a0_0, .slice A0_1 l0_1.length c0_1]) (t := 53) ?hr ?_; (case hd => rfl); (case hg => rfl); (case hr => first | (go_simp; done) | (go_simp; rfl)); intro gb183 hg w2 hbox hb; have n0_ := Aside0.mk (Kd.V_below (Kd.V_elderB (by (with_reducible repeat (first | apply Kd.V_alloc | apply Kd.V_drewN | apply Kd.V_drew)); exact HO0_1.out) gb183 (Nat.le_of_eq hg.symm)) hb); have n1_ := Aside0.mk (below_step (by repeat (first | (with_reducible first | exact HB.out | apply below_alloc | apply pw_below_drewN | apply below_drew1) | exact HB.out)) hb); have n2_ := Aside0.mk (hbox); have n3_ := Aside0.mk ((by rw [hg]; exact (below_size (by repeat (first | (with_reducible first | exact HB.out | apply below_alloc | apply pw_below_drewN | apply below_drew1) | exact HB.out))) : w.heap.size ≤ gb183)); have n4_ := Aside0.mk ((by rw [hg]; exact (below_size (by repeat (first | (with_reducible first | exact HB.out | apply below_alloc | apply pw_below_drewN | apply below_drew1) | exact HB.out))) : w.heap.size ≤ gb183)); clear HO0_1; clear HB; have HO0_1 := n0_; have HB := n1_; have BK183 := n2_; have GW183 := n3_; have GE183 := n4_; clear n0_ n1_ n2_ n3_ n4_; clear hb hbox hg) | ((with_reducible refine gate_dst (N := 2) rfl ?_); refine box_event ?hg (N := 2) ?hd (cs := #[.int .i32 0, .slice none 0 0]) (t := 88) ?hr ?_; (case hd => rfl); (case hg => rfl); (case hr => first | (go_simp; done) | (go_simp; rfl)); intro gb184 hg w3 hbox hb; have n0_ := Aside0.mk (Kd.V_below (Kd.V_elderB (by (with_reducible repeat (first | apply Kd.V_alloc | apply Kd.V_drewN | apply Kd.V_drew)); exact HO0_1.out) gb184 (Nat.le_of_eq hg.symm)) hb); have n1_ := Aside0.mk (blk_below (g := gb183) (o := .cells #[.int .i32 a0_0, .slice A0_1 l0_1.length c0_1] 53 (0, 0)) (by (with_reducible repeat (first | refine blk_drewN ?_ _ | refine blk_drew ?_ | refine blk_alloc ?_ _)); exact BK183.out) hb); have n2_ := Aside0.mk (below_step (by repeat (first | (with_reducible first | exact HB.out | apply below_alloc | apply pw_below_drewN | apply below_drew1 | refine below_set ?_ GE183.out) | exact HB.out)) hb); have n3_ := Aside0.mk (hbox); have n4_ := Aside0.mk ((by rw [hg]; exact (below_size (by repeat (first | (with_reducible first | exact HB.out | apply below_alloc | apply pw_below_drewN | apply below_drew1 | refine below_set ?_ GE183.out) | exact HB.out))) : w.heap.size ≤ gb184)); have n5_ := Aside0.mk ((by rw [hg]; exact (below_size (by repeat (first | (with_reducible first | exact HB.out | apply below_alloc | apply pw_below_drewN | apply below_drew1 | refine below_set ?_ GE183.out) | exact HB.out))) : w.heap.size ≤ gb184)); have n6_ := Aside0.mk ((by rw [hg]; exact Nat.ne_of_lt (blk_lt (g := gb183) (o := .cells #[.int .i32 a0_0, .slice A0_1 l0_1.length c0_1] 53 (0, 0)) (by (with_reducible repeat (first | refine blk_drewN ?_ _ | refine blk_drew ?_ | refine blk_alloc ?_ _)); exact BK183.out)) : gb183 ≠ gb184)); have n7_ := Aside0.mk ((by rw [hg]; exact Nat.ne_of_gt (blk_lt (g := gb183) (o := .cells #[.int .i32 a0_0, .slice A0_1 l0_1.length c0_1] 53 (0, 0)) (by (with_reducible repeat (first | refine blk_drewN ?_ _ | refine blk_drew ?_ | refine blk_alloc ?_ _)); exact BK183.out)) : gb184 ≠ gb183)); clear HO0_1; clear BK183; clear HB; have HO0_1 := n0_; have BK183 := n1_; have HB := n2_; have BK184 := n3_; have GW184 := n4_; have GE184 := n5_; have NB183_184 := n6_; have NB184_183 := n7_; clear n0_ n1_ n2_ n3_ n4_ n5_ n6_ n7_; clear hb hbox hg; have hnb4 := NB183_184.out; have hnc4 := NB184_183.out; have hcz5_0 : w3.cell? ⟨gb183, 0, none⟩ = some (.int .i32 a0_0) := (blk_cell BK183.out 0).trans rfl; have hcz5_1 : w3.cell? ⟨gb183, 1, none⟩ = some (.slice A0_1 l0_1.length c0_1) := (blk_cell BK183.out 1).trans rfl; have hfz5_0 := blk_frozen BK183.out 0; have hfz5_1 := blk_frozen BK183.out 1; have hcz6_0 : w3.cell? ⟨gb184, 0, none⟩ = some (.int .i32 0) := (blk_cell BK184.out 0).trans rfl; have hcz6_1 : w3.cell? ⟨gb184, 1, none⟩ = some (.slice none 0 0) := (blk_cell BK184.out 1).trans rfl; have hfz6_0 := blk_frozen BK184.out 0; have hfz6_1 := blk_frozen BK184.out 1))
  refine bodyPost_ret (results_cell_row rfl _ _ gb184 88 #[.int .i32 a0_0, .slice A0_1 l0_1.length c0_1] (0, 0) _ rfl (by (with_reducible repeat (first | refine blk_drewN ?_ _ | refine blk_drew ?_ | refine blk_alloc ?_ _)); refine blk_put (cs := #[.int .i32 a0_0, .slice none 0 0]) ?_ 1 _ rfl; (with_reducible repeat (first | refine blk_drewN ?_ _ | refine blk_drew ?_ | refine blk_alloc ?_ _)); refine blk_put (cs := #[.int .i32 0, .slice none 0 0]) ?_ 0 _ rfl; (with_reducible repeat (first | refine blk_drewN ?_ _ | refine blk_drew ?_ | refine blk_alloc ?_ _)); exact BK184.out) Try.underlying88 rfl (by kernel_rfl)) rfl ?_
  exact ⟨_, by first | rfl | (simp [errW_none, errW_some] <;> rfl) | (simp [*, errW_none, errW_some] <;> rfl), by (with_reducible repeat (first | apply Kd.V_alloc | apply Kd.V_drewN | apply Kd.V_drew)); exact Kd.V_mono (Kd.V_far (p := ⟨gb184, 1, none⟩) (Kd.V_far (p := ⟨gb184, 0, none⟩) (Kd.V_mono HO0_1.out (fun k_ hk => (⟨hk, hk.2⟩ : _ ∧ k_ ≠ gb184))) (fun _ hk => hk.2) (.int .i32 a0_0)) (fun _ hk => hk.2) (.slice A0_1 l0_1.length c0_1)) (fun _ hk => hk.1.1.1), by repeat (first | (with_reducible first | exact HB.out | apply below_alloc | apply pw_below_drewN | apply below_drew1 | refine below_set ?_ GE183.out | refine below_set ?_ GE184.out) | exact HB.out)⟩

/-! ### types_PrincipalName_Equal: function 59 -/
def types_PrincipalName_Equal.l0 : Nat → List ByteArray → Int → Int → Int → List ByteArray → Option (Bool)
  | 0, _, _, _, _, _ => none
  | k + 1, x15, x16, x17, x187000, x187001 => if x17 < x16 then (if 0 ≤ x17 then (if x17 < (x15.length : Int) then (if x17 < (x187001.length : Int) then (if (rdOf ByteArray.empty x187001 x17).toList = (rdOf ByteArray.empty x15 x17).toList then (types_PrincipalName_Equal.l0 k x15 x16 (wrap64 (x17 + 1)) x187000 x187001) else (some false)) else (none)) else (none)) else (none)) else (some true)
def types_PrincipalName_Equal.f (k : Nat) (a0_0 : Int) (l0_1 : List ByteArray) (a1_0 : Int) (l1_1 : List ByteArray) : Option (Bool) := if (l0_1.length : Int) = (l1_1.length : Int) then (types_PrincipalName_Equal.l0 k l0_1 (l0_1.length : Int) 0 a1_0 l1_1) else (some false)
set_option maxRecDepth 100000 in
theorem types_PrincipalName_Equal.mono_l : ∀ k, (∀ y0 y1 y2 y3 y4, LeO (types_PrincipalName_Equal.l0 k y0 y1 y2 y3 y4) (types_PrincipalName_Equal.l0 (k + 1) y0 y1 y2 y3 y4))
  | 0 => fun _ _ _ _ _ r h => by simp [types_PrincipalName_Equal.l0] at h
  | k + 1 => by
    have ih0 := types_PrincipalName_Equal.mono_l k
    · intro y0 y1 y2 y3 y4
      unfold types_PrincipalName_Equal.l0
      repeat' first
      | (with_reducible exact ih0 _ _ _ _ _)
      | (with_reducible exact LeO.refl _)
      | (with_reducible exact LeO.none _)
      | (with_reducible refine LeO.ite ?_ ?_)
      | (with_reducible refine LeO.bind ?_ (fun _ => ?_))
      | exact ih0 _ _ _ _ _
      | exact LeO.none _
      | refine LeO.ite ?_ ?_
      | refine LeO.bind ?_ (fun _ => ?_)
set_option maxRecDepth 100000 in
theorem types_PrincipalName_Equal.mono : ∀ a0 a1 a2 a3 k, LeO (types_PrincipalName_Equal.f k a0 a1 a2 a3) (types_PrincipalName_Equal.f (k + 1) a0 a1 a2 a3) := by
  intro a0 a1 a2 a3 k
  have ih0 := types_PrincipalName_Equal.mono_l k
  unfold types_PrincipalName_Equal.f
  repeat' first
      | (with_reducible exact ih0 _ _ _ _ _)
      | (with_reducible exact LeO.refl _)
      | (with_reducible exact LeO.none _)
      | (with_reducible refine LeO.ite ?_ ?_)
      | (with_reducible refine LeO.bind ?_ (fun _ => ?_))
      | exact ih0 _ _ _ _ _
      | exact LeO.none _
      | refine LeO.ite ?_ ?_
      | refine LeO.bind ?_ (fun _ => ?_)
set_option maxHeartbeats 8000000 in
set_option maxRecDepth 100000 in
theorem types_PrincipalName_Equal.calls (k : Nat) (a0_0 : Int) (A0_1 : Option Addr) (c0_1 : Nat) (l0_1 : List ByteArray) (a1_0 : Int) (A1_1 : Option Addr) (c1_1 : Nat) (l1_1 : List ByteArray) (r : Bool) (w : World) (hr0_1 : Kd.C Kd.string w A0_1 l0_1.length l0_1) (hc0_1 : l0_1.length ≤ c0_1) (hr1_1 : Kd.C Kd.string w A1_1 l1_1.length l1_1) (hc1_1 : l1_1.length ≤ c1_1) (h : types_PrincipalName_Equal.f k a0_0 l0_1 a1_0 l1_1 = some r) :
    Calls Try.prog 59 #[.agg #[.int .i32 a0_0, .slice A0_1 l0_1.length c0_1], .agg #[.int .i32 a1_0, .slice A1_1 l1_1.length c1_1]] w fun e w' => e = .returned (.bool r) ∧ Below w.heap.size w w' := by
  have hu88 := Try.underlying88
  have HR0_1 := Aside0.mk hr0_1
  have HC0_1 := Aside0.mk hc0_1
  clear hr0_1 hc0_1
  have HR1_1 := Aside0.mk hr1_1
  have HC1_1 := Aside0.mk hc1_1
  clear hr1_1 hc1_1
  have HB := Aside0.mk (Below.refl w.heap.size w)
  have H : (if (l0_1.length : Int) = (l1_1.length : Int) then (types_PrincipalName_Equal.l0 k l0_1 (l0_1.length : Int) 0 a1_0 l1_1) else (some false)) = some r := h
  clear h
  by_cases c3 : (l0_1.length : Int) = (l1_1.length : Int)
  · rw [if_pos c3] at H
    have c3b0 : ((l0_1.length : Int) == (l1_1.length : Int)) = true := beq_iff_eq.mpr c3
    have c3b1 : ((l0_1.length : Int) != (l1_1.length : Int)) = false := bne_eq_false_iff_eq.mpr c3
    have c3b2 : (l0_1.length == l1_1.length) = true := by first | simpa using c3 | (simp at c3 ⊢; omega)
    clear c3
    have H' := Aside0.mk H
    clear H
    go_enter Try.func59, Try.ntmps59
    go_wp2_with (first | ((with_reducible refine gate_dst (N := 2) rfl ?_); refine box_event ?hg (N := 2) ?hd (cs := #[.int .i32 a0_0, .slice A0_1 l0_1.length c0_1]) (t := 88) ?hr ?_; (case hd => rfl); (case hg => rfl); (case hr => first | (go_simp; done) | (go_simp; rfl)); intro gb185 hg w4 hbox hb; have n0_ := Aside0.mk (below_step (by repeat (first | (with_reducible first | exact HB.out | apply below_alloc | apply pw_below_drewN | apply below_drew1) | exact HB.out)) hb); have n1_ := Aside0.mk (hbox); have n2_ := Aside0.mk ((by rw [hg]; exact (below_size (by repeat (first | (with_reducible first | exact HB.out | apply below_alloc | apply pw_below_drewN | apply below_drew1) | exact HB.out))) : w.heap.size ≤ gb185)); have n3_ := Aside0.mk ((by rw [hg]; exact (below_size (by repeat (first | (with_reducible first | exact HB.out | apply below_alloc | apply pw_below_drewN | apply below_drew1) | exact HB.out))) : w.heap.size ≤ gb185)); clear HB; have HB := n0_; have BK185 := n1_; have GW185 := n2_; have GE185 := n3_; clear n0_ n1_ n2_ n3_; clear hb hbox hg) | ((with_reducible refine gate_dst (N := 3) rfl ?_); refine box_event ?hg (N := 3) ?hd (cs := #[.int .i32 a1_0, .slice A1_1 l1_1.length c1_1]) (t := 88) ?hr ?_; (case hd => rfl); (case hg => rfl); (case hr => first | (go_simp; done) | (go_simp; rfl)); intro gb186 hg w5 hbox hb; have n0_ := Aside0.mk (blk_below (g := gb185) (o := .cells #[.int .i32 a0_0, .slice A0_1 l0_1.length c0_1] 88 (0, 0)) (by (with_reducible repeat (first | refine blk_drewN ?_ _ | refine blk_drew ?_ | refine blk_alloc ?_ _)); exact BK185.out) hb); have n1_ := Aside0.mk (below_step (by repeat (first | (with_reducible first | exact HB.out | apply below_alloc | apply pw_below_drewN | apply below_drew1 | refine below_set ?_ GE185.out) | exact HB.out)) hb); have n2_ := Aside0.mk (hbox); have n3_ := Aside0.mk ((by rw [hg]; exact (below_size (by repeat (first | (with_reducible first | exact HB.out | apply below_alloc | apply pw_below_drewN | apply below_drew1 | refine below_set ?_ GE185.out) | exact HB.out))) : w.heap.size ≤ gb186)); have n4_ := Aside0.mk ((by rw [hg]; exact (below_size (by repeat (first | (with_reducible first | exact HB.out | apply below_alloc | apply pw_below_drewN | apply below_drew1 | refine below_set ?_ GE185.out) | exact HB.out))) : w.heap.size ≤ gb186)); have n5_ := Aside0.mk ((by rw [hg]; exact Nat.ne_of_lt (blk_lt (g := gb185) (o := .cells #[.int .i32 a0_0, .slice A0_1 l0_1.length c0_1] 88 (0, 0)) (by (with_reducible repeat (first | refine blk_drewN ?_ _ | refine blk_drew ?_ | refine blk_alloc ?_ _)); exact BK185.out)) : gb185 ≠ gb186)); have n6_ := Aside0.mk ((by rw [hg]; exact Nat.ne_of_gt (blk_lt (g := gb185) (o := .cells #[.int .i32 a0_0, .slice A0_1 l0_1.length c0_1] 88 (0, 0)) (by (with_reducible repeat (first | refine blk_drewN ?_ _ | refine blk_drew ?_ | refine blk_alloc ?_ _)); exact BK185.out)) : gb186 ≠ gb185)); clear BK185; clear HB; have BK185 := n0_; have HB := n1_; have BK186 := n2_; have GW186 := n3_; have GE186 := n4_; have NB185_186 := n5_; have NB186_185 := n6_; clear n0_ n1_ n2_ n3_ n4_ n5_ n6_; clear hb hbox hg; have hnb6 := NB185_186.out; have hnc6 := NB186_185.out; have hcz7_0 : w5.cell? ⟨gb185, 0, none⟩ = some (.int .i32 a0_0) := (blk_cell BK185.out 0).trans rfl; have hcz7_1 : w5.cell? ⟨gb185, 1, none⟩ = some (.slice A0_1 l0_1.length c0_1) := (blk_cell BK185.out 1).trans rfl; have hfz7_0 := blk_frozen BK185.out 0; have hfz7_1 := blk_frozen BK185.out 1; have hcz8_0 : w5.cell? ⟨gb186, 0, none⟩ = some (.int .i32 a1_0) := (blk_cell BK186.out 0).trans rfl; have hcz8_1 : w5.cell? ⟨gb186, 1, none⟩ = some (.slice A1_1 l1_1.length c1_1) := (blk_cell BK186.out 1).trans rfl; have hfz8_0 := blk_frozen BK186.out 0; have hfz8_1 := blk_frozen BK186.out 1))
    go_loopg [17] k (fun kq v17 w' => ∃ (x17_1 : Int), v17 = .int .i64 x17_1 ∧ Aside0 (types_PrincipalName_Equal.l0 kq l0_1 (l0_1.length : Int) x17_1 a1_0 l1_1 = some r) ∧ Aside0 (kq ≤ k) ∧ Aside0 (w'.heap[gb185]? = some (.cells #[.int .i32 a0_0, (.slice A0_1 l0_1.length c0_1)] 88 (0, 0))) ∧ Aside0 (w'.heap[gb186]? = some (.cells #[.int .i32 a1_0, (.slice A1_1 l1_1.length c1_1)] 88 (0, 0))) ∧ Aside0 (Below w.heap.size w w'))
    case atStart => exact ⟨(0), (by first | rfl | (simp; done) | (simp [*]; done)), H', ⟨Nat.le_refl _⟩, ⟨by (with_reducible repeat (first | refine blk_drewN ?_ _ | refine blk_drew ?_ | refine blk_alloc ?_ _)); exact BK185.out⟩, ⟨by (with_reducible repeat (first | refine blk_drewN ?_ _ | refine blk_drew ?_ | refine blk_alloc ?_ _)); exact BK186.out⟩, ⟨by repeat (first | (with_reducible first | exact HB.out | apply below_alloc | apply pw_below_drewN | apply below_drew1 | refine below_set ?_ GE185.out | refine below_set ?_ GE186.out) | exact HB.out)⟩⟩
    case round =>
      clear H'
      try clear c1
      try clear p2
      try clear c3
      try clear c3b0
      try clear c3b1
      try clear c3b2
      try clear c5
      try clear c6
      try clear hcz7_0
      try clear hcz7_1
      try clear hcz8_0
      try clear hcz8_1
      try clear hfz7_0
      try clear hfz7_1
      try clear hfz8_0
      try clear hfz8_1
      obtain ⟨x17_1, rfl, HA, HK1, BK185, BK186, HB⟩ := hrel
      cases gk with
      | zero => exact absurd HA.out (by simp [types_PrincipalName_Equal.l0])
      | succ k1 =>
        have H := HA.out
        clear HA
        simp only [types_PrincipalName_Equal.l0] at H
        by_cases c9 : x17_1 < (l0_1.length : Int)
        · rw [if_pos c9] at H
          have c9b0 : decide (x17_1 < (l0_1.length : Int)) = true := decide_eq_true c9
          clear c9
          by_cases c10 : 0 ≤ x17_1
          · rw [if_pos c10] at H
            have c10b0 : decide (0 ≤ x17_1) = true := decide_eq_true c10
            clear c10
            by_cases c11 : x17_1 < (l0_1.length : Int)
            · rw [if_pos c11] at H
              have c11b0 : decide (x17_1 < (l0_1.length : Int)) = true := decide_eq_true c11
              clear c11
              by_cases c12 : x17_1 < (l1_1.length : Int)
              · rw [if_pos c12] at H
                have c12b0 : decide (x17_1 < (l1_1.length : Int)) = true := decide_eq_true c12
                clear c12
                by_cases c13 : (rdOf ByteArray.empty l1_1 x17_1).toList = (rdOf ByteArray.empty l0_1 x17_1).toList
                · rw [if_pos c13] at H
                  have c13b0 : ((rdOf ByteArray.empty l1_1 x17_1).toList == (rdOf ByteArray.empty l0_1 x17_1).toList) = true := beq_iff_eq.mpr c13
                  have c13b1 : ((rdOf ByteArray.empty l1_1 x17_1).toList != (rdOf ByteArray.empty l0_1 x17_1).toList) = false := bne_eq_false_iff_eq.mpr c13
                  clear c13
                  have H' := Aside0.mk H
                  clear H
                  have p187 : 0 ≤ (x17_1 : Int) := of_decide_eq_true (by first | (with_reducible assumption) | assumption)
                  have q187 : x17_1 < (l0_1.length : Int) := of_decide_eq_true (by first | (with_reducible assumption) | assumption)
                  obtain ⟨ad187, e187, hx187_0⟩ := Kd.at_string HR0_1.out x17_1 p187 q187
                  cases e187
                  replace hx187_0 := (HB.out.cell (World.block_lt_of_cell? w _ hx187_0)).trans hx187_0
                  replace p187 := eq_true p187
                  replace q187 := eq_true q187
                  have hnb14 := NB186_185.out
                  have hnc14 := NB185_186.out
                  have hcz15_0 : wr.cell? ⟨gb186, 0, none⟩ = some (.int .i32 a1_0) := (blk_cell BK186.out 0).trans rfl
                  have hcz15_1 : wr.cell? ⟨gb186, 1, none⟩ = some (.slice A1_1 l1_1.length c1_1) := (blk_cell BK186.out 1).trans rfl
                  have hfz15_0 := blk_frozen BK186.out 0
                  have hfz15_1 := blk_frozen BK186.out 1
                  have p188 : 0 ≤ (x17_1 : Int) := of_decide_eq_true (by first | (with_reducible assumption) | assumption)
                  have q188 : x17_1 < (l1_1.length : Int) := of_decide_eq_true (by first | (with_reducible assumption) | assumption)
                  obtain ⟨ad188, e188, hx188_0⟩ := Kd.at_string HR1_1.out x17_1 p188 q188
                  cases e188
                  replace hx188_0 := (HB.out.cell (World.block_lt_of_cell? w _ hx188_0)).trans hx188_0
                  replace p188 := eq_true p188
                  replace q188 := eq_true q188
                  go_wp2
                  go_roundg k1
                  case measure => have := HK1.out; omega
                  case rel => exact ⟨(wrap64 (x17_1 + 1)), (by first | rfl | (simp; done) | (simp [*]; done)), H', ⟨by have := HK1.out; omega⟩, ⟨by (with_reducible repeat (first | refine blk_drewN ?_ _ | refine blk_drew ?_ | refine blk_alloc ?_ _)); exact BK185.out⟩, ⟨by (with_reducible repeat (first | refine blk_drewN ?_ _ | refine blk_drew ?_ | refine blk_alloc ?_ _)); exact BK186.out⟩, ⟨by repeat (first | (with_reducible first | exact HB.out | apply below_alloc | apply pw_below_drewN | apply below_drew1 | refine below_set ?_ GE185.out | refine below_set ?_ GE186.out) | exact HB.out)⟩⟩
                · rw [if_neg c13] at H
                  have c13b0 : ((rdOf ByteArray.empty l1_1 x17_1).toList == (rdOf ByteArray.empty l0_1 x17_1).toList) = false := beq_eq_false_iff_ne.mpr c13
                  have c13b1 : ((rdOf ByteArray.empty l1_1 x17_1).toList != (rdOf ByteArray.empty l0_1 x17_1).toList) = true := bne_iff_ne.mpr c13
                  obtain rfl := Option.some.inj H
                  have p187 : 0 ≤ (x17_1 : Int) := of_decide_eq_true (by first | (with_reducible assumption) | assumption)
                  have q187 : x17_1 < (l0_1.length : Int) := of_decide_eq_true (by first | (with_reducible assumption) | assumption)
                  obtain ⟨ad187, e187, hx187_0⟩ := Kd.at_string HR0_1.out x17_1 p187 q187
                  cases e187
                  replace hx187_0 := (HB.out.cell (World.block_lt_of_cell? w _ hx187_0)).trans hx187_0
                  replace p187 := eq_true p187
                  replace q187 := eq_true q187
                  have hnb16 := NB186_185.out
                  have hnc16 := NB185_186.out
                  have hcz17_0 : wr.cell? ⟨gb186, 0, none⟩ = some (.int .i32 a1_0) := (blk_cell BK186.out 0).trans rfl
                  have hcz17_1 : wr.cell? ⟨gb186, 1, none⟩ = some (.slice A1_1 l1_1.length c1_1) := (blk_cell BK186.out 1).trans rfl
                  have hfz17_0 := blk_frozen BK186.out 0
                  have hfz17_1 := blk_frozen BK186.out 1
                  have p188 : 0 ≤ (x17_1 : Int) := of_decide_eq_true (by first | (with_reducible assumption) | assumption)
                  have q188 : x17_1 < (l1_1.length : Int) := of_decide_eq_true (by first | (with_reducible assumption) | assumption)
                  obtain ⟨ad188, e188, hx188_0⟩ := Kd.at_string HR1_1.out x17_1 p188 q188
                  cases e188
                  replace hx188_0 := (HB.out.cell (World.block_lt_of_cell? w _ hx188_0)).trans hx188_0
                  replace p188 := eq_true p188
                  replace q188 := eq_true q188
                  go_wp2
                  go_ret
                  exact ⟨by first | rfl | (simp [errW_none, errW_some] <;> rfl) | (simp [*, errW_none, errW_some] <;> rfl), by repeat (first | (with_reducible first | exact HB.out | apply below_alloc | apply pw_below_drewN | apply below_drew1 | refine below_set ?_ GE185.out | refine below_set ?_ GE186.out) | exact HB.out)⟩
              · rw [if_neg c12] at H
                exact absurd H (by simp)
            · rw [if_neg c11] at H
              exact absurd H (by simp)
          · rw [if_neg c10] at H
            exact absurd H (by simp)
        · rw [if_neg c9] at H
          have c9b0 : decide (x17_1 < (l0_1.length : Int)) = false := decide_eq_false c9
          clear c9
          obtain rfl := Option.some.inj H
          go_wp2
          go_ret
          exact ⟨by first | rfl | (simp [errW_none, errW_some] <;> rfl) | (simp [*, errW_none, errW_some] <;> rfl), by repeat (first | (with_reducible first | exact HB.out | apply below_alloc | apply pw_below_drewN | apply below_drew1 | refine below_set ?_ GE185.out | refine below_set ?_ GE186.out) | exact HB.out)⟩
  · rw [if_neg c3] at H
    have c3b0 : ((l0_1.length : Int) == (l1_1.length : Int)) = false := beq_eq_false_iff_ne.mpr c3
    have c3b1 : ((l0_1.length : Int) != (l1_1.length : Int)) = true := bne_iff_ne.mpr c3
    have c3b2 : (l0_1.length == l1_1.length) = false := by first | simpa using c3 | (simp at c3 ⊢; omega)
    obtain rfl := Option.some.inj H
    go_enter Try.func59, Try.ntmps59
    go_wp2_with (first | ((with_reducible refine gate_dst (N := 2) rfl ?_); refine box_event ?hg (N := 2) ?hd (cs := #[.int .i32 a0_0, .slice A0_1 l0_1.length c0_1]) (t := 88) ?hr ?_; (case hd => rfl); (case hg => rfl); (case hr => first | (go_simp; done) | (go_simp; rfl)); intro gb185 hg w18 hbox hb; have n0_ := Aside0.mk (below_step (by repeat (first | (with_reducible first | exact HB.out | apply below_alloc | apply pw_below_drewN | apply below_drew1) | exact HB.out)) hb); have n1_ := Aside0.mk (hbox); have n2_ := Aside0.mk ((by rw [hg]; exact (below_size (by repeat (first | (with_reducible first | exact HB.out | apply below_alloc | apply pw_below_drewN | apply below_drew1) | exact HB.out))) : w.heap.size ≤ gb185)); have n3_ := Aside0.mk ((by rw [hg]; exact (below_size (by repeat (first | (with_reducible first | exact HB.out | apply below_alloc | apply pw_below_drewN | apply below_drew1) | exact HB.out))) : w.heap.size ≤ gb185)); clear HB; have HB := n0_; have BK185 := n1_; have GW185 := n2_; have GE185 := n3_; clear n0_ n1_ n2_ n3_; clear hb hbox hg) | ((with_reducible refine gate_dst (N := 3) rfl ?_); refine box_event ?hg (N := 3) ?hd (cs := #[.int .i32 a1_0, .slice A1_1 l1_1.length c1_1]) (t := 88) ?hr ?_; (case hd => rfl); (case hg => rfl); (case hr => first | (go_simp; done) | (go_simp; rfl)); intro gb186 hg w19 hbox hb; have n0_ := Aside0.mk (blk_below (g := gb185) (o := .cells #[.int .i32 a0_0, .slice A0_1 l0_1.length c0_1] 88 (0, 0)) (by (with_reducible repeat (first | refine blk_drewN ?_ _ | refine blk_drew ?_ | refine blk_alloc ?_ _)); exact BK185.out) hb); have n1_ := Aside0.mk (below_step (by repeat (first | (with_reducible first | exact HB.out | apply below_alloc | apply pw_below_drewN | apply below_drew1 | refine below_set ?_ GE185.out) | exact HB.out)) hb); have n2_ := Aside0.mk (hbox); have n3_ := Aside0.mk ((by rw [hg]; exact (below_size (by repeat (first | (with_reducible first | exact HB.out | apply below_alloc | apply pw_below_drewN | apply below_drew1 | refine below_set ?_ GE185.out) | exact HB.out))) : w.heap.size ≤ gb186)); have n4_ := Aside0.mk ((by rw [hg]; exact (below_size (by repeat (first | (with_reducible first | exact HB.out | apply below_alloc | apply pw_below_drewN | apply below_drew1 | refine below_set ?_ GE185.out) | exact HB.out))) : w.heap.size ≤ gb186)); have n5_ := Aside0.mk ((by rw [hg]; exact Nat.ne_of_lt (blk_lt (g := gb185) (o := .cells #[.int .i32 a0_0, .slice A0_1 l0_1.length c0_1] 88 (0, 0)) (by (with_reducible repeat (first | refine blk_drewN ?_ _ | refine blk_drew ?_ | refine blk_alloc ?_ _)); exact BK185.out)) : gb185 ≠ gb186)); have n6_ := Aside0.mk ((by rw [hg]; exact Nat.ne_of_gt (blk_lt (g := gb185) (o := .cells #[.int .i32 a0_0, .slice A0_1 l0_1.length c0_1] 88 (0, 0)) (by (with_reducible repeat (first | refine blk_drewN ?_ _ | refine blk_drew ?_ | refine blk_alloc ?_ _)); exact BK185.out)) : gb186 ≠ gb185)); clear BK185; clear HB; have BK185 := n0_; have HB := n1_; have BK186 := n2_; have GW186 := n3_; have GE186 := n4_; have NB185_186 := n5_; have NB186_185 := n6_; clear n0_ n1_ n2_ n3_ n4_ n5_ n6_; clear hb hbox hg; have hnb20 := NB185_186.out; have hnc20 := NB186_185.out; have hcz21_0 : w19.cell? ⟨gb185, 0, none⟩ = some (.int .i32 a0_0) := (blk_cell BK185.out 0).trans rfl; have hcz21_1 : w19.cell? ⟨gb185, 1, none⟩ = some (.slice A0_1 l0_1.length c0_1) := (blk_cell BK185.out 1).trans rfl; have hfz21_0 := blk_frozen BK185.out 0; have hfz21_1 := blk_frozen BK185.out 1; have hcz22_0 : w19.cell? ⟨gb186, 0, none⟩ = some (.int .i32 a1_0) := (blk_cell BK186.out 0).trans rfl; have hcz22_1 : w19.cell? ⟨gb186, 1, none⟩ = some (.slice A1_1 l1_1.length c1_1) := (blk_cell BK186.out 1).trans rfl; have hfz22_0 := blk_frozen BK186.out 0; have hfz22_1 := blk_frozen BK186.out 1))
    go_ret
    exact ⟨by first | rfl | (simp [errW_none, errW_some] <;> rfl) | (simp [*, errW_none, errW_some] <;> rfl), by repeat (first | (with_reducible first | exact HB.out | apply below_alloc | apply pw_below_drewN | apply below_drew1 | refine below_set ?_ GE185.out | refine below_set ?_ GE186.out) | exact HB.out)⟩

end Go.Proofs.Ythgcpicflmigjaa.F

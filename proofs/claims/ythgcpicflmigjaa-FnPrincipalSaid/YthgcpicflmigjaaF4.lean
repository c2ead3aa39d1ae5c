/- Go functions of this seat come to the answers of the Lean functions that stand here ('.calls'), under what each theorem states and nothing else. Written by pw.py, a program of this session, with texts of its own. -/
import Derived.Test.YthgcpicflmigjaaF0
import Derived.Test.YthgcpicflmigjaaF3
namespace Go.Proofs.Ythgcpicflmigjaa.F
open Go.RowKit Go.Proofs.YthgcpicflmigjaaW.PrintWords Go.Proofs.YthgcpicflmigjaaW.PrintLast Go.Proofs.YthgcpicflmigjaaW.PrintMore
attribute [local go_sem] max2_int min2_int max_two min_two max_three min_three max_four min_four   -- for this text's walks alone
set_option linter.unusedVariables false
set_option linter.unusedSimpArgs false
set_option maxRecDepth 100000

/-! ### types_zzSplit: function 66 -/
-- EXT rounds=1 making=1
-- NEEDS 70
-- INFO 9
def types_zzSplit.l0 : Nat → ByteArray → ByteArray → List ByteArray → Option (List ByteArray)
  | 0, _, _, _ => none
  | k + 1, s, sep, out => if s.size ≤ 140737488355328 ∧ out.length ≤ 1000000 then ((types_zzIndex.f k s sep).bind fun i => if i < 0 then some (out ++ [s]) else (if i + (sep.size : Int) ≤ (s.size : Int) then types_zzSplit.l0 k (s.extract (i + (sep.size : Int)).toNat s.size) sep (out ++ [s.extract 0 i.toNat]) else none)) else none
def types_zzSplit.f (k : Nat) (a0 : ByteArray) (a1 : ByteArray) : Option (List ByteArray) := if 0 < a1.size then types_zzSplit.l0 k a0 a1 [] else none
theorem types_zzSplit.mono_l : ∀ k, (∀ s sep out, LeO (types_zzSplit.l0 k s sep out) (types_zzSplit.l0 (k + 1) s sep out))
  | 0 => fun _ _ _ r h => by simp [types_zzSplit.l0] at h
  | k + 1 => by
    intro s sep out
    unfold types_zzSplit.l0
    refine LeO.ite (LeO.bind (types_zzIndex.mono _ _ _) fun i => ?_) (LeO.none _)
    exact LeO.ite (LeO.refl _) (LeO.ite (types_zzSplit.mono_l k _ _ _) (LeO.none _))
theorem types_zzSplit.mono : ∀ a0 a1 k, LeO (types_zzSplit.f k a0 a1) (types_zzSplit.f (k + 1) a0 a1) := by
  intro a0 a1 k
  unfold types_zzSplit.f
  exact LeO.ite (types_zzSplit.mono_l k _ _ _) (LeO.none _)
def SplitPost (r : List ByteArray) (w : World) (e : Ending) (w' : World) : Prop := ∃ v0_ : Value, e = .returned (v0_) ∧ Kd.R Kd.string 9 w' w.heap.size (fun _ => True) v0_ r ∧ Below w.heap.size w w'
set_option maxHeartbeats 4000000 in
theorem types_zzSplit.calls (k : Nat) (a0 : ByteArray) (a1 : ByteArray) (r : List ByteArray) (w : World) (h : types_zzSplit.f k a0 a1 = some r) :
    Calls Try.prog 66 #[.string a0, .string a1] w fun e w' => ∃ v0_ : Value, e = .returned (v0_) ∧ Kd.R Kd.string 9 w' w.heap.size (fun _ => True) v0_ r ∧ Below w.heap.size w w' := by
  show Calls _ _ _ w (SplitPost r w)
  unfold types_zzSplit.f at h
  by_cases hs : 0 < a1.size
  case neg => rw [if_neg hs] at h; cases h
  rw [if_pos hs] at h
  have hs1 : ((a1.size : Int) == 0) = false := by rw [beq_eq_false_iff_ne]; omega
  have hs2 : (a1.size == 0) = false := by rw [beq_eq_false_iff_ne]; omega
  have H := Aside0.mk h
  clear h
  go_enter Try.func66, Try.ntmps66
  go_wp2
  go_loopg [0, 5] k (fun kq v0 v5 wr => ∃ (s : ByteArray) (out : List ByteArray), v0 = .string s ∧ Aside0 (types_zzSplit.l0 kq s a1 out = some r) ∧ Aside0 (kq ≤ k) ∧ Aside0 (wr.ownsRow w.heap.size 9 1 v5 (encs Value.string out).length (encs Value.string out)) ∧ Aside0 (Below w.heap.size w wr))
  case atStart => exact ⟨a0, [], rfl, H, ⟨Nat.le_refl _⟩, ⟨own_nil _ _ _ _⟩, ⟨Below.refl _ _⟩⟩
  case round =>
    clear H
    obtain ⟨s, out, rfl, HA, HK1, HO, HB⟩ := hrel
    cases gk with
    | zero => exact absurd HA.out (by simp [types_zzSplit.l0])
    | succ k1 =>
      have h := HA.out
      clear HA
      simp only [types_zzSplit.l0] at h
      by_cases hc : s.size ≤ 140737488355328 ∧ out.length ≤ 1000000
      case neg => rw [if_neg hc] at h; cases h
      rw [if_pos hc] at h
      obtain ⟨hc1, hc2⟩ := hc
      obtain ⟨i, hi, h⟩ := Option.bind_eq_some_iff.mp h
      have HI := Aside0.mk hi
      clear hi
      by_cases h0 : i < 0
      · rw [if_pos h0] at h
        obtain rfl := Option.some.inj h
        clear h
        go_wp2_with (first
          | (go_at_call 70; refine (types_zzIndex.calls k1 s a1 i _ HI.out).mono ?_; rintro e w' ⟨rfl, ⟨n, rfl⟩⟩)
          | (at_builtin; go_loud (refine print_append (w0 := w) w.heap.size rfl _ _ 29 9 (.string ⟨#[]⟩) 16 rfl Try.underlying29 info9 rfl (by decide) u5 (encs Value.string out) (.string s) rfl rfl rfl (pw_own_drewN HO.out n) (pw_below_drewN HB.out n) HB.out.size (by simp [encs]; omega) ?_); intro v1 w1 hown hB1 hg1 _; have HO1 := Aside0.mk hown; have HB1 := Aside0.mk hB1; clear hown hB1 hg1 HO HB))
        go_ret
        refine ⟨_, rfl, Kd.R_of_own ?_ (fun _ _ => trivial), HB1.out⟩
        have h5 := HO1.out
        simpa [encs] using h5
      · rw [if_neg h0] at h
        by_cases h1 : i + (a1.size : Int) ≤ (s.size : Int)
        case neg => rw [if_neg h1] at h; cases h
        rw [if_pos h1] at h
        have H' := Aside0.mk h
        clear h
        have h2 : 0 ≤ i := by omega
        have h3 : i ≤ (s.size : Int) := by omega
        go_wp2_with (first
          | (go_at_call 70; refine (types_zzIndex.calls k1 s a1 i _ HI.out).mono ?_; rintro e w' ⟨rfl, ⟨n, rfl⟩⟩)
          | (at_builtin; go_loud (refine print_append (w0 := w) w.heap.size rfl _ _ 29 9 (.string ⟨#[]⟩) 16 rfl Try.underlying29 info9 rfl (by decide) u5 (encs Value.string out) (.string (s.extract 0 i.toNat)) rfl rfl rfl (pw_own_drewN HO.out n) (pw_below_drewN HB.out n) HB.out.size (by simp [encs]; omega) ?_); intro v1 w1 hown hB1 hg1 _; have HO1 := Aside0.mk hown; have HB1 := Aside0.mk hB1; clear hown hB1 hg1 HO HB))
        go_roundg k1
        case measure => have := HK1.out; omega
        case rel => exact ⟨_, _, rfl, H', ⟨by have := HK1.out; omega⟩, ⟨by simpa [encs] using HO1.out⟩, HB1⟩

end Go.Proofs.Ythgcpicflmigjaa.F

/- Go functions of this seat come to the answers of the Lean functions that stand here ('.calls'), under what each theorem states and nothing else. Written by pw.py, a program of this session, with texts of its own. -/
import Derived.Test.YthgcpicflmigjaaA0
import Derived.Lib.SliceRun
namespace Go.Proofs.Ythgcpicflmigjaa.A
open Go.RowKit Go.Proofs.YthgcpicflmigjaaW.PrintWords Go.Proofs.YthgcpicflmigjaaW.PrintLast Go.Proofs.YthgcpicflmigjaaW.PrintMore
attribute [local go_sem] max2_int min2_int max_two min_two max_three min_three max_four min_four   -- for this text's walks alone
set_option linter.unusedVariables false
set_option linter.unusedSimpArgs false
set_option maxRecDepth 100000

/-! ### impl_Address: function 21 -/
-- EXT rounds=0 making=1
-- INFO 34
def impl_Address.f (l0 : List S34) : Option (List S34) := if l0.length ≤ 1000000 then some l0 else none
set_option maxHeartbeats 1600000 in
theorem impl_Address.calls (A0 : Option Addr) (c0 : Nat) (l0 : List S34) (r : List S34) (w : World) (hr0 : Kd.C k34 w A0 l0.length l0) (hc0 : l0.length ≤ c0) (h : impl_Address.f l0 = some r) :
    Calls Try.prog 21 #[.slice A0 l0.length c0] w fun e w' => ∃ v0_ : Value, e = .returned (v0_) ∧ Kd.R k34 34 w' w.heap.size (fun _ => True) v0_ r ∧ Below w.heap.size w w' := by
  unfold impl_Address.f at h
  by_cases hs : l0.length ≤ 1000000
  case neg => rw [if_neg hs] at h; cases h
  rw [if_pos hs] at h
  obtain rfl := Option.some.inj h
  clear h
  have HL := Aside0.mk hs
  have HR := Aside0.mk hr0
  clear hs hr0
  cases A0 with
  | none =>
    have h0 : l0 = [] := by
      cases l0 with
      | nil => rfl
      | cons x xs => obtain ⟨ad, e, _⟩ := HR.out.2.2 (by simp); cases e
    subst h0
    have hnil : ∀ n : Nat, (binOp .eql 31 (.slice none n c0) (.slice none 0 0)).run Try.prog w = .ok (.bool true) w := fun n => Lib.run_eql_slice_nil w 31 34 none n c0 0 0 Try.underlying31
    go_enter Try.func21, Try.ntmps21
    go_wp2
    go_ret
    exact ⟨_, rfl, Kd.R_nil _ _ _ _ _, Below.refl _ _⟩
  | some ad =>
    have hnil : (binOp .eql 31 (.slice (some ad) l0.length c0) (.slice none 0 0)).run Try.prog w = .ok (.bool false) w := Lib.run_eql_slice_nil w 31 34 (some ad) l0.length c0 0 0 Try.underlying31
    go_enter Try.func21, Try.ntmps21
    go_wp2_with (first
      | ((with_reducible refine gate_dst (N := 5) rfl ?_); refine Kd.R_lit k34 _ 34 ?hg (N := 5) ?hd (xs := ([] : List S34)) (inner := []) (ok := fun _ => True) (okp := fun _ => True) ?hr ?hp (fun _ hk => hk) trivial (Below.refl _ _) (Nat.le_refl _) (by simp) ?_; (case hd => rfl); (case hg => rfl); (case hr => first | (go_simp; done) | (go_simp; rfl)); (case hp => exact (Reps.none _ _)); intro v1 w1 ho hb hg_ hnew_; clear hg_ hnew_; have HO := Aside0.mk ho; have HB := Aside0.mk hb; clear ho hb)
      | ((with_reducible refine gate_builtin (b := .append) (xs := #[.tmp 5, .tmp 6]) rfl ?_); at_builtin; refine Kd.R_append_rows k34 (w0 := w) w.heap.size rfl (.tmp 5) (.tmp 6) 31 34 (.agg #[(.int .i32 0), (.string ⟨#[]⟩)]) 24 rfl Try.underlying31 info34 rfl (by decide) (by omega) v1 ([] : List S34) l0 _ _ _ (fun _ => True) (fun _ => False) rfl rfl HO.out (Kd.C_below HR.out HB.out) (fun _ _ h => h) (fun _ h => h.elim) (fun _ _ => trivial) HB.out HB.out.size (by have := HL.out; simp; omega) ?_; intro v2 w2 ho2 hb2 hg2 hat2; have HO2 := Aside0.mk ho2; have HB2 := Aside0.mk hb2; clear ho2 hb2 hg2 hat2))
    go_ret
    exact ⟨_, rfl, by have := HO2.out; rwa [List.nil_append] at this, HB2.out⟩

end Go.Proofs.Ythgcpicflmigjaa.A

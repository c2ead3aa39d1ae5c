/- The law pub-portress/laws.FnCcAsk returns true for every input, and each argument reads as it did: no condition. Written by pw.py, a program of this session. -/
import Derived.Test.YtnipcocllhfaoaaRows
import Derived.Test.YtnipcocllhfaoaaA10
import Derived.Test.YtnipcocllhfaoaaOpen
import Derived.WalkKit
import Derived.ProofKit
import Derived.OpenShut
import Derived.ShutString
import Derived.ChangeOld
import Derived.Below
import Derived.SizedLaws
import Derived.WideShapes
import Derived.Test.YtnipcocllhfaoaaWSized
namespace Go.Proofs.Ytnipcocllhfaoaa.fnCcAsk
open Go.ChangeShapes Go.WideShapes Go.ChangeAt Go.RowKit Go.Proofs.Ytnipcocllhfaoaa.A Go.Proofs.YtnipcocllhfaoaaW.PrintWords Go.Proofs.YtnipcocllhfaoaaW.Opens
open Go.ChangeMaps (open_string shut_string)
set_option linter.unusedVariables false
set_option linter.unusedSimpArgs false
theorem own : ownKnob Try.prog.godebug = none := by kernel_rfl
theorem laidOut : laidOutB Try.prog = true := by kernel_rfl
theorem open_24 {H : Type} {enc : TypeId × Value → H} {W : World} {base : Nat} {spare : Nat → Bool} {held : Bool} : Opens enc Try.prog W base spare held 24 k24 (fun x_ => (x_.f0.size ≤ maxLen) ∧ (x_.f1.length ≤ 9223372036854775807 ∧ ∀ y0_ : ByteArray, y0_ ∈ x_.f1 → y0_.size ≤ maxLen) ∧ ((Lit.int .i32 x_.f2).wf = true)) :=
  Opens.imp (d := k24) (Opens.struct (d := (Kd.pair Kd.string (Kd.pair (Kd.slice 9 Kd.string) (Kd.int .i32)))) (fun x_ : S24 => (x_.f0, x_.f1, x_.f2)) (fun p_ => ⟨p_.1, p_.2.1, p_.2.2⟩) (fun _ => rfl) Try.underlying24 (ts := [9, 22, 21]) (by kernel_rfl) (by kernel_rfl) (by kernel_rfl)
    (Parts.cons (Opens.string Try.underlying9) (Parts.cons (Opens.slice Try.underlying22 (by kernel_rfl) (Opens.string Try.underlying9)) (Parts.one (Opens.int Try.underlying21))))) (fun x_ g_ => ⟨g_.1, ⟨g_.2.1.1, fun x_ hx_ => (g_.2.1.2 x_ hx_)⟩, g_.2.2⟩)
theorem open_63 {H : Type} {enc : TypeId × Value → H} {W : World} {base : Nat} {spare : Nat → Bool} {held : Bool} : Opens enc Try.prog W base spare held 63 k63 (fun x_ => ((Lit.int .i32 x_.f0).wf = true) ∧ (x_.f1.size ≤ maxLen)) :=
  Opens.imp (d := k63) (Opens.struct (d := (Kd.pair (Kd.int .i32) Kd.string)) (fun x_ : S63 => (x_.f0, x_.f1)) (fun p_ => ⟨p_.1, p_.2⟩) (fun _ => rfl) Try.underlying63 (ts := [21, 9]) (by kernel_rfl) (by kernel_rfl) (by kernel_rfl)
    (Parts.cons (Opens.int Try.underlying21) (Parts.one (Opens.string Try.underlying9)))) (fun x_ g_ => ⟨g_.1, g_.2⟩)
theorem open_36 {H : Type} {enc : TypeId × Value → H} {W : World} {base : Nat} {spare : Nat → Bool} {held : Bool} : Opens enc Try.prog W base spare held 36 k36 (fun x_ => ((x_.f0.f0.size ≤ maxLen) ∧ (x_.f0.f1.length ≤ 9223372036854775807 ∧ ∀ y0_ : ByteArray, y0_ ∈ x_.f0.f1 → y0_.size ≤ maxLen) ∧ ((Lit.int .i32 x_.f0.f2).wf = true)) ∧ ((x_.f1.f0.size ≤ maxLen) ∧ (x_.f1.f1.length ≤ 9223372036854775807 ∧ ∀ y0_ : ByteArray, y0_ ∈ x_.f1.f1 → y0_.size ≤ maxLen) ∧ ((Lit.int .i32 x_.f1.f2).wf = true)) ∧ ((Lit.int .i32 x_.f2).wf = true) ∧ (x_.f3.size ≤ maxLen) ∧ ((Lit.int .i64 x_.f4).wf = true) ∧ ((Lit.int .i64 x_.f5).wf = true) ∧ ((Lit.int .i64 x_.f6).wf = true) ∧ ((Lit.int .i64 x_.f7).wf = true) ∧ ((Lit.int .u32 x_.f9).wf = true) ∧ (x_.f10.length ≤ 9223372036854775807 ∧ ∀ y0_ : S63, y0_ ∈ x_.f10 → ((Lit.int .i32 y0_.f0).wf = true) ∧ (y0_.f1.size ≤ maxLen)) ∧ (x_.f11.length ≤ 9223372036854775807 ∧ ∀ y0_ : S63, y0_ ∈ x_.f11 → ((Lit.int .i32 y0_.f0).wf = true) ∧ (y0_.f1.size ≤ maxLen)) ∧ (x_.f12.size ≤ maxLen) ∧ (x_.f13.size ≤ maxLen)) :=
  Opens.imp (d := k36) (Opens.struct (d := (Kd.pair k24 (Kd.pair k24 (Kd.pair (Kd.int .i32) (Kd.pair Kd.string (Kd.pair (Kd.int .i64) (Kd.pair (Kd.int .i64) (Kd.pair (Kd.int .i64) (Kd.pair (Kd.int .i64) (Kd.pair Kd.bool (Kd.pair (Kd.int .u32) (Kd.pair (Kd.slice 63 k63) (Kd.pair (Kd.slice 63 k63) (Kd.pair Kd.string Kd.string)))))))))))))) (fun x_ : S36 => (x_.f0, x_.f1, x_.f2, x_.f3, x_.f4, x_.f5, x_.f6, x_.f7, x_.f8, x_.f9, x_.f10, x_.f11, x_.f12, x_.f13)) (fun p_ => ⟨p_.1, p_.2.1, p_.2.2.1, p_.2.2.2.1, p_.2.2.2.2.1, p_.2.2.2.2.2.1, p_.2.2.2.2.2.2.1, p_.2.2.2.2.2.2.2.1, p_.2.2.2.2.2.2.2.2.1, p_.2.2.2.2.2.2.2.2.2.1, p_.2.2.2.2.2.2.2.2.2.2.1, p_.2.2.2.2.2.2.2.2.2.2.2.1, p_.2.2.2.2.2.2.2.2.2.2.2.2.1, p_.2.2.2.2.2.2.2.2.2.2.2.2.2⟩) (fun _ => rfl) Try.underlying36 (ts := [24, 24, 21, 9, 2, 2, 2, 2, 4, 33, 34, 34, 9, 9]) (by kernel_rfl) (by kernel_rfl) (by kernel_rfl)
    (Parts.cons open_24 (Parts.cons open_24 (Parts.cons (Opens.int Try.underlying21) (Parts.cons (Opens.string Try.underlying9) (Parts.cons (Opens.int Try.underlying2) (Parts.cons (Opens.int Try.underlying2) (Parts.cons (Opens.int Try.underlying2) (Parts.cons (Opens.int Try.underlying2) (Parts.cons (Opens.bool Try.underlying4) (Parts.cons (Opens.int Try.underlying33) (Parts.cons (Opens.slice Try.underlying34 (by kernel_rfl) open_63) (Parts.cons (Opens.slice Try.underlying34 (by kernel_rfl) open_63) (Parts.cons (Opens.string Try.underlying9) (Parts.one (Opens.string Try.underlying9)))))))))))))))) (fun x_ g_ => ⟨g_.1, g_.2.1, g_.2.2.1, g_.2.2.2.1, g_.2.2.2.2.1, g_.2.2.2.2.2.1, g_.2.2.2.2.2.2.1, g_.2.2.2.2.2.2.2.1, g_.2.2.2.2.2.2.2.2.2.1, ⟨g_.2.2.2.2.2.2.2.2.2.2.1.1, fun x_ hx_ => (g_.2.2.2.2.2.2.2.2.2.2.1.2 x_ hx_)⟩, ⟨g_.2.2.2.2.2.2.2.2.2.2.2.1.1, fun x_ hx_ => (g_.2.2.2.2.2.2.2.2.2.2.2.1.2 x_ hx_)⟩, g_.2.2.2.2.2.2.2.2.2.2.2.2.1, g_.2.2.2.2.2.2.2.2.2.2.2.2.2⟩)
set_option maxHeartbeats 1000000 in
set_option maxRecDepth 100000 in
theorem lifted (os : Os) (started : os.Started) (H : Type) (enc : TypeId × Value → H) :
    ReturnsInHanded {} Try.checked os 6 .any (Rows.fnCcAskSpec.pre6 enc Try.prog Try.f6 Rows.fnCcAskRow.domain false) (Rows.fnCcAskSpec.post enc Try.prog Try.f6 false true false false) := by
  refine returnsInHanded_of_change_sized (C := Try.checked) own started (by kernel_rfl) Try.func6
    (ChangeSpec.witness6 (enc := enc) (C := Try.checked) false ⟨#[], #[.int .u8 0, .agg #[.string ByteArray.empty, .slice none 0 0, .int .i32 0], .slice none 0 0, .slice none 0 0], []⟩ 8 (by kernel_rfl) (by kernel_rfl) (by kernel_rfl) (by kernel_rfl)) ?_
  intro W base args ds gs before hval0 hW hcnd hsz0 _
  have hsz : (DataW.weightsEach Try.prog (Try.f6.params.toList ++ Rows.fnCcAskSpec.plain.varTypes Try.prog) (ds ++ gs)).all (· ≤ reachBytes) = true := hsz0
  have hval : ∀ (j : Nat) t v, Try.f6.params[j]? = some t → args[j]? = some v → Value.okWide Try.prog W .any base t v := hval0
  have hW' := hW
  obtain ⟨p, q, hA0, hV, rfl, hfz, hnd⟩ := hW
  have hA : DataW.TrodAll enc Try.prog W 0 (fun _ => true) true Try.f6.params.toList args.toList ds p := hA0
  rw [Try.params6] at hA hval hsz
  obtain ⟨v0, vs0, d0, ds0, p0, q0, hargs, rfl, rfl, h0, r0⟩ := trodAll_cons hA
  obtain ⟨v1, vs1, d1, ds1, p1, q1, rfl, rfl, rfl, h1, r1⟩ := trodAll_cons r0
  obtain ⟨v2, vs2, d2, ds2, p2, q2, rfl, rfl, rfl, h2, r2⟩ := trodAll_cons r1
  obtain ⟨v3, vs3, d3, ds3, p3, q3, rfl, rfl, rfl, h3, r3⟩ := trodAll_cons r2
  obtain ⟨rfl, rfl, rfl⟩ := trodAll_nil r3
  obtain rfl : args = #[v0, v1, v2, v3] := by cases args; simp_all
  obtain ⟨rfl, rfl⟩ := trodVars_none hV
  obtain ⟨a0, rfl, rfl, rfl, g0⟩ := open_int Try.underlying5 (hval 0 5 v0 rfl rfl) h0
  have k1 := h1
  have lt1 : ∀ x ∈ p1, x.block < W.heap.size := by obtain ⟨m, hm⟩ := k1; exact DataW.trod_lt m _ _ _ hm
  obtain ⟨cs1, rfl, hcl1⟩ := okWide_struct Try.underlying24 (hval 1 24 v1 rfl rfl)
  obtain ⟨fuel1, hf1⟩ := h1
  obtain ⟨x1, hK1, og1⟩ := open_24 _ _ _ hf1
  obtain ⟨A1_1, c1_1, hcs1, hc1_1, hr1_1⟩ := k24_open hK1
  have hcs1' : cs1.toList = _ := hcs1
  obtain rfl : cs1 = #[.string x1.f0, .slice A1_1 x1.f1.length c1_1, .int .i32 x1.f2] := by rw [← Array.toArray_toList (xs := cs1), hcs1']
  have k2 := h2
  have lt2 : ∀ x ∈ p2, x.block < W.heap.size := by obtain ⟨m, hm⟩ := k2; exact DataW.trod_lt m _ _ _ hm
  obtain ⟨a2, len2, cap2, rfl⟩ := okWide_slice Try.underlying25 (hval 2 25 v2 rfl rfl)
  obtain ⟨fuel2, hf2⟩ := h2
  obtain ⟨l2, ⟨A2, c2, hcs2, hc2, hr2⟩, og2⟩ := (Opens.slice Try.underlying25 (by kernel_rfl) open_36) _ _ _ hf2
  simp [Value.cells] at hcs2
  obtain ⟨rfl, rfl, rfl⟩ := hcs2
  have k3 := h3
  have lt3 : ∀ x ∈ p3, x.block < W.heap.size := by obtain ⟨m, hm⟩ := k3; exact DataW.trod_lt m _ _ _ hm
  obtain ⟨a3, len3, cap3, rfl⟩ := okWide_slice Try.underlying22 (hval 3 22 v3 rfl rfl)
  obtain ⟨fuel3, hf3⟩ := h3
  obtain ⟨l3, ⟨A3, c3, hcs3, hc3, hr3⟩, og3⟩ := (Opens.slice Try.underlying22 (by kernel_rfl) (Opens.string Try.underlying9)) _ _ _ hf3
  simp [Value.cells] at hcs3
  obtain ⟨rfl, rfl, rfl⟩ := hcs3
  clear hA0 hval0 hsz0 hsz
  refine (laws_FnCcAsk.walk a0 x1.f0 _ _ x1.f1 x1.f2 _ _ l2 _ _ l3 W hr1_1 hc1_1 hr2 hc2 hr3 hc3 g0 og1.1 og1.2.1 og1.2.2 (⟨og2.1, fun x_ hx_ => (og2.2 x_ hx_)⟩) (⟨og3.1, fun x_ hx_ => (og3.2 x_ hx_)⟩)).mono fun e W' ⟨he, bel⟩ => ?_
  subst he
  exact ⟨_, rfl, _, _, _, [], _, [], hW', trodAll_mk1 (shut_bool Try.underlying4 _), (trodAll_cons_mk (shut_int Try.underlying5 g0) (trodAll_cons_mk (Below.trod laidOut (by kernel_rfl) (of_decide_eq_true (by kernel_rfl)) k1 bel lt1) (trodAll_cons_mk (Below.trod laidOut (by kernel_rfl) (of_decide_eq_true (by kernel_rfl)) k2 bel lt2) (trodAll_cons_mk (Below.trod laidOut (by kernel_rfl) (of_decide_eq_true (by kernel_rfl)) k3 bel lt3) trodAll_mk0)))), rfl, bel.frame _, fun h => by cases h⟩
theorem over : Rows.fnCcAskRow.holds Try.pinned (OpenSpec.ofChange Rows.fnCcAskSpec) :=
  OpenClaim.holds_of_wide 6 Try.f6 rfl rfl rfl rfl rfl rfl rfl ⟨rfl, rfl, rfl, rfl, rfl⟩ rfl rfl rfl rfl rfl (by kernel_rfl) Try.func6 (by kernel_rfl)
    (of_decide_eq_true (by kernel_rfl)) (by unfold Func.isWrapper; first | (rw [if_pos (by decide +kernel)]; kernel_rfl) | (rw [if_neg (by decide +kernel)]; exact ⟨rfl, rfl⟩))
    (fun os started H enc _ => lifted os started H enc)
theorem proved : Rows.FnCcAskSaid := over
#print axioms proved
end Go.Proofs.Ytnipcocllhfaoaa.fnCcAsk
namespace Go.Proofs.Ytnipcocllhfaoaa
/-- The row, under a short name, for the claim. -/
theorem fnCcAsk_holds : Rows.FnCcAskSaid := fnCcAsk.proved
end Go.Proofs.Ytnipcocllhfaoaa

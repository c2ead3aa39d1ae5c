/- The law pub-portress/laws.FnKtAgain returns true for every input, and each argument reads as it did: no condition. Written by pw.py, a program of this session. -/
import Derived.Test.YtcbbipdiahmelaaRows
import Derived.Test.YtcbbipdiahmelaaA1
import Derived.Test.YtcbbipdiahmelaaOpen
import Derived.WalkKit
import Derived.ProofKit
import Derived.OpenShut
import Derived.ShutString
import Derived.ChangeOld
import Derived.Below
import Derived.SizedLaws
import Derived.WideShapes
import Derived.Test.YtcbbipdiahmelaaWSized
namespace Go.Proofs.Ytcbbipdiahmelaa.fnKtAgain
open Go.ChangeShapes Go.WideShapes Go.ChangeAt Go.RowKit Go.Proofs.Ytcbbipdiahmelaa.A Go.Proofs.YtcbbipdiahmelaaW.PrintWords Go.Proofs.YtcbbipdiahmelaaW.Opens
open Go.ChangeMaps (open_string shut_string)
set_option linter.unusedVariables false
set_option linter.unusedSimpArgs false
theorem own : ownKnob Try.prog.godebug = none := by kernel_rfl
theorem laidOut : laidOutB Try.prog = true := by kernel_rfl
theorem open_25 {H : Type} {enc : TypeId × Value → H} {W : World} {base : Nat} {spare : Nat → Bool} {held : Bool} : Opens enc Try.prog W base spare held 25 k25 (fun x_ => (x_.f0.size ≤ maxLen) ∧ (x_.f1.length ≤ 9223372036854775807 ∧ ∀ y0_ : ByteArray, y0_ ∈ x_.f1 → y0_.size ≤ maxLen) ∧ ((Lit.int .i32 x_.f2).wf = true) ∧ ((Lit.int .i64 x_.f3).wf = true) ∧ ((Lit.int .u8 x_.f4).wf = true) ∧ ((Lit.int .u32 x_.f5).wf = true) ∧ ((Lit.int .i32 x_.f6).wf = true) ∧ (x_.f7.size ≤ maxLen)) :=
  Opens.imp (d := k25) (Opens.struct (d := (Kd.pair Kd.string (Kd.pair (Kd.slice 9 Kd.string) (Kd.pair (Kd.int .i32) (Kd.pair (Kd.int .i64) (Kd.pair (Kd.int .u8) (Kd.pair (Kd.int .u32) (Kd.pair (Kd.int .i32) Kd.string)))))))) (fun x_ : S25 => (x_.f0, x_.f1, x_.f2, x_.f3, x_.f4, x_.f5, x_.f6, x_.f7)) (fun p_ => ⟨p_.1, p_.2.1, p_.2.2.1, p_.2.2.2.1, p_.2.2.2.2.1, p_.2.2.2.2.2.1, p_.2.2.2.2.2.2.1, p_.2.2.2.2.2.2.2⟩) (fun _ => rfl) Try.underlying25 (ts := [9, 22, 21, 2, 5, 23, 21, 9]) (by kernel_rfl) (by kernel_rfl) (by kernel_rfl)
    (Parts.cons (Opens.string Try.underlying9) (Parts.cons (Opens.slice Try.underlying22 (by kernel_rfl) (Opens.string Try.underlying9)) (Parts.cons (Opens.int Try.underlying21) (Parts.cons (Opens.int Try.underlying2) (Parts.cons (Opens.int Try.underlying5) (Parts.cons (Opens.int Try.underlying23) (Parts.cons (Opens.int Try.underlying21) (Parts.one (Opens.string Try.underlying9)))))))))) (fun x_ g_ => ⟨g_.1, ⟨g_.2.1.1, fun x_ hx_ => (g_.2.1.2 x_ hx_)⟩, g_.2.2.1, g_.2.2.2.1, g_.2.2.2.2.1, g_.2.2.2.2.2.1, g_.2.2.2.2.2.2.1, g_.2.2.2.2.2.2.2⟩)
set_option maxHeartbeats 1000000 in
set_option maxRecDepth 100000 in
theorem lifted (os : Os) (started : os.Started) (H : Type) (enc : TypeId × Value → H) :
    ReturnsInHanded {} Try.checked os 7 .any (Rows.fnKtAgainSpec.pre6 enc Try.prog Try.f7 Rows.fnKtAgainRow.domain false) (Rows.fnKtAgainSpec.post enc Try.prog Try.f7 false true false false) := by
  refine returnsInHanded_of_change_sized (C := Try.checked) own started (by kernel_rfl) Try.func7
    (ChangeSpec.witness6 (enc := enc) (C := Try.checked) false ⟨#[], #[.slice none 0 0, .slice none 0 0, .slice none 0 0], []⟩ 8 (by kernel_rfl) (by kernel_rfl) (by kernel_rfl) (by kernel_rfl)) ?_
  intro W base args ds gs before hval0 hW hcnd hsz0 _
  have hsz : (DataW.weightsEach Try.prog (Try.f7.params.toList ++ Rows.fnKtAgainSpec.plain.varTypes Try.prog) (ds ++ gs)).all (· ≤ reachBytes) = true := hsz0
  have hval : ∀ (j : Nat) t v, Try.f7.params[j]? = some t → args[j]? = some v → Value.okWide Try.prog W .any base t v := hval0
  have hW' := hW
  obtain ⟨p, q, hA0, hV, rfl, hfz, hnd⟩ := hW
  have hA : DataW.TrodAll enc Try.prog W 0 (fun _ => true) true Try.f7.params.toList args.toList ds p := hA0
  rw [Try.params7] at hA hval hsz
  obtain ⟨v0, vs0, d0, ds0, p0, q0, hargs, rfl, rfl, h0, r0⟩ := trodAll_cons hA
  obtain ⟨v1, vs1, d1, ds1, p1, q1, rfl, rfl, rfl, h1, r1⟩ := trodAll_cons r0
  obtain ⟨v2, vs2, d2, ds2, p2, q2, rfl, rfl, rfl, h2, r2⟩ := trodAll_cons r1
  obtain ⟨rfl, rfl, rfl⟩ := trodAll_nil r2
  obtain rfl : args = #[v0, v1, v2] := by cases args; simp_all
  obtain ⟨rfl, rfl⟩ := trodVars_none hV
  have k0 := h0
  have lt0 : ∀ x ∈ p0, x.block < W.heap.size := by obtain ⟨m, hm⟩ := k0; exact DataW.trod_lt m _ _ _ hm
  obtain ⟨a0, len0, cap0, rfl⟩ := okWide_slice Try.underlying28 (hval 0 28 v0 rfl rfl)
  obtain ⟨fuel0, hf0⟩ := h0
  obtain ⟨l0, ⟨A0, c0, hcs0, hc0, hr0⟩, og0⟩ := (Opens.slice Try.underlying28 (by kernel_rfl) open_25) _ _ _ hf0
  simp [Value.cells] at hcs0
  obtain ⟨rfl, rfl, rfl⟩ := hcs0
  have k1 := h1
  have lt1 : ∀ x ∈ p1, x.block < W.heap.size := by obtain ⟨m, hm⟩ := k1; exact DataW.trod_lt m _ _ _ hm
  obtain ⟨a1, len1, cap1, rfl⟩ := okWide_slice Try.underlying35 (hval 1 35 v1 rfl rfl)
  obtain ⟨fuel1, hf1⟩ := h1
  obtain ⟨l1, ⟨A1, c1, hcs1, hc1, hr1⟩, og1⟩ := (Opens.slice Try.underlying35 (by kernel_rfl) (Opens.int Try.underlying5)) _ _ _ hf1
  simp [Value.cells] at hcs1
  obtain ⟨rfl, rfl, rfl⟩ := hcs1
  have k2 := h2
  have lt2 : ∀ x ∈ p2, x.block < W.heap.size := by obtain ⟨m, hm⟩ := k2; exact DataW.trod_lt m _ _ _ hm
  obtain ⟨a2, len2, cap2, rfl⟩ := okWide_slice Try.underlying37 (hval 2 37 v2 rfl rfl)
  obtain ⟨fuel2, hf2⟩ := h2
  obtain ⟨l2, ⟨A2, c2, hcs2, hc2, hr2⟩, og2⟩ := (Opens.slice Try.underlying37 (by kernel_rfl) (Opens.bool Try.underlying4)) _ _ _ hf2
  simp [Value.cells] at hcs2
  obtain ⟨rfl, rfl, rfl⟩ := hcs2
  clear hA0 hval0 hsz0 hsz
  refine (laws_FnKtAgain.walk _ _ l0 _ _ l1 _ _ l2 W hr0 hc0 hr1 hc1 hr2 hc2 (⟨og0.1, fun x_ hx_ => (og0.2 x_ hx_)⟩) (⟨og1.1, fun x_ hx_ => (og1.2 x_ hx_)⟩) og2.1).mono fun e W' ⟨he, bel⟩ => ?_
  subst he
  exact ⟨_, rfl, _, _, _, [], _, [], hW', trodAll_mk1 (shut_bool Try.underlying4 _), (trodAll_cons_mk (Below.trod laidOut (by kernel_rfl) (of_decide_eq_true (by kernel_rfl)) k0 bel lt0) (trodAll_cons_mk (Below.trod laidOut (by kernel_rfl) (of_decide_eq_true (by kernel_rfl)) k1 bel lt1) (trodAll_cons_mk (Below.trod laidOut (by kernel_rfl) (of_decide_eq_true (by kernel_rfl)) k2 bel lt2) trodAll_mk0))), rfl, bel.frame _, fun h => by cases h⟩
theorem over : Rows.fnKtAgainRow.holds Try.pinned (OpenSpec.ofChange Rows.fnKtAgainSpec) :=
  OpenClaim.holds_of_wide 7 Try.f7 rfl rfl rfl rfl rfl rfl rfl ⟨rfl, rfl, rfl, rfl, rfl⟩ rfl rfl rfl rfl rfl (by kernel_rfl) Try.func7 (by kernel_rfl)
    (of_decide_eq_true (by kernel_rfl)) (by unfold Func.isWrapper; first | (rw [if_pos (by decide +kernel)]; kernel_rfl) | (rw [if_neg (by decide +kernel)]; exact ⟨rfl, rfl⟩))
    (fun os started H enc _ => lifted os started H enc)
theorem proved : Rows.FnKtAgainSaid := over
#print axioms proved
end Go.Proofs.Ytcbbipdiahmelaa.fnKtAgain
namespace Go.Proofs.Ytcbbipdiahmelaa
/-- The row, under a short name, for the claim. -/
theorem fnKtAgain_holds : Rows.FnKtAgainSaid := fnKtAgain.proved
end Go.Proofs.Ytcbbipdiahmelaa

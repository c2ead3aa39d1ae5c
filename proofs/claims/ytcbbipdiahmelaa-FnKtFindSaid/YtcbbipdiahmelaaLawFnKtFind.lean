/- The law pub-portress/laws.FnKtFind returns true for every input, and each argument reads as it did: no condition. Written by pw.py, a program of this session. -/
import Derived.Test.YtcbbipdiahmelaaRows
import Derived.Test.YtcbbipdiahmelaaA1
import Derived.Test.YtcbbipdiahmelaaOpen
import Derived.WalkKit
import Derived.ProofKit
import Derived.OpenShut
import Derived.ShutString
import Derived.ChangeOld
import Derived.Below
import Derived.SizedLaws
import Derived.WideShapes
import Derived.Test.YtcbbipdiahmelaaWSized
namespace Go.Proofs.Ytcbbipdiahmelaa.fnKtFind
open Go.ChangeShapes Go.WideShapes Go.ChangeAt Go.RowKit Go.Proofs.Ytcbbipdiahmelaa.A Go.Proofs.YtcbbipdiahmelaaW.PrintWords Go.Proofs.YtcbbipdiahmelaaW.Opens
open Go.ChangeMaps (open_string shut_string)
set_option linter.unusedVariables false
set_option linter.unusedSimpArgs false
theorem own : ownKnob Try.prog.godebug = none := by kernel_rfl
theorem laidOut : laidOutB Try.prog = true := by kernel_rfl
theorem open_25 {H : Type} {enc : TypeId × Value → H} {W : World} {base : Nat} {spare : Nat → Bool} {held : Bool} : Opens enc Try.prog W base spare held 25 k25 (fun x_ => (x_.f0.size ≤ maxLen) ∧ (x_.f1.length ≤ 9223372036854775807 ∧ ∀ y0_ : ByteArray, y0_ ∈ x_.f1 → y0_.size ≤ maxLen) ∧ ((Lit.int .i32 x_.f2).wf = true) ∧ ((Lit.int .i64 x_.f3).wf = true) ∧ ((Lit.int .u8 x_.f4).wf = true) ∧ ((Lit.int .u32 x_.f5).wf = true) ∧ ((Lit.int .i32 x_.f6).wf = true) ∧ (x_.f7.size ≤ maxLen)) :=
  Opens.imp (d := k25) (Opens.struct (d := (Kd.pair Kd.string (Kd.pair (Kd.slice 9 Kd.string) (Kd.pair (Kd.int .i32) (Kd.pair (Kd.int .i64) (Kd.pair (Kd.int .u8) (Kd.pair (Kd.int .u32) (Kd.pair (Kd.int .i32) Kd.string)))))))) (fun x_ : S25 => (x_.f0, x_.f1, x_.f2, x_.f3, x_.f4, x_.f5, x_.f6, x_.f7)) (fun p_ => ⟨p_.1, p_.2.1, p_.2.2.1, p_.2.2.2.1, p_.2.2.2.2.1, p_.2.2.2.2.2.1, p_.2.2.2.2.2.2.1, p_.2.2.2.2.2.2.2⟩) (fun _ => rfl) Try.underlying25 (ts := [9, 22, 21, 2, 5, 23, 21, 9]) (by kernel_rfl) (by kernel_rfl) (by kernel_rfl)
    (Parts.cons (Opens.string Try.underlying9) (Parts.cons (Opens.slice Try.underlying22 (by kernel_rfl) (Opens.string Try.underlying9)) (Parts.cons (Opens.int Try.underlying21) (Parts.cons (Opens.int Try.underlying2) (Parts.cons (Opens.int Try.underlying5) (Parts.cons (Opens.int Try.underlying23) (Parts.cons (Opens.int Try.underlying21) (Parts.one (Opens.string Try.underlying9)))))))))) (fun x_ g_ => ⟨g_.1, ⟨g_.2.1.1, fun x_ hx_ => (g_.2.1.2 x_ hx_)⟩, g_.2.2.1, g_.2.2.2.1, g_.2.2.2.2.1, g_.2.2.2.2.2.1, g_.2.2.2.2.2.2.1, g_.2.2.2.2.2.2.2⟩)
set_option maxHeartbeats 1000000 in
set_option maxRecDepth 100000 in
theorem lifted (os : Os) (started : os.Started) (H : Type) (enc : TypeId × Value → H) :
    ReturnsInHanded {} Try.checked os 6 .any (Rows.fnKtFindSpec.pre6 enc Try.prog Try.f6 Rows.fnKtFindRow.domain false) (Rows.fnKtFindSpec.post enc Try.prog Try.f6 false true false false) := by
  refine returnsInHanded_of_change_sized (C := Try.checked) own started (by kernel_rfl) Try.func6
    (ChangeSpec.witness6 (enc := enc) (C := Try.checked) false ⟨#[], #[.slice none 0 0, .slice none 0 0, .string ByteArray.empty, .int .u16 0, .int .i32 0], []⟩ 8 (by kernel_rfl) (by kernel_rfl) (by kernel_rfl) (by kernel_rfl)) ?_
  intro W base args ds gs before hval0 hW hcnd hsz0 _
  have hsz : (DataW.weightsEach Try.prog (Try.f6.params.toList ++ Rows.fnKtFindSpec.plain.varTypes Try.prog) (ds ++ gs)).all (· ≤ reachBytes) = true := hsz0
  have hval : ∀ (j : Nat) t v, Try.f6.params[j]? = some t → args[j]? = some v → Value.okWide Try.prog W .any base t v := hval0
  have hW' := hW
  obtain ⟨p, q, hA0, hV, rfl, hfz, hnd⟩ := hW
  have hA : DataW.TrodAll enc Try.prog W 0 (fun _ => true) true Try.f6.params.toList args.toList ds p := hA0
  rw [Try.params6] at hA hval hsz
  obtain ⟨v0, vs0, d0, ds0, p0, q0, hargs, rfl, rfl, h0, r0⟩ := trodAll_cons hA
  obtain ⟨v1, vs1, d1, ds1, p1, q1, rfl, rfl, rfl, h1, r1⟩ := trodAll_cons r0
  obtain ⟨v2, vs2, d2, ds2, p2, q2, rfl, rfl, rfl, h2, r2⟩ := trodAll_cons r1
  obtain ⟨v3, vs3, d3, ds3, p3, q3, rfl, rfl, rfl, h3, r3⟩ := trodAll_cons r2
  obtain ⟨v4, vs4, d4, ds4, p4, q4, rfl, rfl, rfl, h4, r4⟩ := trodAll_cons r3
  obtain ⟨rfl, rfl, rfl⟩ := trodAll_nil r4
  obtain rfl : args = #[v0, v1, v2, v3, v4] := by cases args; simp_all
  obtain ⟨rfl, rfl⟩ := trodVars_none hV
  have k0 := h0
  have lt0 : ∀ x ∈ p0, x.block < W.heap.size := by obtain ⟨m, hm⟩ := k0; exact DataW.trod_lt m _ _ _ hm
  obtain ⟨a0, len0, cap0, rfl⟩ := okWide_slice Try.underlying28 (hval 0 28 v0 rfl rfl)
  obtain ⟨fuel0, hf0⟩ := h0
  obtain ⟨l0, ⟨A0, c0, hcs0, hc0, hr0⟩, og0⟩ := (Opens.slice Try.underlying28 (by kernel_rfl) open_25) _ _ _ hf0
  simp [Value.cells] at hcs0
  obtain ⟨rfl, rfl, rfl⟩ := hcs0
  have k1 := h1
  have lt1 : ∀ x ∈ p1, x.block < W.heap.size := by obtain ⟨m, hm⟩ := k1; exact DataW.trod_lt m _ _ _ hm
  obtain ⟨a1, len1, cap1, rfl⟩ := okWide_slice Try.underlying22 (hval 1 22 v1 rfl rfl)
  obtain ⟨fuel1, hf1⟩ := h1
  obtain ⟨l1, ⟨A1, c1, hcs1, hc1, hr1⟩, og1⟩ := (Opens.slice Try.underlying22 (by kernel_rfl) (Opens.string Try.underlying9)) _ _ _ hf1
  simp [Value.cells] at hcs1
  obtain ⟨rfl, rfl, rfl⟩ := hcs1
  obtain ⟨a2, rfl, rfl, rfl, y2⟩ := open_string Try.underlying9 (hval 2 9 v2 rfl rfl) h2
  have g2 : a2.size ≤ 140737488351232 := by
    have z := sized_string hsz (j := 2) (t := 9) rfl rfl
    rw [Array.length_toList] at z
    exact z
  obtain ⟨a3, rfl, rfl, rfl, g3⟩ := open_int Try.underlying26 (hval 3 26 v3 rfl rfl) h3
  obtain ⟨a4, rfl, rfl, rfl, g4⟩ := open_int Try.underlying21 (hval 4 21 v4 rfl rfl) h4
  clear hA0 hval0 hsz0 hsz
  refine (laws_FnKtFind.walk _ _ l0 _ _ l1 a2 a3 a4 W hr0 hc0 hr1 hc1 (⟨og0.1, fun x_ hx_ => (og0.2 x_ hx_)⟩) (⟨og1.1, fun x_ hx_ => (og1.2 x_ hx_)⟩) g2 g3 g4).mono fun e W' ⟨he, bel⟩ => ?_
  subst he
  exact ⟨_, rfl, _, _, _, [], _, [], hW', trodAll_mk1 (shut_bool Try.underlying4 _), (trodAll_cons_mk (Below.trod laidOut (by kernel_rfl) (of_decide_eq_true (by kernel_rfl)) k0 bel lt0) (trodAll_cons_mk (Below.trod laidOut (by kernel_rfl) (of_decide_eq_true (by kernel_rfl)) k1 bel lt1) (trodAll_cons_mk (shut_string Try.underlying9 y2) (trodAll_cons_mk (shut_int Try.underlying26 g3) (trodAll_cons_mk (shut_int Try.underlying21 g4) trodAll_mk0))))), rfl, bel.frame _, fun h => by cases h⟩
theorem over : Rows.fnKtFindRow.holds Try.pinned (OpenSpec.ofChange Rows.fnKtFindSpec) :=
  OpenClaim.holds_of_wide 6 Try.f6 rfl rfl rfl rfl rfl rfl rfl ⟨rfl, rfl, rfl, rfl, rfl⟩ rfl rfl rfl rfl rfl (by kernel_rfl) Try.func6 (by kernel_rfl)
    (of_decide_eq_true (by kernel_rfl)) (by unfold Func.isWrapper; first | (rw [if_pos (by decide +kernel)]; kernel_rfl) | (rw [if_neg (by decide +kernel)]; exact ⟨rfl, rfl⟩))
    (fun os started H enc _ => lifted os started H enc)
theorem proved : Rows.FnKtFindSaid := over
#print axioms proved
end Go.Proofs.Ytcbbipdiahmelaa.fnKtFind
namespace Go.Proofs.Ytcbbipdiahmelaa
/-- The row, under a short name, for the claim. -/
theorem fnKtFind_holds : Rows.FnKtFindSaid := fnKtFind.proved
end Go.Proofs.Ytcbbipdiahmelaa

/- Go functions of this seat come to the answers of the Lean functions that stand here ('.calls'), under what each theorem states and nothing else. Written by pw.py, a program of this session, with texts of its own. -/
import Derived.Test.YtnipcocllhfaoaaA0
import Derived.Test.YtnipcocllhfaoaaA2
import Derived.Test.YtnipcocllhfaoaaE0
import Derived.Test.YtnipcocllhfaoaaB6
import Derived.Test.YtnipcocllhfaoaaE0
namespace Go.Proofs.Ytnipcocllhfaoaa.A
open Go.RowKit Go.Proofs.YtnipcocllhfaoaaW.PrintWords Go.Proofs.YtnipcocllhfaoaaW.PrintLast
open Go.Proofs.Ytnipcocllhfaoaa.B (gate_callee gate_builtin)
set_option linter.unusedVariables false
set_option linter.unusedSimpArgs false
set_option maxRecDepth 100000

/-! ### spec_CredsRight: function 10 -/
-- EXT rounds=0 making=1
-- NEEDS 9 26 8
-- INFO 63
def spec_CredsRight.name (x : S24) : Bool := decide (x.f0.size ≤ 200) && (decide (x.f1.length ≤ 8) && x.f1.all fun s => decide (s.size ≤ 200))
def spec_CredsRight.kind (n : Int) : Bool := decide (-32768 ≤ n) && decide (n < 32768)
def spec_CredsRight.time (n : Int) : Bool := decide (0 ≤ n) && decide (n < 2147483648)
def spec_CredsRight.part (p : S63) : Bool := spec_CredsRight.kind p.f0 && decide (p.f1.size ≤ 100)
def spec_CredsRight.pre (c : S36) : Bool := spec_CredsRight.name c.f0 && (spec_CredsRight.name c.f1 && (spec_CredsRight.kind c.f2 && (decide (c.f3.size ≤ 500) && (decide (c.f12.size ≤ 500) && (decide (c.f13.size ≤ 500) && (decide (c.f10.length ≤ 10) && decide (c.f11.length ≤ 10)))))))
def spec_CredsRight.cred (c : S36) : Bool := spec_CredsRight.pre c && ([c.f4, c.f5, c.f6, c.f7].all spec_CredsRight.time && (c.f10 ++ c.f11).all spec_CredsRight.part)
def spec_CredsRight.f (l0 : List S36) : Option Bool := some (decide (l0.length ≤ 12) && l0.all spec_CredsRight.cred)
theorem spec_CredsRight.l9 (xs : List ByteArray) (h : xs.length ≤ 9223372036854775807) : ∀ (d k j : Nat), xs.length - j = d → j ≤ xs.length → d < k → spec_CcNameRight.l0 k xs (xs.length : Int) (j : Int) = some ((xs.drop j).all fun s => decide (s.size ≤ 200)) := by
  intro d
  induction d with
  | zero =>
    intro k j hd hj hk
    obtain ⟨k, rfl⟩ : ∃ m, k = m + 1 := ⟨k - 1, by omega⟩
    simp only [spec_CcNameRight.l0]
    rw [if_neg (by omega), show j = xs.length from by omega, List.drop_length]
    rfl
  | succ d ih =>
    intro k j hd hj hk
    obtain ⟨k, rfl⟩ : ∃ m, k = m + 1 := ⟨k - 1, by omega⟩
    have hlt : j < xs.length := by omega
    have hw : wrap64 ((j : Int) + 1) = ((j + 1 : Nat) : Int) := by unfold wrap64; omega
    have hrd : rdOf ByteArray.empty xs (j : Int) = xs[j] := by
      unfold rdOf
      rw [Int.toNat_natCast, List.getD_eq_getElem?_getD, List.getElem?_eq_getElem hlt]
      rfl
    simp only [spec_CcNameRight.l0]
    rw [if_pos (by omega), if_pos (by omega), if_pos (by omega), hrd, hw, ih k (j + 1) (by omega) (by omega) (by omega), List.drop_eq_getElem_cons hlt, List.all_cons]
    by_cases h2 : (xs[j].size : Int) > 200
    · rw [if_pos h2, show decide (xs[j].size ≤ 200) = false from decide_eq_false (by omega)]; rfl
    · rw [if_neg h2, show decide (xs[j].size ≤ 200) = true from decide_eq_true (by omega)]; rfl
theorem spec_CredsRight.f9 (x : S24) (h : x.f1.length ≤ 9223372036854775807) : spec_CcNameRight.f (x.f1.length + 2) x.f0 x.f1 x.f2 = some (spec_CredsRight.name x) := by
  have h0 := spec_CredsRight.l9 x.f1 h x.f1.length (x.f1.length + 1) 0 (by omega) (by omega) (by omega)
  rw [List.drop_zero] at h0
  unfold spec_CcNameRight.f spec_CredsRight.name
  simp only [spec_CcNameRight.j0]
  by_cases h1 : (x.f0.size : Int) > 200
  · rw [if_pos h1, if_pos trivial, show decide (x.f0.size ≤ 200) = false from decide_eq_false (by omega)]; rfl
  · rw [if_neg h1, show decide (x.f0.size ≤ 200) = true from decide_eq_true (by omega)]
    by_cases h2 : (x.f1.length : Int) > 8
    · rw [if_pos (decide_eq_true h2), show decide (x.f1.length ≤ 8) = false from decide_eq_false (by omega)]; rfl
    · rw [if_neg (by simpa using h2), show decide (x.f1.length ≤ 8) = true from decide_eq_true (by omega)]
      exact h0
theorem spec_CredsRight.name_any (x : S24) (A : Option Addr) (c : Nat) (w : World) (h : Kd.C Kd.string w A x.f1.length x.f1) (hc : x.f1.length ≤ c) :
    Calls Try.prog 9 #[.agg #[.string x.f0, .slice A x.f1.length c, .int .i32 x.f2]] w fun e w' => e = .returned (.bool (spec_CredsRight.name x)) ∧ Below w.heap.size w w' :=
  spec_CcNameRight.calls _ x.f0 A c x.f1 x.f2 _ w h hc (spec_CredsRight.f9 x (Kd.C_max h))
set_option maxHeartbeats 4000000 in
theorem spec_CredsRight.kind_any (n : Int) (w : World) : Calls Try.prog 25 #[.int .i32 n] w fun e w' => e = .returned (.bool (spec_CredsRight.kind n)) ∧ Below w.heap.size w w' := by
  unfold spec_CredsRight.kind
  by_cases h1 : -32768 ≤ n
  · have e1 : decide (-32768 ≤ n) = true := decide_eq_true h1
    rw [e1]
    clear h1
    go_enter Try.func25, Try.ntmps25
    go_wp2
    go_ret
    exact ⟨rfl, Below.refl _ _⟩
  · have e1 : decide (-32768 ≤ n) = false := decide_eq_false h1
    rw [e1]
    clear h1
    go_enter Try.func25, Try.ntmps25
    go_wp2
    go_ret
    exact ⟨rfl, Below.refl _ _⟩
-- BY gen_10.py
theorem spec_CredsRight.fail {c : S36} {l : List S36} {r : Bool} (h : (c :: l).all spec_CredsRight.cred = r) (hp : spec_CredsRight.cred c = false) : r = false := by
  rw [← h, List.all_cons, hp, Bool.false_and]
theorem spec_CredsRight.times (c : S36) (m : Nat) (hm : m < 4) : [c.f4, c.f5, c.f6, c.f7].drop m = [c.f4, c.f5, c.f6, c.f7].getD m 0 :: [c.f4, c.f5, c.f6, c.f7].drop (m + 1) := by
  rcases m with _ | _ | _ | _ | m
  iterate 4 rfl
  omega
theorem spec_CredsRight.time_cell (c : S36) (m : Nat) (hm : m < 4) : (#[Value.int .i64 c.f4, .int .i64 c.f5, .int .i64 c.f6, .int .i64 c.f7])[m]? = some (.int .i64 ([c.f4, c.f5, c.f6, c.f7].getD m 0)) := by
  rcases m with _ | _ | _ | _ | m
  iterate 4 rfl
  omega
theorem pw_drop63 (l : List S63) (j : Nat) (h : j < l.length) : l.drop j = l.getD j z63 :: l.drop (j + 1) := by
  rw [List.drop_eq_getElem_cons h, List.getD_eq_getElem?_getD, List.getElem?_eq_getElem h]
  rfl
/-- A part of a row: its cells. -/
theorem pw_row63 {w : World} {A : Option Addr} {n : Nat} {xs : List S63} (h : Kd.C k63 w A n xs) (j : Nat) (hj : j < n) : ∃ ad : Addr, A = some ad ∧ ∀ i u, [Value.int .i32 (xs.getD j z63).f0, .string (xs.getD j z63).f1][i]? = some u → w.cell? ((ad.add (j * 2)).add i) = some u := by
  obtain ⟨ad, c, e, _, hK, hc⟩ := Kd.C_get h z63 (j : Int) (by omega) (by omega)
  rw [Int.toNat_natCast] at hK hc
  obtain rfl := k63_open hK
  exact ⟨ad, e, fun i u hu => by rw [add_add]; exact hc i u hu⟩
theorem pw_size63 : (Try.prog.info? 63).map (·.size) = some 2 := by kernel_rfl
set_option maxHeartbeats 16000000 in
theorem spec_CredsRight.calls (A0 : Option Addr) (c0 : Nat) (l0 : List (S36)) (r : Bool) (w : World) (hr0 : Kd.C k36 w A0 l0.length l0) (hc0 : l0.length ≤ c0) (h : spec_CredsRight.f l0 = some r) :
    Calls Try.prog 10 #[.slice A0 l0.length c0] w fun e w' => e = .returned (.bool r) ∧ Below w.heap.size w w' := by
  have HR0 := Aside0.mk hr0
  obtain rfl := Option.some.inj h
  clear hr0 hc0 h
  by_cases hs : l0.length ≤ 12
  case neg =>
    have c2b0 : decide (12 < (l0.length : Int)) = true := decide_eq_true (by omega)
    have c2b1 : decide (12 < l0.length) = true := decide_eq_true (by omega)
    rw [show decide (l0.length ≤ 12) = false from decide_eq_false hs, Bool.false_and]
    clear hs
    go_enter Try.func10, Try.ntmps10
    go_wp2
    go_ret
    exact ⟨rfl, Below.refl _ _⟩
  rw [show decide (l0.length ≤ 12) = true from decide_eq_true hs, Bool.true_and]
  obtain ⟨r, hr⟩ : ∃ r, l0.all spec_CredsRight.cred = r := ⟨_, rfl⟩
  rw [hr]
  have HH := Aside0.mk hr
  clear hr
  go_enter Try.func10, Try.ntmps10
  go_wp2
  go_loopw [15] (fun i wr => ∃ (j : Nat), j ≤ l0.length ∧ i = .int .i64 j ∧ Aside0 ((l0.drop j).all spec_CredsRight.cred = r) ∧ Aside0 (Below w.heap.size w wr)) (fun i _ => l0.length - (intOf i).toNat)
  case atStart => exact ⟨0, Nat.zero_le _, rfl, HH, ⟨Below.refl _ _⟩⟩
  clear HH
  obtain ⟨j, hj, rfl, HH, BL⟩ := hrel
  by_cases hlt : j < l0.length
  case neg =>
    obtain rfl : j = l0.length := by omega
    have hnl : ¬ ((l0.length : Int) < (l0.length : Int)) := by omega
    have hr : r = true := by have := HH.out; rw [List.drop_length] at this; exact this.symm
    subst hr
    clear HH hj hlt
    go_wp2
    go_ret
    exact ⟨rfl, BL.out⟩
  have hlt' : (j : Int) < (l0.length : Int) := by omega
  have hj0 : (0 : Int) ≤ (j : Int) := by omega
  obtain ⟨ad, X1, c1, X4, c4, X14, c14, X15, c15, rfl, hcells, m1, g1, m4, g4, m14, g14, m15, g15⟩ := pw_row36 (Kd.C_below HR0.out BL.out) j hlt
  have hh := HH.out
  rw [pw_drop36 l0 j hlt] at hh
  clear HH
  generalize l0.getD j z36 = c at *
  have HL := Aside0.mk (And.intro m1 (And.intro m4 (And.intro m14 m15)))
  have G1 := Aside0.mk g1
  have G4 := Aside0.mk g4
  have G14 := Aside0.mk g14
  have G15 := Aside0.mk g15
  have HH := Aside0.mk hh
  clear hh m1 m4 m14 m15 g1 g4 g14 g15
  obtain ⟨cs, hcs⟩ : ∃ x : Array Value, x = #[Value.string c.f0.f0, .slice X1 c.f0.f1.length c1, .int .i32 c.f0.f2, .string c.f1.f0, .slice X4 c.f1.f1.length c4, .int .i32 c.f1.f2, .int .i32 c.f2, .string c.f3, .int .i64 c.f4, .int .i64 c.f5, .int .i64 c.f6, .int .i64 c.f7, .bool c.f8, .int .u32 c.f9, .slice X14 c.f10.length c14, .slice X15 c.f11.length c15, .string c.f12, .string c.f13] := ⟨_, rfl⟩
  have HS2 := Aside0.mk (show cs.size = 18 ∧ cs.all (·.oneCell') = true from by subst hcs; exact ⟨rfl, by simp [Value.oneCell']⟩)
  have HC2 := Aside0.mk (show (∀ i u, cs.toList[i]? = some u → wr.cell? ((ad.add (j * 18)).add i) = some u) ∧ cs.toList.length = 18 from by subst hcs; exact ⟨hcells, rfl⟩)
  have HCS := Aside0.mk hcs
  clear hcs hcells
  go_upto_region 7 with (first
    | ((with_reducible refine gate_dst (N := 18) rfl ?_); refine B.load_cells_event ?hg (N := 18) ?hd 36 (.tmp 17) (ad.add (j * 18)) cs.toList _ ?ho ?hx HC2.out.1 Try.underlying36 ?hq ?hi ?_; (case hg => rfl); (case hd => rfl); (case ho => rfl); (case hx => first | rfl | (go_simp; done)); (case hq => rfl); (case hi => exact pw_size36.trans (congrArg some HC2.out.2.symm)))
    | ((with_reducible refine gate_dst (N := 5) rfl ?_); refine box_event ?hg (N := 5) ?hd (cs := pw_zero36) (t := 36) ?hr ?_; (case hd => rfl); (case hg => rfl); (case hr => first | (go_simp; done) | (go_simp; rfl)); intro gb hgb w1 hbox hb; have HBX := Aside0.mk hbox; have HBB := Aside0.mk hb; have HGB := Aside0.mk (show wr.heap.size ≤ gb from by rw [hgb]; exact Nat.le_refl _); clear hbox hb hgb)
    | ((with_reducible refine gate_store (t := 36) (p := 5) (v := .tmp 18) rfl ?_); refine B.store_event ?hg 36 (.tmp 5) (.tmp 18) ?ho gb cs ?hx ?hy 36 _ HBX.out ?hi ?hl HS2.out.2 ?_; (case hg => rfl); (case ho => rfl); (case hx => first | rfl | (go_simp; done)); (case hy => first | (simp only [Array.toArray_toList]; rfl) | (go_simp; done)); (case hi => exact pw_size36.trans (congrArg some HS2.out.1.symm)); (case hl => exact HS2.out.1.symm); intro w2 hb2 hbl2 hsz2 hot2; have HB2 := Aside0.mk hb2; have HBL2 := Aside0.mk (hbl2 wr HBB.out HGB.out); clear hb2 hbl2 hsz2 hot2)
    | fail)
  clear HBB HBX HC2 HS2
  have hb2 := HB2.out
  rw [HCS.out] at hb2
  have HB2 := Aside0.mk hb2
  clear hb2 HCS
  -- REGION 7
  have BL2 := Aside0.mk (below_step BL.out HBL2.out)
  obtain ⟨b1, hb1⟩ : ∃ b, spec_CredsRight.name c.f0 = b := ⟨_, rfl⟩
  obtain ⟨b2, hb2⟩ : ∃ b, spec_CredsRight.name c.f1 = b := ⟨_, rfl⟩
  obtain ⟨b3, hb3⟩ : ∃ b, spec_CredsRight.kind c.f2 = b := ⟨_, rfl⟩
  have n1 := spec_CredsRight.name_any c.f0 X1 c1 w2 (Kd.C_below G1.out HBL2.out) HL.out.1
  rw [hb1] at n1
  have N1 := Aside0.mk n1
  have E1 := Aside0.mk hb1
  have E2 := Aside0.mk hb2
  have E3 := Aside0.mk hb3
  clear n1 hb1 hb2 hb3
  have q0 : w2.cell? ⟨gb, 0, none⟩ = some (.string c.f0.f0) := (blk_cell HB2.out 0).trans rfl
  have q1 : w2.cell? ⟨gb, 1, none⟩ = some (.slice X1 c.f0.f1.length c1) := (blk_cell HB2.out 1).trans rfl
  have q2 : w2.cell? ⟨gb, 2, none⟩ = some (.int .i32 c.f0.f2) := (blk_cell HB2.out 2).trans rfl
  go_wp2_with fail
  refine N1.out.mono ?_
  rintro e w3 ⟨rfl, hb⟩
  have HB3 := Aside0.mk (blk_below HB2.out hb)
  have HBL3 := Aside0.mk (below_step HBL2.out hb)
  have BL3 := Aside0.mk (below_step BL2.out hb)
  clear hb HB2 BL2 HBL2 N1
  clear q0 q1 q2
  cases b1 with
  | false =>
    have hr := spec_CredsRight.fail HH.out (by simp only [spec_CredsRight.cred, spec_CredsRight.pre, E1.out, Bool.false_and, Bool.and_false, Bool.true_and])
    subst hr
    clear HH
    go_wp2
    go_ret
    exact ⟨rfl, BL3.out⟩
  | true =>
  have n2 := spec_CredsRight.name_any c.f1 X4 c4 w3 (Kd.C_below G4.out HBL3.out) HL.out.2.1
  rw [E2.out] at n2
  have N2 := Aside0.mk n2
  clear n2
  have q3 : w3.cell? ⟨gb, 3, none⟩ = some (.string c.f1.f0) := (blk_cell HB3.out 3).trans rfl
  have q4 : w3.cell? ⟨gb, 4, none⟩ = some (.slice X4 c.f1.f1.length c4) := (blk_cell HB3.out 4).trans rfl
  have q5 : w3.cell? ⟨gb, 5, none⟩ = some (.int .i32 c.f1.f2) := (blk_cell HB3.out 5).trans rfl
  go_wp2_with fail
  refine N2.out.mono ?_
  rintro e w4 ⟨rfl, hb⟩
  have HB4 := Aside0.mk (blk_below HB3.out hb)
  have HBL4 := Aside0.mk (below_step HBL3.out hb)
  have BL4 := Aside0.mk (below_step BL3.out hb)
  clear hb HB3 BL3 HBL3 N2
  clear q3 q4 q5
  cases b2 with
  | false =>
    have hr := spec_CredsRight.fail HH.out (by simp only [spec_CredsRight.cred, spec_CredsRight.pre, E1.out, E2.out, Bool.false_and, Bool.and_false, Bool.true_and])
    subst hr
    clear HH
    go_wp2
    go_ret
    exact ⟨rfl, BL4.out⟩
  | true =>
  have n3 := spec_CredsRight.kind_any c.f2 w4
  rw [E3.out] at n3
  have N3 := Aside0.mk n3
  clear n3
  have q6 : w4.cell? ⟨gb, 6, none⟩ = some (.int .i32 c.f2) := (blk_cell HB4.out 6).trans rfl
  go_wp2_with fail
  refine N3.out.mono ?_
  rintro e w5 ⟨rfl, hb⟩
  have HB5 := Aside0.mk (blk_below HB4.out hb)
  have HBL5 := Aside0.mk (below_step HBL4.out hb)
  have BL5 := Aside0.mk (below_step BL4.out hb)
  clear hb HB4 BL4 HBL4 N3
  clear q6
  cases b3 with
  | false =>
    have hr := spec_CredsRight.fail HH.out (by simp only [spec_CredsRight.cred, spec_CredsRight.pre, E1.out, E2.out, E3.out, Bool.false_and, Bool.and_false, Bool.true_and])
    subst hr
    clear HH
    go_wp2
    go_ret
    exact ⟨rfl, BL5.out⟩
  | true =>
  have q7 : w5.cell? ⟨gb, 7, none⟩ = some (.string c.f3) := (blk_cell HB5.out 7).trans rfl
  have q16 : w5.cell? ⟨gb, 16, none⟩ = some (.string c.f12) := (blk_cell HB5.out 16).trans rfl
  have q17 : w5.cell? ⟨gb, 17, none⟩ = some (.string c.f13) := (blk_cell HB5.out 17).trans rfl
  have q14 : w5.cell? ⟨gb, 14, none⟩ = some (.slice X14 c.f10.length c14) := (blk_cell HB5.out 14).trans rfl
  have q15 : w5.cell? ⟨gb, 15, none⟩ = some (.slice X15 c.f11.length c15) := (blk_cell HB5.out 15).trans rfl
  by_cases h4 : c.f3.size ≤ 500
  case neg =>
    have E4 := Aside0.mk (show decide (c.f3.size ≤ 500) = false from decide_eq_false h4)
    have z0a : decide (500 < (c.f3.size : Int)) = true := decide_eq_true (by omega)
    have z0b : decide (500 < c.f3.size) = true := decide_eq_true (by omega)
    clear h4
    have hr := spec_CredsRight.fail HH.out (by simp only [spec_CredsRight.cred, spec_CredsRight.pre, E1.out, E2.out, E3.out, E4.out, Bool.false_and, Bool.and_false, Bool.true_and])
    subst hr
    clear HH
    go_wp2
    go_ret
    exact ⟨rfl, BL5.out⟩
  have E4 := Aside0.mk (show decide (c.f3.size ≤ 500) = true from decide_eq_true h4)
  have z0a : decide (500 < (c.f3.size : Int)) = false := decide_eq_false (by omega)
  have z0b : decide (500 < c.f3.size) = false := decide_eq_false (by omega)
  clear h4
  by_cases h5 : c.f12.size ≤ 500
  case neg =>
    have E5 := Aside0.mk (show decide (c.f12.size ≤ 500) = false from decide_eq_false h5)
    have z1a : decide (500 < (c.f12.size : Int)) = true := decide_eq_true (by omega)
    have z1b : decide (500 < c.f12.size) = true := decide_eq_true (by omega)
    clear h5
    have hr := spec_CredsRight.fail HH.out (by simp only [spec_CredsRight.cred, spec_CredsRight.pre, E1.out, E2.out, E3.out, E4.out, E5.out, Bool.false_and, Bool.and_false, Bool.true_and])
    subst hr
    clear HH
    go_wp2
    go_ret
    exact ⟨rfl, BL5.out⟩
  have E5 := Aside0.mk (show decide (c.f12.size ≤ 500) = true from decide_eq_true h5)
  have z1a : decide (500 < (c.f12.size : Int)) = false := decide_eq_false (by omega)
  have z1b : decide (500 < c.f12.size) = false := decide_eq_false (by omega)
  clear h5
  by_cases h6 : c.f13.size ≤ 500
  case neg =>
    have E6 := Aside0.mk (show decide (c.f13.size ≤ 500) = false from decide_eq_false h6)
    have z2a : decide (500 < (c.f13.size : Int)) = true := decide_eq_true (by omega)
    have z2b : decide (500 < c.f13.size) = true := decide_eq_true (by omega)
    clear h6
    have hr := spec_CredsRight.fail HH.out (by simp only [spec_CredsRight.cred, spec_CredsRight.pre, E1.out, E2.out, E3.out, E4.out, E5.out, E6.out, Bool.false_and, Bool.and_false, Bool.true_and])
    subst hr
    clear HH
    go_wp2
    go_ret
    exact ⟨rfl, BL5.out⟩
  have E6 := Aside0.mk (show decide (c.f13.size ≤ 500) = true from decide_eq_true h6)
  have z2a : decide (500 < (c.f13.size : Int)) = false := decide_eq_false (by omega)
  have z2b : decide (500 < c.f13.size) = false := decide_eq_false (by omega)
  clear h6
  by_cases h7 : c.f10.length ≤ 10
  case neg =>
    have E7 := Aside0.mk (show decide (c.f10.length ≤ 10) = false from decide_eq_false h7)
    have z3a : decide (10 < (c.f10.length : Int)) = true := decide_eq_true (by omega)
    have z3b : decide (10 < c.f10.length) = true := decide_eq_true (by omega)
    clear h7
    have hr := spec_CredsRight.fail HH.out (by simp only [spec_CredsRight.cred, spec_CredsRight.pre, E1.out, E2.out, E3.out, E4.out, E5.out, E6.out, E7.out, Bool.false_and, Bool.and_false, Bool.true_and])
    subst hr
    clear HH
    go_wp2
    go_ret
    exact ⟨rfl, BL5.out⟩
  have E7 := Aside0.mk (show decide (c.f10.length ≤ 10) = true from decide_eq_true h7)
  have z3a : decide (10 < (c.f10.length : Int)) = false := decide_eq_false (by omega)
  have z3b : decide (10 < c.f10.length) = false := decide_eq_false (by omega)
  by_cases h8 : c.f11.length ≤ 10
  case neg =>
    have E8 := Aside0.mk (show decide (c.f11.length ≤ 10) = false from decide_eq_false h8)
    have z4a : decide (10 < (c.f11.length : Int)) = true := decide_eq_true (by omega)
    have z4b : decide (10 < c.f11.length) = true := decide_eq_true (by omega)
    clear h8
    have hr := spec_CredsRight.fail HH.out (by simp only [spec_CredsRight.cred, spec_CredsRight.pre, E1.out, E2.out, E3.out, E4.out, E5.out, E6.out, E7.out, E8.out, Bool.false_and, Bool.and_false, Bool.true_and])
    subst hr
    clear HH
    go_wp2
    go_ret
    exact ⟨rfl, BL5.out⟩
  have E8 := Aside0.mk (show decide (c.f11.length ≤ 10) = true from decide_eq_true h8)
  have z4a : decide (10 < (c.f11.length : Int)) = false := decide_eq_false (by omega)
  have z4b : decide (10 < c.f11.length) = false := decide_eq_false (by omega)
  have HN := Aside0.mk (And.intro h7 h8)
  clear h7 h8
  have HPRE := Aside0.mk (show spec_CredsRight.cred c = ([c.f4, c.f5, c.f6, c.f7].all spec_CredsRight.time && (c.f10 ++ c.f11).all spec_CredsRight.part) from by simp only [spec_CredsRight.cred, spec_CredsRight.pre, E1.out, E2.out, E3.out, E4.out, E5.out, E6.out, E7.out, E8.out, Bool.true_and, Bool.and_self])
  have q8 : w5.cell? ⟨gb, 8, none⟩ = some (.int .i64 c.f4) := (blk_cell HB5.out 8).trans rfl
  have q9 : w5.cell? ⟨gb, 9, none⟩ = some (.int .i64 c.f5) := (blk_cell HB5.out 9).trans rfl
  have q10 : w5.cell? ⟨gb, 10, none⟩ = some (.int .i64 c.f6) := (blk_cell HB5.out 10).trans rfl
  have q11 : w5.cell? ⟨gb, 11, none⟩ = some (.int .i64 c.f7) := (blk_cell HB5.out 11).trans rfl
  go_wp2_with fail
  clear q7 q16 q17 q14 q15 q8 q9 q10 q11
  clear z0a z0b z1a z1b z2a z2b z3a z3b z4a z4b E1 E2 E3 E4 E5 E6 E7 E8
  have hbt := below_alloc (Below.refl w5.heap.size w5) (.cells #[Value.int .i64 c.f4, .int .i64 c.f5, .int .i64 c.f6, .int .i64 c.f7] 2)
  have htc := blk_new w5 (.cells #[Value.int .i64 c.f4, .int .i64 c.f5, .int .i64 c.f6, .int .i64 c.f7] 2)
  generalize w5.alloc (.cells #[Value.int .i64 c.f4, .int .i64 c.f5, .int .i64 c.f6, .int .i64 c.f7] 2) = wt at *
  have HBt := Aside0.mk (blk_below HB5.out hbt)
  have HBLt := Aside0.mk (below_step HBL5.out hbt)
  have BLt := Aside0.mk (below_step BL5.out hbt)
  have HTC := Aside0.mk htc
  clear hbt htc HB5 HBL5 BL5
  generalize w5.heap.size = gt at *
  obtain ⟨tb, htb⟩ : ∃ b, [c.f4, c.f5, c.f6, c.f7].all spec_CredsRight.time = b := ⟨_, rfl⟩
  have HT := Aside0.mk htb
  have hcr := HPRE.out
  rw [htb] at hcr
  have HCR := Aside0.mk hcr
  clear htb hcr HPRE
  go_loop [76] (fun i => ∃ m : Nat, m ≤ 4 ∧ i = .int .i64 m ∧ Aside0 (([c.f4, c.f5, c.f6, c.f7].drop m).all spec_CredsRight.time = tb)) (fun i => 4 - (intOf i).toNat)
  case atStart => exact ⟨0, by omega, rfl, HT⟩
  clear HT
  obtain ⟨m, hm, rfl, HT⟩ := hrel
  by_cases hm4 : m < 4
  case pos =>
    have hmi : (m : Int) < 4 := by omega
    have hm0 : (0 : Int) ≤ (m : Int) := by omega
    have qt : wt.cell? ⟨gt, m, none⟩ = some (.int .i64 ([c.f4, c.f5, c.f6, c.f7].getD m 0)) := (blk_cell HTC.out m).trans (spec_CredsRight.time_cell c m hm4)
    have hd := HT.out
    rw [spec_CredsRight.times c m hm4, List.all_cons] at hd
    clear HT
    generalize [c.f4, c.f5, c.f6, c.f7].getD m 0 = x at *
    have HT := Aside0.mk hd
    clear hd
    by_cases h0 : 0 ≤ x
    case neg =>
      have e0 : decide (0 ≤ x) = false := decide_eq_false h0
      have htf : tb = false := by have := HT.out; rw [← this]; unfold spec_CredsRight.time; rw [e0]; simp
      subst htf
      have hr := spec_CredsRight.fail HH.out (by rw [HCR.out, Bool.false_and])
      subst hr
      clear HH HCR HT
      have z0 : decide (x < 0) = true := decide_eq_true (by omega)
      clear h0 e0
      go_wp2
      go_ret
      exact ⟨rfl, BLt.out⟩
    have e0 : decide (0 ≤ x) = true := decide_eq_true h0
    by_cases h31 : x < 2147483648
    case neg =>
      have e1 : decide (x < 2147483648) = false := decide_eq_false h31
      have htf : tb = false := by have := HT.out; rw [← this]; unfold spec_CredsRight.time; rw [e0, e1]; simp
      subst htf
      have hr := spec_CredsRight.fail HH.out (by rw [HCR.out, Bool.false_and])
      subst hr
      clear HH HCR HT
      have z0 : decide (x < 0) = false := decide_eq_false (by omega)
      have z1 : decide (2147483648 ≤ x) = true := decide_eq_true (by omega)
      clear h0 e0 e1 h31
      go_wp2
      go_ret
      exact ⟨rfl, BLt.out⟩
    have e1 : decide (x < 2147483648) = true := decide_eq_true h31
    have HT2 := Aside0.mk (show ([c.f4, c.f5, c.f6, c.f7].drop (m + 1)).all spec_CredsRight.time = tb from by have h := HT.out; rwa [show spec_CredsRight.time x = true from by unfold spec_CredsRight.time; rw [e0, e1]; rfl, Bool.true_and] at h)
    have z0 : decide (x < 0) = false := decide_eq_false (by omega)
    have z1 : decide (2147483648 ≤ x) = false := decide_eq_false (by omega)
    clear h0 e0 e1 h31 HT
    go_wp2
    go_round
    case rel => exact ⟨m + 1, by omega, by go_num, HT2⟩
    case measure => simp [intOf]; omega
  obtain rfl : m = 4 := by omega
  have hnl : ¬ ((4 : Int) < 4) := by omega
  have htt : tb = true := by have := HT.out; simpa using this.symm
  subst htt
  clear HT hm hm4 HTC
  go_upto_region 15 with fail
  obtain ⟨wx, hwx⟩ : ∃ wx, wx = wt.drew := ⟨_, rfl⟩
  have hbd : Below wt.heap.size wt wx := hwx ▸ below_drew (Below.refl _ _)
  have GX := Aside0.mk (blk_below HBt.out hbd)
  have HBLx := Aside0.mk (below_step HBLt.out hbd)
  have BLx := Aside0.mk (below_step BLt.out hbd)
  clear HBt HBLt BLt hbd
  have hcl : spec_CcPart.f c.f10 = some c.f10 := if_pos (by have := HN.out.1; omega)
  have HCL := Aside0.mk hcl
  clear hcl
  have HWX := Aside0.mk hwx
  refine start_ (n := 8) (S := fun w' => w'.cell? ⟨gb, 14, none⟩ = some (.slice X14 c.f10.length c14) ∧ w'.cell? ⟨gb, 15, none⟩ = some (.slice X15 c.f11.length c15)) (ds := []) #[false, false, false, false, false, false, false, false] (by kernel_rfl) rfl rfl ⟨(HWX.out ▸ (show _ from (blk_cell GX.out 14).trans rfl)), (HWX.out ▸ (show _ from (blk_cell GX.out 15).trans rfl))⟩ (fun hHeld => ?_)
  rw [← HWX.out] at hHeld ⊢
  clear hwx HWX
  refine pure_ (i := 0) (N := some 87) (v := ?_) (a' := ?_) #[true, false, false, false, false, false, false, false] rfl rfl (by kernel_rfl) (fun _ _ _ h => h) (Or.inl ⟨by rfl, ?_⟩) ?_ ?_
  rotate_left
  · intro w'
    go_simp
    with_reducible rfl
  rotate_left
  · simp only [Act.put, List.setIfInBounds_toArray, List.set_cons_zero, List.set_cons_succ, i64_w, i32_w]
    rfl
  refine pure_ (i := 3) (N := some 90) (v := ?_) (a' := ?_) #[true, false, false, true, false, false, false, false] rfl rfl (by kernel_rfl) (fun _ _ _ h => h) (Or.inl ⟨by rfl, ?_⟩) ?_ ?_
  rotate_left
  · intro w'
    go_simp
    with_reducible rfl
  rotate_left
  · simp only [Act.put, List.setIfInBounds_toArray, List.set_cons_zero, List.set_cons_succ, i64_w, i32_w]
    rfl
  refine pure_ (i := 7) (N := some 94) (v := ?_) (a' := ?_) #[true, false, false, true, false, false, false, true] rfl rfl (by kernel_rfl) (fun _ _ _ h => h) (Or.inl ⟨by rfl, ?_⟩) ?_ ?_
  rotate_left
  · intro w'
    go_simp
    with_reducible rfl
  rotate_left
  · simp only [Act.put, List.setIfInBounds_toArray, List.set_cons_zero, List.set_cons_succ, i64_w, i32_w]
    rfl
  refine take_ (i := 1) (N := some 88) (v := ?_) (a' := ?_) #[true, true, false, true, false, false, false, true] rfl rfl (by kernel_rfl) (fun _ _ _ h => h) (Or.inl ⟨by rfl, ?_⟩) hHeld ?_ ?_
  rotate_left
  · rintro w' ⟨s0, s1⟩
    go_simp
    with_reducible rfl
  rotate_left
  · simp only [Act.put, List.setIfInBounds_toArray, List.set_cons_zero, List.set_cons_succ, i64_w, i32_w]
    rfl
  refine take_ (i := 4) (N := some 91) (v := ?_) (a' := ?_) #[true, true, false, true, true, false, false, true] rfl rfl (by kernel_rfl) (fun _ _ _ h => h) (Or.inl ⟨by rfl, ?_⟩) hHeld ?_ ?_
  rotate_left
  · rintro w' ⟨s0, s1⟩
    go_simp
    with_reducible rfl
  rotate_left
  · simp only [Act.put, List.setIfInBounds_toArray, List.set_cons_zero, List.set_cons_succ, i64_w, i32_w]
    rfl
  refine one_ (i := 2) (N := some 89) #[true, true, true, true, true, false, false, true] rfl rfl (by kernel_rfl) (by decide) (fun K hK => ?_)
  refine goes_ Try.func26 (by kernel_rfl) rfl #[.slice X14 c.f10.length c14] (by rfl) rfl rfl (by simp only [List.map_toArray, List.map_cons, List.map_nil]; rfl) ?_
  with_reducible refine (spec_CcPart.calls X14 c14 c.f10 c.f10 _ (Kd.C_below G14.out HBLx.out) HL.out.2.2.1 HCL.out).mono ?_
  rintro e wy ⟨vy, rfl, hR_, hb_⟩
  refine ⟨_, rfl, ?_⟩
  have HRy := Aside0.mk hR_
  have HBy := Aside0.mk hb_
  have GY := Aside0.mk (blk_below GX.out hb_)
  clear hR_ hb_
  refine hK.out _ _ ⟨(blk_cell GY.out 14).trans rfl, (blk_cell GY.out 15).trans rfl⟩ (fun hHeld => ?_)
  clear hK K
  refine norm_ (a' := ?_) ?_ ?_
  rotate_left
  · show Act.put _ (some 89) _ = _
    simp only [Act.put, List.setIfInBounds_toArray, List.set_cons_zero, List.set_cons_succ, i64_w, i32_w]
    rfl
  refine one_ (i := 5) (N := some 92) #[true, true, true, true, true, true, false, true] rfl rfl (by kernel_rfl) (by decide) (fun K hK => ?_)
  refine Kd.R_append_rows_step k63 (w0 := wx) wx.heap.size (by rfl) (.tmp 89) (.tmp 91) 34 63 (.agg #[(.int .i32 0), (.string ⟨#[]⟩)]) 24 rfl Try.underlying34 info63 rfl (by decide) (by omega) vy c.f10 c.f11 _ _ _ (fun _ => True) (fun _ => False) rfl rfl HRy.out (Kd.C_below G15.out (below_step HBLx.out HBy.out)) (fun _ _ h => h) (fun _ h => h.elim) (fun _ _ => trivial) HBy.out HBy.out.size (by have := HN.out; omega) ?_
  intro v2 wz ho2 hb2 hg2 hat2
  obtain ⟨ps, hps⟩ : ∃ ps, ps = c.f10 ++ c.f11 := ⟨_, rfl⟩
  rw [← hps] at ho2
  have HPS := Aside0.mk hps
  clear hps
  obtain ⟨A2, cc2, rfl, hl2, hC2⟩ := Kd.R_reads ho2
  have HRz := Aside0.mk ho2
  have HBz := Aside0.mk hb2
  have GZ := Aside0.mk (blk_below GX.out hb2)
  have HL2 := Aside0.mk hl2
  clear ho2 hb2 hg2 hat2 hl2 hC2
  refine hK.out _ _ ⟨(blk_cell GZ.out 14).trans rfl, (blk_cell GZ.out 15).trans rfl⟩ (fun hHeld => ?_)
  clear hK K
  refine norm_ (a' := ?_) ?_ ?_
  rotate_left
  · show Act.put _ (some 92) _ = _
    simp only [Act.put, List.setIfInBounds_toArray, List.set_cons_zero, List.set_cons_succ, i64_w, i32_w]
    rfl
  refine pure_ (i := 6) (N := some 93) (v := ?_) (a' := ?_) #[true, true, true, true, true, true, true, true] rfl rfl (by kernel_rfl) (fun _ _ _ h => h) (Or.inl ⟨by rfl, ?_⟩) ?_ ?_
  rotate_left
  · intro w'
    go_simp
    with_reducible rfl
  rotate_left
  · simp only [Act.put, List.setIfInBounds_toArray, List.set_cons_zero, List.set_cons_succ, i64_w, i32_w]
    rfl
  refine done_ (by kernel_rfl) ?_
  
  clear hHeld GZ GX HRy HBy GY HBLx
  have HL3 := Aside0.mk (show ps.length ≤ 20 from by rw [HPS.out, List.length_append]; have := HN.out; omega)
  have BLz := Aside0.mk (below_step BLx.out HBz.out)
  clear BLx HBz
  obtain ⟨pb, hpb⟩ : ∃ b, ps.all spec_CredsRight.part = b := ⟨_, rfl⟩
  have hcr := HCR.out
  rw [← HPS.out, hpb, Bool.true_and] at hcr
  have HP := Aside0.mk hpb
  have HCP := Aside0.mk hcr
  clear hpb hcr HCR HN HPS
  have hl3 : ps.length ≤ 20 := HL3.out
  go_wp2_with fail
  go_loopw [94] (fun i wq => ∃ (m : Nat), m ≤ ps.length ∧ i = .int .i64 m ∧ Aside0 ((ps.drop m).all spec_CredsRight.part = pb) ∧ Aside0 (Kd.R k63 63 wq wx.heap.size (fun _ => True) (.slice A2 ps.length cc2) ps) ∧ Aside0 (Below w.heap.size w wq)) (fun i _ => ps.length - (intOf i).toNat)
  case atStart => exact ⟨0, Nat.zero_le _, rfl, HP, HRz, BLz⟩
  clear HP HRz BLz
  obtain ⟨m, hm, rfl, HP, HR, BQ⟩ := hrel
  by_cases hmt : m < ps.length
  case neg =>
    obtain rfl : m = ps.length := by omega
    have hnl : ¬ ((ps.length : Int) < (ps.length : Int)) := by omega
    have hpt : pb = true := by have := HP.out; rw [List.drop_length] at this; exact this.symm
    subst hpt
    have HH2 := Aside0.mk (show (l0.drop (j + 1)).all spec_CredsRight.cred = r from by have := HH.out; rwa [List.all_cons, HCP.out, Bool.true_and] at this)
    clear HP HH hm hmt
    go_wp2
    go_roundw
    case rel => exact ⟨j + 1, by omega, by go_num, HH2, BQ⟩
    case measure => simp [intOf]; omega
  have hmi : (m : Int) < (ps.length : Int) := by omega
  have hm0 : (0 : Int) ≤ (m : Int) := by omega
  obtain ⟨ad2, rfl, hce⟩ := pw_row63 (Kd.R_reads' HR.out).2.2 m hmt
  have hd := HP.out
  rw [pw_drop63 ps m hmt, List.all_cons] at hd
  clear HP
  generalize ps.getD m z63 = x at *
  have HP := Aside0.mk hd
  have HCE := Aside0.mk hce
  clear hd hce
  go_wp2_with (first
    | ((with_reducible refine gate_dst (N := 97) rfl ?_); refine B.load_cells_event ?hg (N := 97) ?hd 63 (.tmp 96) (ad2.add (m * 2)) [Value.int .i32 x.f0, .string x.f1] _ ?ho ?hx HCE.out Try.underlying63 ?hq ?hi ?_; (case hg => rfl); (case hd => rfl); (case ho => rfl); (case hx => first | rfl | (go_simp; done)); (case hq => rfl); (case hi => exact pw_size63))
    | ((with_reducible refine gate_dst (N := 9) rfl ?_); refine box_event ?hg (N := 9) ?hd (cs := #[.int .i32 0, .string ⟨#[]⟩]) (t := 63) ?hr ?_; (case hd => rfl); (case hg => rfl); (case hr => first | (go_simp; done) | (go_simp; rfl)); intro gp hgp wa hbox hb; have HBX := Aside0.mk hbox; have HBB := Aside0.mk hb; have HGP := Aside0.mk (show wr.heap.size ≤ gp from by rw [hgp]; exact Nat.le_refl _); clear hbox hb hgp)
    | ((with_reducible refine gate_store (t := 63) (p := 9) (v := .tmp 97) rfl ?_); refine B.store_event ?hg 63 (.tmp 9) (.tmp 97) ?ho gp #[.int .i32 x.f0, .string x.f1] ?hx ?hy 63 _ HBX.out ?hi ?hl (by simp [Value.oneCell']) ?_; (case hg => rfl); (case ho => rfl); (case hx => first | rfl | (go_simp; done)); (case hy => first | rfl | (go_simp; done)); (case hi => exact pw_size63); (case hl => rfl); intro wb hb2 hbl2 hsz2 hot2; have HBP := Aside0.mk hb2; have HBLb := Aside0.mk (hbl2 wr HBB.out HGP.out); have y0 : wb.cell? ⟨gp, 0, none⟩ = some (.int .i32 x.f0) := (blk_cell hb2 0).trans rfl; clear hb2 hbl2 hsz2 hot2)
    | fail)
  obtain ⟨bk, hbk⟩ : ∃ b, spec_CredsRight.kind x.f0 = b := ⟨_, rfl⟩
  have nk := spec_CredsRight.kind_any x.f0 wb
  rw [hbk] at nk
  refine nk.mono ?_
  clear nk
  have EK := Aside0.mk hbk
  clear hbk y0
  rintro e wd ⟨rfl, hb⟩
  have HBP2 := Aside0.mk (blk_below HBP.out hb)
  have BLd := Aside0.mk (below_step HBLb.out hb)
  clear hb HBP HBLb HBX HBB
  have BQ2 := Aside0.mk (below_step BQ.out BLd.out)
  have HR2 := Aside0.mk (Kd.R_below HR.out BLd.out)
  clear BQ HR BLd
  cases bk with
  | false =>
    have hpf : pb = false := by have := HP.out; rw [← this]; unfold spec_CredsRight.part; rw [EK.out]; simp
    subst hpf
    have hr := spec_CredsRight.fail HH.out HCP.out
    subst hr
    clear HH HCP HP
    go_wp2
    go_ret
    exact ⟨rfl, BQ2.out⟩
  | true =>
  have y1 : wd.cell? ⟨gp, 1, none⟩ = some (.string x.f1) := (blk_cell HBP2.out 1).trans rfl
  by_cases h1 : x.f1.size ≤ 100
  case neg =>
    have e1 : decide (x.f1.size ≤ 100) = false := decide_eq_false h1
    have hpf : pb = false := by have := HP.out; rw [← this]; unfold spec_CredsRight.part; rw [EK.out, e1]; simp
    subst hpf
    have hr := spec_CredsRight.fail HH.out HCP.out
    subst hr
    clear HH HCP HP
    have z0 : decide (100 < (x.f1.size : Int)) = true := decide_eq_true (by omega)
    have z1 : decide (100 < x.f1.size) = true := decide_eq_true (by omega)
    clear h1 e1
    go_wp2
    go_ret
    exact ⟨rfl, BQ2.out⟩
  have e1 : decide (x.f1.size ≤ 100) = true := decide_eq_true h1
  have HP2 := Aside0.mk (show (ps.drop (m + 1)).all spec_CredsRight.part = pb from by have h := HP.out; rwa [show spec_CredsRight.part x = true from by unfold spec_CredsRight.part; rw [EK.out, e1]; rfl, Bool.true_and] at h)
  have z0 : decide (100 < (x.f1.size : Int)) = false := decide_eq_false (by omega)
  have z1 : decide (100 < x.f1.size) = false := decide_eq_false (by omega)
  clear h1 e1 HP EK
  go_wp2
  go_roundw
  case rel => exact ⟨m + 1, by omega, by go_num, HP2, HR2, BQ2⟩
  case measure => simp [intOf]; omega

/-! ### spec_big: function 27 -/
-- EXT rounds=0 making=1
-- NEEDS
-- INFO 5
/-- The lowest bytes of a number, the highest one first. -/
def spec_big.bytes (a0 : Int) (n : Nat) : List Int := (List.range n).map fun i => a0 / 2 ^ (8 * (n - 1 - i)) % 256
theorem spec_big.bytes_len (a0 : Int) (n : Nat) : (spec_big.bytes a0 n).length = n := by simp [spec_big.bytes]
theorem spec_big.bytes_set (a0 : Int) (n j : Nat) (hj : j < n) : ((((spec_big.bytes a0 n).take j ++ List.replicate (n - j) 0).map fun x => Value.int .u8 x).toArray).setIfInBounds j (.int .u8 (a0 / 2 ^ (8 * (n - 1 - j)) % 256)) = (((spec_big.bytes a0 n).take (j + 1) ++ List.replicate (n - (j + 1)) 0).map fun x => Value.int .u8 x).toArray := by
  have hl := spec_big.bytes_len a0 n
  have hb : (spec_big.bytes a0 n)[j]? = some (a0 / 2 ^ (8 * (n - 1 - j)) % 256) := by simp [spec_big.bytes, hj]
  have ht : ((spec_big.bytes a0 n).take j).length = j := by rw [List.length_take]; omega
  obtain ⟨m, hm⟩ : ∃ m, n - j = m + 1 := ⟨n - j - 1, by omega⟩
  rw [List.setIfInBounds_toArray, ← List.map_set (f := fun x => Value.int .u8 x), hm, show n - (j + 1) = m from by omega]
  have hs : (List.take j (spec_big.bytes a0 n) ++ List.replicate (m + 1) 0).set j (a0 / 2 ^ (8 * (n - 1 - j)) % 256) = (List.take j (spec_big.bytes a0 n) ++ [a0 / 2 ^ (8 * (n - 1 - j)) % 256]) ++ List.replicate m 0 := by
    have := B.set_done ((spec_big.bytes a0 n).take j) 0 (a0 / 2 ^ (8 * (n - 1 - j)) % 256) m
    rwa [ht] at this
  rw [hs, List.take_add_one, hb]
  rfl
set_option maxHeartbeats 4000000 in
theorem spec_big.any (a0 : Int) (n : Nat) (hn : n ≤ 8) (h0 : 0 ≤ a0) (w : World) :
    Calls Try.prog 27 #[.int .u64 a0, .int .i64 n] w fun e w' => e = .returned (.string (strOfNums (spec_big.bytes a0 n))) ∧ Below w.heap.size w w' := by
  have hmk : ∀ W : World, (Instr.makeSlice 83 (.int .i64 (n : Int)) (.int .i64 (n : Int))).run Try.prog W = .ok (.slice (some ⟨W.heap.size, 0, none⟩) n n) (W.alloc (.cells (madeCells #[.int .u8 0] n) 5)) :=
    fun W => run_make_row' 83 5 (.int .u8 0) 1 Try.underlying83 info5 rfl .i64 .i64 n (by omega) (by omega) W
  have hn' : (n : Int) ≤ 8 := by omega
  go_enter Try.func27, Try.ntmps27
  go_wp2_with fail
  go_loopw [11] (fun i wr => ∃ (j : Nat), j ≤ n ∧ i = .int .i64 j ∧ Aside0 (B.Box wr w.heap.size 5 (((spec_big.bytes a0 n).take j ++ List.replicate (n - j) 0).map fun x => Value.int .u8 x).toArray) ∧ Aside0 (Below w.heap.size w wr)) (fun i _ => n - (intOf i).toNat)
  case atStart =>
    refine ⟨0, Nat.zero_le _, rfl, ⟨?_⟩, ⟨below_alloc (Below.refl _ _) _⟩⟩
    have hm : madeCells #[.int .u8 0] n = ((List.replicate n (0 : Int)).map fun x => Value.int .u8 x).toArray := by
      apply Array.ext
      · simp [madeCells]
      · intro i h1 h2
        simp [madeCells, Nat.mod_one]
    have := B.Box.new w (madeCells #[.int .u8 0] n) 5
    rw [hm] at this ⊢
    simpa using this
  obtain ⟨j, hj, rfl, BX, BL⟩ := hrel
  by_cases hlt : j < n
  case neg =>
    obtain rfl : j = n := by omega
    have hnl : ¬ ((j : Int) < (j : Int)) := by omega
    have hl := spec_big.bytes_len a0 j
    have hbx := BX.out
    rw [Nat.sub_self, List.replicate_zero, List.append_nil, List.take_of_length_le (by omega)] at hbx
    have hown : wr.ownsRow w.heap.size 5 1 (.slice (some ⟨w.heap.size, 0, none⟩) j j) j (nums .u8 (spec_big.bytes a0 j)) := by
      have hml : (j : Nat) ≤ maxLen := by unfold maxLen; omega
      exact ⟨by simp [nums, hl], .inr ⟨w.heap.size, j, _, rfl, Nat.le_refl _, hbx, Nat.le_refl _, hml, by simp [hl], by rw [Nat.mul_one]; exact List.take_of_length_le (by simp [hl])⟩⟩
    have hcv := own_string (P := Try.prog) Try.underlying83 Try.underlying5 Try.underlying9 hown
    clear hown hbx BX
    go_wp2
    go_ret
    exact ⟨rfl, BL.out⟩
  have hlt' : (j : Int) < (n : Int) := by omega
  have hj0 : (0 : Int) ≤ (j : Int) := by omega
  obtain ⟨old, ho⟩ : ∃ old, wr.cell? ⟨w.heap.size, j, none⟩ = some old := by
    rw [blk_cell BX.out]
    exact ⟨_, Array.getElem?_eq_getElem (by have := spec_big.bytes_len a0 n; simp; omega)⟩
  have hf := BX.out.free j
  go_wp2
  go_roundw
  case rel => exact ⟨j + 1, by omega, by go_num, ⟨BX.out.puts j _ (spec_big.bytes_set a0 n j hlt)⟩, ⟨below_set BL.out (Nat.le_refl _)⟩⟩
  case measure => simp [intOf]; omega
def spec_big.f (a0 : Int) (a1 : Int) : Option ByteArray := if 0 ≤ a0 ∧ 0 ≤ a1 ∧ a1 ≤ 8 then some (strOfNums (spec_big.bytes a0 a1.toNat)) else none
theorem spec_big.calls (a0 : Int) (a1 : Int) (r : ByteArray) (w : World) (h : spec_big.f a0 a1 = some r) :
    Calls Try.prog 27 #[.int .u64 a0, .int .i64 a1] w fun e w' => e = .returned (.string r) ∧ Below w.heap.size w w' := by
  unfold spec_big.f at h
  split at h
  · rename_i hh
    obtain rfl := Option.some.inj h
    have := spec_big.any a0 a1.toNat (by omega) hh.1 w
    rwa [Int.toNat_of_nonneg hh.2.1] at this
  · cases h

/-! ### spec_counted: function 28 -/
-- EXT rounds=0 making=1
-- NEEDS 27
def spec_counted.f (a0 : ByteArray) (a1 : Int) : Option ByteArray := if a0.size ≤ 1099511627776 then (spec_big.f (a0.size : Int) a1).bind fun b => if b.size ≤ 8 then some (b ++ a0) else none else none
set_option maxHeartbeats 4000000 in
theorem spec_counted.calls (a0 : ByteArray) (a1 : Int) (r : ByteArray) (w : World) (h : spec_counted.f a0 a1 = some r) :
    Calls Try.prog 28 #[.string a0, .int .i64 a1] w fun e w' => e = .returned (.string r) ∧ Below w.heap.size w w' := by
  unfold spec_counted.f at h
  split at h
  case isFalse => cases h
  rename_i hs
  obtain ⟨b, hb, h⟩ := Option.bind_eq_some_iff.1 h
  split at h
  case isFalse => cases h
  rename_i h8
  obtain rfl := Option.some.inj h
  have HB := Aside0.mk hb
  have hw : IntKind.u64.wrap (a0.size : Int) = (a0.size : Int) := by rw [IntKind.wrap_u64]; omega
  have h1 : b.size + a0.size ≤ 9223372036854775807 := by omega
  clear hb h hs h8
  go_enter Try.func28, Try.ntmps28
  go_wp2_with fail
  refine (spec_big.calls _ _ b _ HB.out).mono ?_
  rintro e w' ⟨rfl, hb⟩
  have HB2 := Aside0.mk hb
  clear hb
  go_wp2
  go_ret
  exact ⟨rfl, HB2.out⟩

end Go.Proofs.Ytnipcocllhfaoaa.A

/- Go functions of this seat come to the answers of the Lean functions that stand here ('.calls'), under what each theorem states and nothing else. Written by pw.py, a program of this session, with texts of its own. -/
import Derived.Test.YtnipcocllhfaoaaA0
import Derived.Test.YtnipcocllhfaoaaA1
import Derived.Test.YtnipcocllhfaoaaE0
import Derived.Lib.SliceRun
namespace Go.Proofs.Ytnipcocllhfaoaa.A
open Go.RowKit Go.Proofs.YtnipcocllhfaoaaW.PrintWords Go.Proofs.YtnipcocllhfaoaaW.PrintLast
open Go.Proofs.Ytnipcocllhfaoaa.B (gate_callee gate_builtin)
set_option linter.unusedVariables false
set_option linter.unusedSimpArgs false
set_option maxRecDepth 100000

/-! ### laws_zzFits14: function 8 -/
-- EXT rounds=1 making=1
-- NEEDS 24
def laws_zzFits14.all (k : Nat) : List S36 → Option Bool
  | [] => some true
  | c :: r => (laws_zzFits15.f k c.f0.f0 c.f0.f1 c.f0.f2 c.f1.f0 c.f1.f1 c.f1.f2 c.f2 c.f3 c.f4 c.f5 c.f6 c.f7 c.f8 c.f9 c.f10 c.f11 c.f12 c.f13).bind fun t => if t = true then laws_zzFits14.all k r else some false
def laws_zzFits14.f (k : Nat) (l0 : List S36) : Option Bool := if (l0.length : Int) > 2147483647 then some false else laws_zzFits14.all k l0
theorem laws_zzFits14.all_mono (k : Nat) : ∀ l : List S36, LeO (laws_zzFits14.all k l) (laws_zzFits14.all (k + 1) l)
  | [] => LeO.refl _
  | c :: r => LeO.bind (laws_zzFits15.mono _ _ _ _ _ _ _ _ _ _ _ _ _ _ _ _ _ _ _) fun t => LeO.ite (laws_zzFits14.all_mono k r) (LeO.refl _)
theorem laws_zzFits14.mono : ∀ a0 k, LeO (laws_zzFits14.f k a0) (laws_zzFits14.f (k + 1) a0) := fun a0 k => LeO.ite (LeO.refl _) (laws_zzFits14.all_mono k a0)
theorem pw_drop36 (l : List S36) (j : Nat) (h : j < l.length) : l.drop j = l.getD j z36 :: l.drop (j + 1) := by
  rw [List.drop_eq_getElem_cons h, List.getD_eq_getElem?_getD, List.getElem?_eq_getElem h]
  rfl
/-- A credential of a row: its cells. -/
theorem pw_row36 {w : World} {A : Option Addr} {n : Nat} {xs : List S36} (h : Kd.C k36 w A n xs) (j : Nat) (hj : j < n) : ∃ (ad : Addr) (A1 : Option Addr) (c1 : Nat) (A4 : Option Addr) (c4 : Nat) (A14 : Option Addr) (c14 : Nat) (A15 : Option Addr) (c15 : Nat), A = some ad ∧
    (∀ i u, [Value.string (xs.getD j z36).f0.f0, .slice A1 (xs.getD j z36).f0.f1.length c1, .int .i32 (xs.getD j z36).f0.f2, .string (xs.getD j z36).f1.f0, .slice A4 (xs.getD j z36).f1.f1.length c4, .int .i32 (xs.getD j z36).f1.f2, .int .i32 (xs.getD j z36).f2, .string (xs.getD j z36).f3, .int .i64 (xs.getD j z36).f4, .int .i64 (xs.getD j z36).f5, .int .i64 (xs.getD j z36).f6, .int .i64 (xs.getD j z36).f7, .bool (xs.getD j z36).f8, .int .u32 (xs.getD j z36).f9, .slice A14 (xs.getD j z36).f10.length c14, .slice A15 (xs.getD j z36).f11.length c15, .string (xs.getD j z36).f12, .string (xs.getD j z36).f13][i]? = some u → w.cell? ((ad.add (j * 18)).add i) = some u) ∧
    (xs.getD j z36).f0.f1.length ≤ c1 ∧ Kd.string.C w A1 (xs.getD j z36).f0.f1.length (xs.getD j z36).f0.f1 ∧ (xs.getD j z36).f1.f1.length ≤ c4 ∧ Kd.string.C w A4 (xs.getD j z36).f1.f1.length (xs.getD j z36).f1.f1 ∧ (xs.getD j z36).f10.length ≤ c14 ∧ k63.C w A14 (xs.getD j z36).f10.length (xs.getD j z36).f10 ∧ (xs.getD j z36).f11.length ≤ c15 ∧ k63.C w A15 (xs.getD j z36).f11.length (xs.getD j z36).f11 := by
  obtain ⟨ad, c, e, _, hK, hc⟩ := Kd.C_get h z36 (j : Int) (by omega) (by omega)
  rw [Int.toNat_natCast] at hK hc
  obtain ⟨A1, c1, A4, c4, A14, c14, A15, c15, rfl, l1, g1, l4, g4, l14, g14, l15, g15⟩ := k36_open hK
  exact ⟨ad, A1, c1, A4, c4, A14, c14, A15, c15, e, fun i u hu => by rw [add_add]; exact hc i u hu, l1, g1, l4, g4, l14, g14, l15, g15⟩
def pw_zero36 : Array Value := #[.string ⟨#[]⟩, .slice none 0 0, .int .i32 0, .string ⟨#[]⟩, .slice none 0 0, .int .i32 0, .int .i32 0, .string ⟨#[]⟩, .int .i64 0, .int .i64 0, .int .i64 0, .int .i64 0, .bool false, .int .u32 0, .slice none 0 0, .slice none 0 0, .string ⟨#[]⟩, .string ⟨#[]⟩]
theorem pw_size36 : (Try.prog.info? 36).map (·.size) = some 18 := by kernel_rfl
set_option maxHeartbeats 4000000 in
theorem laws_zzFits14.calls (k : Nat) (A0 : Option Addr) (c0 : Nat) (l0 : List (S36)) (r : Bool) (w : World) (hr0 : Kd.C k36 w A0 l0.length l0) (hc0 : l0.length ≤ c0) (h : laws_zzFits14.f k l0 = some r) :
    Calls Try.prog 8 #[.slice A0 l0.length c0] w fun e w' => e = .returned (.bool r) ∧ Below w.heap.size w w' := by
  have HR0 := Aside0.mk hr0
  unfold laws_zzFits14.f at h
  clear hr0 hc0
  by_cases hs : (l0.length : Int) > 2147483647
  · rw [if_pos hs] at h
    obtain rfl := Option.some.inj h
    have c2b0 : decide (2147483647 < (l0.length : Int)) = true := decide_eq_true hs
    have c2b1 : decide (2147483647 < l0.length) = true := decide_eq_true (by omega)
    clear hs h
    go_enter Try.func8, Try.ntmps8
    go_wp2
    go_ret
    exact ⟨rfl, Below.refl _ _⟩
  rw [if_neg hs] at h
  have HH := Aside0.mk h
  have hs1 : (l0.length : Int) ≤ 2147483647 := by omega
  clear h hs
  go_enter Try.func8, Try.ntmps8
  go_wp2
  go_loopw [10] (fun i wr => ∃ (j : Nat), j ≤ l0.length ∧ i = .int .i64 j ∧ Aside0 (laws_zzFits14.all k (l0.drop j) = some r) ∧ Aside0 (Below w.heap.size w wr)) (fun i _ => l0.length - (intOf i).toNat)
  case atStart => exact ⟨0, Nat.zero_le _, rfl, HH, ⟨Below.refl _ _⟩⟩
  clear HH
  obtain ⟨j, hj, rfl, HH, BL⟩ := hrel
  by_cases hlt : j < l0.length
  case neg =>
    obtain rfl : j = l0.length := by omega
    have hnl : ¬ ((l0.length : Int) < (l0.length : Int)) := by omega
    have hr : r = true := by have := HH.out; rw [List.drop_length] at this; exact (Option.some.inj this).symm
    subst hr
    clear HH hj hlt
    go_wp2
    go_ret
    exact ⟨rfl, BL.out⟩
  have hlt' : (j : Int) < (l0.length : Int) := by omega
  have hj0 : (0 : Int) ≤ (j : Int) := by omega
  obtain ⟨ad, A1, c1, A4, c4, A14, c14, A15, c15, rfl, hcells, l1, g1, l4, g4, l14, g14, l15, g15⟩ := pw_row36 (Kd.C_below HR0.out BL.out) j hlt
  have hh := HH.out
  rw [pw_drop36 l0 j hlt] at hh
  clear HH
  generalize l0.getD j z36 = c at *
  obtain ⟨t, ht, hh⟩ := Option.bind_eq_some_iff.1 hh
  have HC := Aside0.mk hcells
  have HT := Aside0.mk ht
  have HL := Aside0.mk (And.intro l1 (And.intro l4 (And.intro l14 l15)))
  have G1 := Aside0.mk g1
  have G4 := Aside0.mk g4
  have G14 := Aside0.mk g14
  have G15 := Aside0.mk g15
  have HH := Aside0.mk hh
  clear hcells ht l1 l4 l14 l15 g1 g4 g14 g15 hh
  obtain ⟨cs, hcs⟩ : ∃ x : Array Value, x = #[Value.string c.f0.f0, .slice A1 c.f0.f1.length c1, .int .i32 c.f0.f2, .string c.f1.f0, .slice A4 c.f1.f1.length c4, .int .i32 c.f1.f2, .int .i32 c.f2, .string c.f3, .int .i64 c.f4, .int .i64 c.f5, .int .i64 c.f6, .int .i64 c.f7, .bool c.f8, .int .u32 c.f9, .slice A14 c.f10.length c14, .slice A15 c.f11.length c15, .string c.f12, .string c.f13] := ⟨_, rfl⟩
  have HS := Aside0.mk (show cs.size = 18 ∧ cs.all (·.oneCell') = true from by subst hcs; exact ⟨rfl, by simp [Value.oneCell']⟩)
  have HC2 := Aside0.mk (show (∀ i u, cs.toList[i]? = some u → wr.cell? ((ad.add (j * 18)).add i) = some u) ∧ cs.toList.length = 18 from by subst hcs; exact ⟨HC.out, rfl⟩)
  have HCS := Aside0.mk hcs
  clear hcs HC
  go_wp2_with (first
    | ((with_reducible refine gate_dst (N := 13) rfl ?_); refine B.load_cells_event ?hg (N := 13) ?hd 36 (.tmp 12) (ad.add (j * 18)) cs.toList _ ?ho ?hx HC2.out.1 Try.underlying36 ?hq ?hi ?_; (case hg => rfl); (case hd => rfl); (case ho => rfl); (case hx => first | rfl | (go_simp; done)); (case hq => rfl); (case hi => exact pw_size36.trans (congrArg some HC2.out.2.symm)))
    | ((with_reducible refine gate_dst (N := 4) rfl ?_); refine box_event ?hg (N := 4) ?hd (cs := pw_zero36) (t := 36) ?hr ?_; (case hd => rfl); (case hg => rfl); (case hr => first | (go_simp; done) | (go_simp; rfl)); intro gb hgb w1 hbox hb; have HBX := Aside0.mk hbox; have HBB := Aside0.mk hb; have HGB := Aside0.mk (show wr.heap.size ≤ gb from by rw [hgb]; exact Nat.le_refl _); clear hbox hb hgb)
    | ((with_reducible refine gate_store (t := 36) (p := 4) (v := .tmp 13) rfl ?_); refine B.store_event ?hg 36 (.tmp 4) (.tmp 13) ?ho gb cs ?hx ?hy 36 _ HBX.out ?hi ?hl HS.out.2 ?_; (case hg => rfl); (case ho => rfl); (case hx => first | rfl | (go_simp; done)); (case hy => first | (simp only [Array.toArray_toList]; rfl) | (go_simp; done)); (case hi => exact pw_size36.trans (congrArg some HS.out.1.symm)); (case hl => exact HS.out.1.symm); intro w2 hb2 hbl2 hsz2 hot2; have HB2 := Aside0.mk hb2; have HBL2 := Aside0.mk (hbl2 wr HBB.out HGB.out); clear hb2 hbl2 hsz2 hot2)
    | ((with_reducible refine gate_dst (N := 14) rfl ?_); refine B.row_event ?hg (N := 14) ?hd 36 (.tmp 4) gb 36 cs _ ?ho ?hx HB2.out Try.underlying36 ?hq ?hi ?_; (case hg => rfl); (case hd => rfl); (case ho => rfl); (case hx => first | rfl | (go_simp; done)); (case hq => rfl); (case hi => exact pw_size36.trans (congrArg some HS.out.1.symm)))
    | fail)
  have hcall := laws_zzFits15.calls k c.f0.f0 A1 c1 c.f0.f1 c.f0.f2 c.f1.f0 A4 c4 c.f1.f1 c.f1.f2 c.f2 c.f3 c.f4 c.f5 c.f6 c.f7 c.f8 c.f9 A14 c14 c.f10 A15 c15 c.f11 c.f12 c.f13 t w2 (Kd.C_below G1.out HBL2.out) HL.out.1 (Kd.C_below G4.out HBL2.out) HL.out.2.1 (Kd.C_below G14.out HBL2.out) HL.out.2.2.1 (Kd.C_below G15.out HBL2.out) HL.out.2.2.2 HT.out
  rw [← HCS.out] at hcall
  refine hcall.mono ?_
  clear hcall
  rintro e w3 ⟨rfl, hb3⟩
  have HB3 := Aside0.mk (below_step BL.out (below_step HBL2.out hb3))
  clear hb3 HBL2 HB2 HBB HBX
  cases t with
  | false =>
    have hr : r = false := by have := HH.out; simpa using this.symm
    subst hr
    clear HH
    go_wp2
    go_ret
    exact ⟨rfl, HB3.out⟩
  | true =>
    have HH2 := Aside0.mk (show laws_zzFits14.all k (l0.drop (j + 1)) = some r from by have := HH.out; rwa [if_pos rfl] at this)
    clear HH
    go_wp2
    go_roundw
    case rel => exact ⟨j + 1, by omega, by go_num, HH2, HB3⟩
    case measure => simp [intOf]; omega

/-! ### spec_CcNameRight: function 9 -/
mutual
def spec_CcNameRight.j0 : Nat → Bool → ByteArray → List ByteArray → Int → Option (Bool)
  | 0, _, _, _, _ => none
  | k + 1, x14, x109000, x109001, x109002 => if x14 = true then (some false) else (spec_CcNameRight.l0 k x109001 (x109001.length : Int) 0)
def spec_CcNameRight.l0 : Nat → List ByteArray → Int → Int → Option (Bool)
  | 0, _, _, _ => none
  | k + 1, x16, x17, x18 => if x18 < x17 then (if 0 ≤ x18 then (if x18 < (x16.length : Int) then (if ((rdOf ByteArray.empty x16 x18).size : Int) > 200 then (some false) else (spec_CcNameRight.l0 k x16 x17 (wrap64 (x18 + 1)))) else (none)) else (none)) else (some true)
end
def spec_CcNameRight.f (k : Nat) (a0_0 : ByteArray) (l0_1 : List ByteArray) (a0_2 : Int) : Option (Bool) := if (a0_0.size : Int) > 200 then (spec_CcNameRight.j0 k true a0_0 l0_1 a0_2) else (spec_CcNameRight.j0 k (decide ((l0_1.length : Int) > 8)) a0_0 l0_1 a0_2)
set_option maxRecDepth 100000 in
theorem spec_CcNameRight.mono_l : ∀ k, (∀ y0 y1 y2 y3, LeO (spec_CcNameRight.j0 k y0 y1 y2 y3) (spec_CcNameRight.j0 (k + 1) y0 y1 y2 y3)) ∧ (∀ y0 y1 y2, LeO (spec_CcNameRight.l0 k y0 y1 y2) (spec_CcNameRight.l0 (k + 1) y0 y1 y2))
  | 0 => ⟨fun _ _ _ _ r h => by simp [spec_CcNameRight.j0] at h, fun _ _ _ r h => by simp [spec_CcNameRight.l0] at h⟩
  | k + 1 => by
    obtain ⟨ih0, ih1⟩ := spec_CcNameRight.mono_l k
    refine ⟨?_, ?_⟩
    · intro y0 y1 y2 y3
      unfold spec_CcNameRight.j0
      repeat' first
      | (with_reducible exact ih0 _ _ _ _)
      | (with_reducible exact ih1 _ _ _)
      | (with_reducible exact LeO.refl _)
      | (with_reducible exact LeO.none _)
      | (with_reducible refine LeO.ite ?_ ?_)
      | (with_reducible refine LeO.bind ?_ (fun _ => ?_))
      | exact ih0 _ _ _ _
      | exact ih1 _ _ _
      | exact LeO.none _
      | refine LeO.ite ?_ ?_
      | refine LeO.bind ?_ (fun _ => ?_)
    · intro y0 y1 y2
      unfold spec_CcNameRight.l0
      repeat' first
      | (with_reducible exact ih0 _ _ _ _)
      | (with_reducible exact ih1 _ _ _)
      | (with_reducible exact LeO.refl _)
      | (with_reducible exact LeO.none _)
      | (with_reducible refine LeO.ite ?_ ?_)
      | (with_reducible refine LeO.bind ?_ (fun _ => ?_))
      | exact ih0 _ _ _ _
      | exact ih1 _ _ _
      | exact LeO.none _
      | refine LeO.ite ?_ ?_
      | refine LeO.bind ?_ (fun _ => ?_)
set_option maxRecDepth 100000 in
theorem spec_CcNameRight.mono : ∀ a0 a1 a2 k, LeO (spec_CcNameRight.f k a0 a1 a2) (spec_CcNameRight.f (k + 1) a0 a1 a2) := by
  intro a0 a1 a2 k
  obtain ⟨ih0, ih1⟩ := spec_CcNameRight.mono_l k
  unfold spec_CcNameRight.f
  repeat' first
      | (with_reducible exact ih0 _ _ _ _)
      | (with_reducible exact ih1 _ _ _)
      | (with_reducible exact LeO.refl _)
      | (with_reducible exact LeO.none _)
      | (with_reducible refine LeO.ite ?_ ?_)
      | (with_reducible refine LeO.bind ?_ (fun _ => ?_))
      | exact ih0 _ _ _ _
      | exact ih1 _ _ _
      | exact LeO.none _
      | refine LeO.ite ?_ ?_
      | refine LeO.bind ?_ (fun _ => ?_)
set_option maxHeartbeats 8000000 in
set_option maxRecDepth 100000 in
theorem spec_CcNameRight.calls (k : Nat) (a0_0 : ByteArray) (A0_1 : Option Addr) (c0_1 : Nat) (l0_1 : List ByteArray) (a0_2 : Int) (r : Bool) (w : World) (hr0_1 : Kd.C Kd.string w A0_1 l0_1.length l0_1) (hc0_1 : l0_1.length ≤ c0_1) (h : spec_CcNameRight.f k a0_0 l0_1 a0_2 = some r) :
    Calls Try.prog 9 #[.agg #[.string a0_0, .slice A0_1 l0_1.length c0_1, .int .i32 a0_2]] w fun e w' => e = .returned (.bool r) ∧ Below w.heap.size w w' := by
  have hu24 := Try.underlying24
  have HR0_1 := Aside0.mk hr0_1
  have HC0_1 := Aside0.mk hc0_1
  clear hr0_1 hc0_1
  have HB := Aside0.mk (Below.refl w.heap.size w)
  have H : (if (a0_0.size : Int) > 200 then (spec_CcNameRight.j0 k true a0_0 l0_1 a0_2) else (spec_CcNameRight.j0 k (decide ((l0_1.length : Int) > 8)) a0_0 l0_1 a0_2)) = some r := h
  clear h
  have HC2 := Aside0.mk H
  clear H
  go_enter Try.func9, Try.ntmps9
  go_upto_region 1 with (first | ((with_reducible refine gate_dst (N := 1) rfl ?_); (try (refine gate_guard (by rfl) ?_; dsimp only)); refine box_event ?hg (N := 1) ?hd (cs := #[.string a0_0, .slice A0_1 l0_1.length c0_1, .int .i32 a0_2]) (t := 24) ?hr ?_; (case hd => rfl); (case hg => rfl); (case hr => first | (go_simp; done) | (go_simp; rfl)); intro gb108 hg w3 hbox hb; have n0_ := Aside0.mk (below_step (by repeat (first | (with_reducible first | exact HB.out | apply below_alloc | apply pw_below_drewN | apply below_drew1) | exact HB.out)) hb); have n1_ := Aside0.mk (hbox); have n2_ := Aside0.mk ((by rw [hg]; exact (below_size (by repeat (first | (with_reducible first | exact HB.out | apply below_alloc | apply pw_below_drewN | apply below_drew1) | exact HB.out))) : w.heap.size ≤ gb108)); have n3_ := Aside0.mk ((by rw [hg]; exact (below_size (by repeat (first | (with_reducible first | exact HB.out | apply below_alloc | apply pw_below_drewN | apply below_drew1) | exact HB.out))) : w.heap.size ≤ gb108)); clear HB; have HB := n0_; have BK108 := n1_; have GW108 := n2_; have GE108 := n3_; clear n0_ n1_ n2_ n3_; clear hb hbox hg))
  (try simp only [Act.put, List.setIfInBounds_toArray, List.set_cons_zero, List.set_cons_succ])
  go_cut [14] (fun v14 wc => ∃ (kq : Nat) (x14_1 : Bool), v14 = .bool x14_1 ∧ Aside0 (spec_CcNameRight.j0 kq x14_1 a0_0 l0_1 a0_2 = some r) ∧ Aside0 (kq ≤ k) ∧ Aside0 (wc.heap[gb108]? = some (.cells #[.string a0_0, (.slice A0_1 l0_1.length c0_1), .int .i32 a0_2] 24 (0, 0))) ∧ Aside0 (Below w.heap.size w wc))
  case first =>
    have H := HC2.out
    clear HC2
    by_cases c4 : (a0_0.size : Int) > 200
    · rw [if_pos c4] at H
      have c4b0 : decide (200 < (a0_0.size : Int)) = true := decide_eq_true c4
      have c4b1 : decide (200 < a0_0.size) = true := decide_eq_true (by omega)
      clear c4
      (first | rw [c4b0] | (simp only [i64_w, i32_w]; rw [c4b0]) | skip)
      have H' := Aside0.mk H
      clear H
      have hcz5_0 : w3.cell? ⟨gb108, 0, none⟩ = some (.string a0_0) := (blk_cell BK108.out 0).trans rfl
      have hcz5_1 : w3.cell? ⟨gb108, 1, none⟩ = some (.slice A0_1 l0_1.length c0_1) := (blk_cell BK108.out 1).trans rfl
      have hcz5_2 : w3.cell? ⟨gb108, 2, none⟩ = some (.int .i32 a0_2) := (blk_cell BK108.out 2).trans rfl
      have hfz5_0 := blk_frozen BK108.out 0
      have hfz5_1 := blk_frozen BK108.out 1
      have hfz5_2 := blk_frozen BK108.out 2
      go_wp2
      go_meet
      case rel => exact ⟨_, (true), (by first | rfl | (simp; done) | (simp [*]; done)), H', ⟨by first | omega | exact Nat.le_refl _⟩, ⟨by (with_reducible repeat (first | refine blk_drewN ?_ _ | refine blk_drew ?_ | refine blk_alloc ?_ _)); exact BK108.out⟩, ⟨by repeat (first | (with_reducible first | exact HB.out | apply below_alloc | apply pw_below_drewN | apply below_drew1 | refine below_set ?_ GE108.out) | exact HB.out)⟩⟩
    · rw [if_neg c4] at H
      have c4b0 : decide (200 < (a0_0.size : Int)) = false := decide_eq_false c4
      have c4b1 : decide (200 < a0_0.size) = false := decide_eq_false (by omega)
      clear c4
      (first | rw [c4b0] | (simp only [i64_w, i32_w]; rw [c4b0]) | skip)
      have H' := Aside0.mk H
      clear H
      have hcz6_0 : w3.cell? ⟨gb108, 0, none⟩ = some (.string a0_0) := (blk_cell BK108.out 0).trans rfl
      have hcz6_1 : w3.cell? ⟨gb108, 1, none⟩ = some (.slice A0_1 l0_1.length c0_1) := (blk_cell BK108.out 1).trans rfl
      have hcz6_2 : w3.cell? ⟨gb108, 2, none⟩ = some (.int .i32 a0_2) := (blk_cell BK108.out 2).trans rfl
      have hfz6_0 := blk_frozen BK108.out 0
      have hfz6_1 := blk_frozen BK108.out 1
      have hfz6_2 := blk_frozen BK108.out 2
      go_wp2
      go_meet
      case rel => exact ⟨_, (decide ((l0_1.length : Int) > 8)), (by first | rfl | (simp; done) | (simp [*]; done)), H', ⟨by first | omega | exact Nat.le_refl _⟩, ⟨by (with_reducible repeat (first | refine blk_drewN ?_ _ | refine blk_drew ?_ | refine blk_alloc ?_ _)); exact BK108.out⟩, ⟨by repeat (first | (with_reducible first | exact HB.out | apply below_alloc | apply pw_below_drewN | apply below_drew1 | refine below_set ?_ GE108.out) | exact HB.out)⟩⟩
  case rest =>
    clear HC2
    try clear p2
    try clear c4
    try clear c4b0
    try clear c4b1
    try clear hcz5_0
    try clear hcz5_1
    try clear hcz5_2
    try clear hcz6_0
    try clear hcz6_1
    try clear hcz6_2
    try clear hfz5_0
    try clear hfz5_1
    try clear hfz5_2
    try clear hfz6_0
    try clear hfz6_1
    try clear hfz6_2
    obtain ⟨kq, x14_1, rfl, HA, HJ1, BK108, HB⟩ := hcut
    cases kq with
    | zero => exact absurd HA.out (by simp [spec_CcNameRight.j0])
    | succ kj1 =>
      have H := HA.out
      clear HA
      simp only [spec_CcNameRight.j0] at H
      by_cases c7 : x14_1 = true
      · subst c7
        have H1 : (some false) = some r := by rw [if_pos rfl] at H; exact H
        clear H
        have H := H1
        clear H1
        obtain rfl := Option.some.inj H
        go_wp2
        go_ret
        exact ⟨by first | rfl | (simp [errW_none, errW_some] <;> rfl) | (simp [*, errW_none, errW_some] <;> rfl), by repeat (first | (with_reducible first | exact HB.out | apply below_alloc | apply pw_below_drewN | apply below_drew1 | refine below_set ?_ GE108.out) | exact HB.out)⟩
      · replace c7 := Bool.eq_false_iff.mpr c7
        subst c7
        have H1 : (spec_CcNameRight.l0 kj1 l0_1 (l0_1.length : Int) 0) = some r := by rw [if_neg (show ¬ (false = true) by decide)] at H; exact H
        clear H
        have H := H1
        clear H1
        have H' := Aside0.mk H
        clear H
        have hcz8_0 : wc.cell? ⟨gb108, 0, none⟩ = some (.string a0_0) := (blk_cell BK108.out 0).trans rfl
        have hcz8_1 : wc.cell? ⟨gb108, 1, none⟩ = some (.slice A0_1 l0_1.length c0_1) := (blk_cell BK108.out 1).trans rfl
        have hcz8_2 : wc.cell? ⟨gb108, 2, none⟩ = some (.int .i32 a0_2) := (blk_cell BK108.out 2).trans rfl
        have hfz8_0 := blk_frozen BK108.out 0
        have hfz8_1 := blk_frozen BK108.out 1
        have hfz8_2 := blk_frozen BK108.out 2
        go_wp2
        go_loopg [18] kj1 (fun kq v18 w' => ∃ (x18_2 : Int), v18 = .int .i64 x18_2 ∧ Aside0 (spec_CcNameRight.l0 kq l0_1 (l0_1.length : Int) x18_2 = some r) ∧ Aside0 (kq ≤ kj1) ∧ Aside0 (w'.heap[gb108]? = some (.cells #[.string a0_0, (.slice A0_1 l0_1.length c0_1), .int .i32 a0_2] 24 (0, 0))) ∧ Aside0 (Below w.heap.size w w'))
        case atStart => exact ⟨(0), (by first | rfl | (simp; done) | (simp [*]; done)), H', ⟨Nat.le_refl _⟩, ⟨by (with_reducible repeat (first | refine blk_drewN ?_ _ | refine blk_drew ?_ | refine blk_alloc ?_ _)); exact BK108.out⟩, ⟨by repeat (first | (with_reducible first | exact HB.out | apply below_alloc | apply pw_below_drewN | apply below_drew1 | refine below_set ?_ GE108.out) | exact HB.out)⟩⟩
        case round =>
          clear H'
          try clear p2
          try clear c4
          try clear c4b0
          try clear c4b1
          try clear c7
          try clear hcz5_0
          try clear hcz5_1
          try clear hcz5_2
          try clear hcz6_0
          try clear hcz6_1
          try clear hcz6_2
          try clear hcz8_0
          try clear hcz8_1
          try clear hcz8_2
          try clear hfz5_0
          try clear hfz5_1
          try clear hfz5_2
          try clear hfz6_0
          try clear hfz6_1
          try clear hfz6_2
          try clear hfz8_0
          try clear hfz8_1
          try clear hfz8_2
          try clear p2
          obtain ⟨x18_2, rfl, HA, HK2, BK108, HB⟩ := hrel
          cases gk with
          | zero => exact absurd HA.out (by simp [spec_CcNameRight.l0])
          | succ k2 =>
            have H := HA.out
            clear HA
            simp only [spec_CcNameRight.l0] at H
            by_cases c9 : x18_2 < (l0_1.length : Int)
            · rw [if_pos c9] at H
              have c9b0 : decide (x18_2 < (l0_1.length : Int)) = true := decide_eq_true c9
              clear c9
              by_cases c10 : 0 ≤ x18_2
              · rw [if_pos c10] at H
                have c10b0 : decide (0 ≤ x18_2) = true := decide_eq_true c10
                clear c10
                by_cases c11 : x18_2 < (l0_1.length : Int)
                · rw [if_pos c11] at H
                  have c11b0 : decide (x18_2 < (l0_1.length : Int)) = true := decide_eq_true c11
                  clear c11
                  by_cases c12 : ((rdOf ByteArray.empty l0_1 x18_2).size : Int) > 200
                  · rw [if_pos c12] at H
                    have c12b0 : decide (200 < ((rdOf ByteArray.empty l0_1 x18_2).size : Int)) = true := decide_eq_true c12
                    have c12b1 : decide (200 < (rdOf ByteArray.empty l0_1 x18_2).size) = true := decide_eq_true (by omega)
                    clear c12
                    obtain rfl := Option.some.inj H
                    have p109 : 0 ≤ (x18_2 : Int) := of_decide_eq_true (by first | (with_reducible assumption) | assumption)
                    have q109 : x18_2 < (l0_1.length : Int) := of_decide_eq_true (by first | (with_reducible assumption) | assumption)
                    obtain ⟨ad109, e109, hx109_0⟩ := Kd.at_string HR0_1.out x18_2 p109 q109
                    cases e109
                    replace hx109_0 := (HB.out.cell (World.block_lt_of_cell? w _ hx109_0)).trans hx109_0
                    replace p109 := eq_true p109
                    replace q109 := eq_true q109
                    go_wp2
                    go_ret
                    exact ⟨by first | rfl | (simp [errW_none, errW_some] <;> rfl) | (simp [*, errW_none, errW_some] <;> rfl), by repeat (first | (with_reducible first | exact HB.out | apply below_alloc | apply pw_below_drewN | apply below_drew1 | refine below_set ?_ GE108.out) | exact HB.out)⟩
                  · rw [if_neg c12] at H
                    have c12b0 : decide (200 < ((rdOf ByteArray.empty l0_1 x18_2).size : Int)) = false := decide_eq_false c12
                    have c12b1 : decide (200 < (rdOf ByteArray.empty l0_1 x18_2).size) = false := decide_eq_false (by omega)
                    clear c12
                    have H' := Aside0.mk H
                    clear H
                    have p109 : 0 ≤ (x18_2 : Int) := of_decide_eq_true (by first | (with_reducible assumption) | assumption)
                    have q109 : x18_2 < (l0_1.length : Int) := of_decide_eq_true (by first | (with_reducible assumption) | assumption)
                    obtain ⟨ad109, e109, hx109_0⟩ := Kd.at_string HR0_1.out x18_2 p109 q109
                    cases e109
                    replace hx109_0 := (HB.out.cell (World.block_lt_of_cell? w _ hx109_0)).trans hx109_0
                    replace p109 := eq_true p109
                    replace q109 := eq_true q109
                    go_wp2
                    go_roundg k2
                    case measure => have := HJ1.out; have := HK2.out; omega
                    case rel => exact ⟨(wrap64 (x18_2 + 1)), (by first | rfl | (simp; done) | (simp [*]; done)), H', ⟨by have := HJ1.out; have := HK2.out; omega⟩, ⟨by (with_reducible repeat (first | refine blk_drewN ?_ _ | refine blk_drew ?_ | refine blk_alloc ?_ _)); exact BK108.out⟩, ⟨by repeat (first | (with_reducible first | exact HB.out | apply below_alloc | apply pw_below_drewN | apply below_drew1 | refine below_set ?_ GE108.out) | exact HB.out)⟩⟩
                · rw [if_neg c11] at H
                  exact absurd H (by simp)
              · rw [if_neg c10] at H
                exact absurd H (by simp)
            · rw [if_neg c9] at H
              have c9b0 : decide (x18_2 < (l0_1.length : Int)) = false := decide_eq_false c9
              clear c9
              obtain rfl := Option.some.inj H
              go_wp2
              go_ret
              exact ⟨by first | rfl | (simp [errW_none, errW_some] <;> rfl) | (simp [*, errW_none, errW_some] <;> rfl), by repeat (first | (with_reducible first | exact HB.out | apply below_alloc | apply pw_below_drewN | apply below_drew1 | refine below_set ?_ GE108.out) | exact HB.out)⟩

/-! ### spec_CcPart: function 26 -/
-- EXT rounds=0 making=1
-- INFO 63
def spec_CcPart.f (l0 : List S63) : Option (List S63) := if l0.length ≤ 1000000 then some l0 else none
set_option maxHeartbeats 1600000 in
theorem spec_CcPart.calls (A0 : Option Addr) (c0 : Nat) (l0 : List S63) (r : List S63) (w : World) (hr0 : Kd.C k63 w A0 l0.length l0) (hc0 : l0.length ≤ c0) (h : spec_CcPart.f l0 = some r) :
    Calls Try.prog 26 #[.slice A0 l0.length c0] w fun e w' => ∃ v0_ : Value, e = .returned (v0_) ∧ Kd.R k63 63 w' w.heap.size (fun _ => True) v0_ r ∧ Below w.heap.size w w' := by
  unfold spec_CcPart.f at h
  by_cases hs : l0.length ≤ 1000000
  case neg => rw [if_neg hs] at h; cases h
  rw [if_pos hs] at h
  obtain rfl := Option.some.inj h
  clear h
  have HL := Aside0.mk hs
  have HR := Aside0.mk hr0
  clear hs hr0
  cases A0 with
  | none =>
    have h0 : l0 = [] := by
      cases l0 with
      | nil => rfl
      | cons x xs => obtain ⟨ad, e, _⟩ := HR.out.2.2 (by simp); cases e
    subst h0
    have hnil : ∀ n : Nat, (binOp .eql 34 (.slice none n c0) (.slice none 0 0)).run Try.prog w = .ok (.bool true) w := fun n => Lib.run_eql_slice_nil w 34 63 none n c0 0 0 Try.underlying34
    go_enter Try.func26, Try.ntmps26
    go_wp2
    go_ret
    exact ⟨_, rfl, Kd.R_nil _ _ _ _ _, Below.refl _ _⟩
  | some ad =>
    have hnil : (binOp .eql 34 (.slice (some ad) l0.length c0) (.slice none 0 0)).run Try.prog w = .ok (.bool false) w := Lib.run_eql_slice_nil w 34 63 (some ad) l0.length c0 0 0 Try.underlying34
    go_enter Try.func26, Try.ntmps26
    go_wp2_with (first
      | ((with_reducible refine gate_dst (N := 5) rfl ?_); refine Kd.R_lit k63 _ 63 ?hg (N := 5) ?hd (xs := ([] : List S63)) (inner := []) (ok := fun _ => True) (okp := fun _ => True) ?hr ?hp (fun _ hk => hk) trivial (Below.refl _ _) (Nat.le_refl _) (by simp) ?_; (case hd => rfl); (case hg => rfl); (case hr => first | (go_simp; done) | (go_simp; rfl)); (case hp => exact (Reps.none _ _)); intro v1 w1 ho hb hg_ hnew_; clear hg_ hnew_; have HO := Aside0.mk ho; have HB := Aside0.mk hb; clear ho hb)
      | ((with_reducible refine gate_builtin (b := .append) (xs := #[.tmp 5, .tmp 6]) rfl ?_); at_builtin; refine Kd.R_append_rows k63 (w0 := w) w.heap.size rfl (.tmp 5) (.tmp 6) 34 63 (.agg #[(.int .i32 0), (.string ⟨#[]⟩)]) 24 rfl Try.underlying34 info63 rfl (by decide) (by omega) v1 ([] : List S63) l0 _ _ _ (fun _ => True) (fun _ => False) rfl rfl HO.out (Kd.C_below HR.out HB.out) (fun _ _ h => h) (fun _ h => h.elim) (fun _ _ => trivial) HB.out HB.out.size (by have := HL.out; simp; omega) ?_; intro v2 w2 ho2 hb2 hg2 hat2; have HO2 := Aside0.mk ho2; have HB2 := Aside0.mk hb2; clear ho2 hb2 hg2 hat2))
    go_ret
    exact ⟨_, rfl, by have := HO2.out; rwa [List.nil_append] at this, HB2.out⟩

end Go.Proofs.Ytnipcocllhfaoaa.A

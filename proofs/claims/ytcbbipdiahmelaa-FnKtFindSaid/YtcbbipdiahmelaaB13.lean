/- Entries are told to be the same; under what each theorem states. Written by a program of this session. -/
import Derived.Test.YtcbbipdiahmelaaB12
import Derived.Lib.SliceRun
namespace Go.Proofs.Ytcbbipdiahmelaa.B
open Go.RowKit Go.Proofs.YtcbbipdiahmelaaW.PrintWords Go.Proofs.YtcbbipdiahmelaaW.PrintLast
open Go.Proofs.Ytcbbipdiahmelaa.A (S25 S49 k25 k49)
set_option linter.unusedVariables false
set_option linter.unusedSimpArgs false
set_option maxRecDepth 100000
theorem pw_toList (a b : ByteArray) : a.toList = b.toList ↔ a = b := by
  constructor
  · intro h
    have e : ∀ s : ByteArray, s.toList = s.data.toList := fun s => ByteArray.toList_eq s
    rw [e, e] at h
    exact ByteArray.ext (Array.ext' h)
  · rintro rfl; rfl
/-- Rows of texts: are they equal. -/
theorem namesEq.any (xs ys : List ByteArray) (A1 A2 : Option Addr) (c1 c2 : Nat) (w : World) (h1 : Kd.C Kd.string w A1 xs.length xs) (h2 : Kd.C Kd.string w A2 ys.length ys) :
    Calls Try.prog 17 #[.slice A1 xs.length c1, .slice A2 ys.length c2] w fun e w' => e = .returned (.bool (decide (xs = ys))) ∧ Below w.heap.size w w' := by
  have hmx : (xs.length : Int) ≤ 9223372036854775807 := by have := Kd.C_max h1; omega
  have H1 := Aside0.mk h1
  have H2 := Aside0.mk h2
  clear h1 h2
  by_cases hl : xs.length = ys.length
  case neg =>
    rw [show decide (xs = ys) = false from decide_eq_false fun e => hl (congrArg List.length e)]
    have z0 : ((xs.length : Int) == (ys.length : Int)) = false := beq_eq_false_iff_ne.mpr (by omega)
    have z1 : ((xs.length : Int) != (ys.length : Int)) = true := bne_iff_ne.mpr (by omega)
    have z2 : (xs.length == ys.length) = false := beq_eq_false_iff_ne.mpr hl
    clear hl
    go_enter Try.func17, Try.ntmps17
    go_wp2
    go_ret
    exact ⟨rfl, Below.refl _ _⟩
  have z0 : ((xs.length : Int) == (ys.length : Int)) = true := beq_iff_eq.mpr (by omega)
  have z1 : ((xs.length : Int) != (ys.length : Int)) = false := bne_eq_false_iff_eq.mpr (by omega)
  have z2 : (xs.length == ys.length) = true := beq_iff_eq.mpr hl
  obtain ⟨r, hr⟩ : ∃ r, decide (xs = ys) = r := ⟨_, rfl⟩
  rw [hr]
  have HR := Aside0.mk hr
  have HL := Aside0.mk hl
  clear hr hl
  go_enter Try.func17, Try.ntmps17
  go_wp2
  go_loopw [13] (fun i wr => ∃ (j : Nat), j ≤ xs.length ∧ i = .int .i64 j ∧ Aside0 (xs.take j = ys.take j) ∧ Aside0 (Below w.heap.size w wr)) (fun i _ => xs.length - (intOf i).toNat)
  case atStart => exact ⟨0, Nat.zero_le _, rfl, ⟨rfl⟩, ⟨Below.refl _ _⟩⟩
  obtain ⟨j, hj, rfl, HT, BL⟩ := hrel
  by_cases hlt : j < xs.length
  case neg =>
    obtain rfl : j = xs.length := by omega
    have hnl : ¬ ((xs.length : Int) < (xs.length : Int)) := by omega
    have hrt : r = true := by
      have h := HT.out
      rw [List.take_length, HL.out, List.take_length] at h
      rw [← HR.out]
      exact decide_eq_true h
    subst hrt
    clear HT HR
    go_wp2
    go_ret
    exact ⟨rfl, BL.out⟩
  have hlt' : (j : Int) < (xs.length : Int) := by omega
  have hlt2 : (j : Int) < (ys.length : Int) := by have := HL.out; omega
  have hj0 : (0 : Int) ≤ (j : Int) := by omega
  obtain ⟨a1, rfl, k1⟩ := Kd.at_string (Kd.C_below H1.out BL.out) (j : Int) hj0 hlt'
  obtain ⟨a2, rfl, k2⟩ := Kd.at_string (Kd.C_below H2.out BL.out) (j : Int) hj0 hlt2
  rw [Int.toNat_natCast] at k1 k2
  have g1 : xs[j]? = some (rdOf ByteArray.empty xs (j : Int)) := by unfold rdOf; rw [Int.toNat_natCast, List.getD_eq_getElem?_getD, List.getElem?_eq_getElem hlt]; rfl
  have g2 : ys[j]? = some (rdOf ByteArray.empty ys (j : Int)) := by unfold rdOf; rw [Int.toNat_natCast, List.getD_eq_getElem?_getD, List.getElem?_eq_getElem (by omega)]; rfl
  generalize rdOf ByteArray.empty xs (j : Int) = x at *
  generalize rdOf ByteArray.empty ys (j : Int) = y at *
  have GG1 := Aside0.mk g1
  have GG2 := Aside0.mk g2
  clear g1 g2
  by_cases hxy : x = y
  · subst hxy
    have HT2 := Aside0.mk (show xs.take (j + 1) = ys.take (j + 1) from by rw [List.take_add_one, List.take_add_one, GG1.out, GG2.out, HT.out])
    clear HT
    go_wp2
    go_quiet (fail)
    go_wp2
    go_roundw
    case rel => exact ⟨j + 1, by omega, by go_num, HT2, ⟨pw_below_drewN BL.out _⟩⟩
    case measure => simp [intOf]; omega
  · have hrf : r = false := by
      rw [← HR.out]
      refine decide_eq_false fun e => hxy ?_
      have h1 := GG1.out
      rw [e, GG2.out] at h1
      exact (Option.some.inj h1).symm
    subst hrf
    have y0 : (x.toList == y.toList) = false := beq_eq_false_iff_ne.mpr fun e => hxy ((pw_toList _ _).1 e)
    have y1 : (x.toList != y.toList) = true := bne_iff_ne.mpr fun e => hxy ((pw_toList _ _).1 e)
    clear hxy HT HR
    go_wp2
    go_quiet (fail)
    go_wp2
    go_ret
    exact ⟨rfl, pw_below_drewN BL.out _⟩
/-- Equal rows of texts are told to be. -/
theorem namesEq.same (xs : List ByteArray) (A1 A2 : Option Addr) (c1 c2 : Nat) (w : World) (h1 : Kd.C Kd.string w A1 xs.length xs) (h2 : Kd.C Kd.string w A2 xs.length xs) :
    Calls Try.prog 17 #[.slice A1 xs.length c1, .slice A2 xs.length c2] w fun e w' => e = .returned (.bool true) ∧ Below w.heap.size w w' := by
  have h := namesEq.any xs xs A1 A2 c1 c2 w h1 h2
  rwa [show decide (xs = xs) = true from decide_eq_true rfl] at h

set_option maxHeartbeats 8000000 in
theorem same30 (e : S25) (A1 A2 : Option Addr) (c1 c2 : Nat) (w : World) (h1 : Kd.string.C w A1 e.f1.length e.f1) (h2 : Kd.string.C w A2 e.f1.length e.f1) :
    Calls Try.prog 30 #[.agg #[.string e.f0, .slice A1 e.f1.length c1, .int .i32 e.f2, .int .i64 e.f3, .int .u8 e.f4, .int .u32 e.f5, .int .i32 e.f6, .string e.f7], .agg #[.string e.f0, .slice A2 e.f1.length c2, .int .i32 e.f2, .int .i64 e.f3, .int .u8 e.f4, .int .u32 e.f5, .int .i32 e.f6, .string e.f7]] w fun x w' => x = .returned (.bool true) ∧ Below w.heap.size w w' := by
  have H1 := Aside0.mk h1
  have H2 := Aside0.mk h2
  have hu25 := Try.underlying25
  clear h1 h2
  go_enter Try.func30, Try.ntmps30
  go_upto_region 1 with (first
    | ((with_reducible refine gate_dst (N := 2) rfl ?_); refine box_event ?hg (N := 2) ?hd (cs := #[.string e.f0, .slice A1 e.f1.length c1, .int .i32 e.f2, .int .i64 e.f3, .int .u8 e.f4, .int .u32 e.f5, .int .i32 e.f6, .string e.f7]) (t := 25) ?hr ?_; (case hd => rfl); (case hg => rfl); (case hr => first | (go_simp; done) | (go_simp; rfl)); intro ga hga w1 hbox hb; have QA := Aside0.mk (show Box w1 ga 25 #[.string e.f0, .slice A1 e.f1.length c1, .int .i32 e.f2, .int .i64 e.f3, .int .u8 e.f4, .int .u32 e.f5, .int .i32 e.f6, .string e.f7] from hbox); have BA := Aside0.mk hb; clear hbox hb hga)
    | ((with_reducible refine gate_dst (N := 3) rfl ?_); refine box_event ?hg (N := 3) ?hd (cs := #[.string e.f0, .slice A2 e.f1.length c2, .int .i32 e.f2, .int .i64 e.f3, .int .u8 e.f4, .int .u32 e.f5, .int .i32 e.f6, .string e.f7]) (t := 25) ?hr ?_; (case hd => rfl); (case hg => rfl); (case hr => first | (go_simp; done) | (go_simp; rfl)); intro gb hgb w2 hbox hb; have QB := Aside0.mk (show Box w2 gb 25 #[.string e.f0, .slice A2 e.f1.length c2, .int .i32 e.f2, .int .i64 e.f3, .int .u8 e.f4, .int .u32 e.f5, .int .i32 e.f6, .string e.f7] from hbox); have QA2 := Aside0.mk (QA.out.below hb); have BB := Aside0.mk (below_step BA.out hb); clear hbox hb hgb)
    | fail)
  clear QA BA
  have ka0 := QA2.out.cell 0 (.string e.f0) rfl
  have ka1 := QA2.out.cell 1 (.slice A1 e.f1.length c1) rfl
  have kb0 := QB.out.cell 0 (.string e.f0) rfl
  have kb1 := QB.out.cell 1 (.slice A2 e.f1.length c2) rfl
  go_wp2_with fail
  refine (namesEq.same e.f1 A1 A2 c1 c2 _ (Kd.C_below H1.out BB.out) (Kd.C_below H2.out BB.out)).mono ?_
  rintro x w3 ⟨rfl, hb⟩
  have Q3 := Aside0.mk (QA2.out.below hb)
  have P3 := Aside0.mk (QB.out.below hb)
  have B3 := Aside0.mk (below_step BB.out hb)
  clear hb QA2 QB BB ka0 ka1 kb0 kb1
  have ka2 := Q3.out.cell 2 (.int .i32 e.f2) rfl
  have ka3 := Q3.out.cell 3 (.int .i64 e.f3) rfl
  have ka4 := Q3.out.cell 4 (.int .u8 e.f4) rfl
  have ka5 := Q3.out.cell 5 (.int .u32 e.f5) rfl
  have ka6 := Q3.out.cell 6 (.int .i32 e.f6) rfl
  have ka7 := Q3.out.cell 7 (.string e.f7) rfl
  have kb2 := P3.out.cell 2 (.int .i32 e.f2) rfl
  have kb3 := P3.out.cell 3 (.int .i64 e.f3) rfl
  have kb4 := P3.out.cell 4 (.int .u8 e.f4) rfl
  have kb5 := P3.out.cell 5 (.int .u32 e.f5) rfl
  have kb6 := P3.out.cell 6 (.int .i32 e.f6) rfl
  have kb7 := P3.out.cell 7 (.string e.f7) rfl
  go_wp2
  go_ret
  exact ⟨rfl, B3.out⟩
set_option maxHeartbeats 8000000 in
theorem same29 (e : S25) (A1 A2 : Option Addr) (c1 c2 : Nat) (cx cy : Array Value) (w : World) (hx : cx = #[.string e.f0, .slice A1 e.f1.length c1, .int .i32 e.f2, .int .i64 e.f3, .int .u8 e.f4, .int .u32 e.f5, .int .i32 e.f6, .string e.f7]) (hy : cy = #[.string e.f0, .slice A2 e.f1.length c2, .int .i32 e.f2, .int .i64 e.f3, .int .u8 e.f4, .int .u32 e.f5, .int .i32 e.f6, .string e.f7]) (h1 : Kd.string.C w A1 e.f1.length e.f1) (h2 : Kd.string.C w A2 e.f1.length e.f1) :
    Calls Try.prog 29 #[.agg cx, .agg cy] w fun x w' => x = .returned (.bool true) ∧ Below w.heap.size w w' := by
  have H1 := Aside0.mk h1
  have H2 := Aside0.mk h2
  have HX := Aside0.mk hx
  have HY := Aside0.mk hy
  have SX := Aside0.mk (show cx.size = 8 ∧ cx.all (·.oneCell') = true from by subst hx; exact ⟨rfl, by simp [Value.oneCell']⟩)
  have SY := Aside0.mk (show cy.size = 8 ∧ cy.all (·.oneCell') = true from by subst hy; exact ⟨rfl, by simp [Value.oneCell']⟩)
  clear h1 h2
  subst hx hy
  go_enter Try.func29, Try.ntmps29
  go_wp2_with (first
    | ((with_reducible refine gate_dst (N := 2) rfl ?_); refine box_event ?hg (N := 2) ?hd (cs := #[.string e.f0, .slice A1 e.f1.length c1, .int .i32 e.f2, .int .i64 e.f3, .int .u8 e.f4, .int .u32 e.f5, .int .i32 e.f6, .string e.f7]) (t := 49) ?hr ?_; (case hd => rfl); (case hg => rfl); (case hr => first | (go_simp; done) | (go_simp; rfl)); intro ga hga w1 hbox hb; have QA := Aside0.mk (show Box w1 ga 49 #[.string e.f0, .slice A1 e.f1.length c1, .int .i32 e.f2, .int .i64 e.f3, .int .u8 e.f4, .int .u32 e.f5, .int .i32 e.f6, .string e.f7] from hbox); have BA := Aside0.mk hb; clear hbox hb hga)
    | ((with_reducible refine gate_dst (N := 3) rfl ?_); refine box_event ?hg (N := 3) ?hd (cs := #[.string e.f0, .slice A2 e.f1.length c2, .int .i32 e.f2, .int .i64 e.f3, .int .u8 e.f4, .int .u32 e.f5, .int .i32 e.f6, .string e.f7]) (t := 25) ?hr ?_; (case hd => rfl); (case hg => rfl); (case hr => first | (go_simp; done) | (go_simp; rfl)); intro gb hgb w2 hbox hb; have QB := Aside0.mk (show Box w2 gb 25 #[.string e.f0, .slice A2 e.f1.length c2, .int .i32 e.f2, .int .i64 e.f3, .int .u8 e.f4, .int .u32 e.f5, .int .i32 e.f6, .string e.f7] from hbox); have QA2 := Aside0.mk (QA.out.below hb); have BB := Aside0.mk (below_step BA.out hb); clear hbox hb hgb)
    | ((with_reducible refine gate_dst (N := 5) rfl ?_); refine row_event ?hg (N := 5) ?hd 49 (.tmp 2) ga 49 #[.string e.f0, .slice A1 e.f1.length c1, .int .i32 e.f2, .int .i64 e.f3, .int .u8 e.f4, .int .u32 e.f5, .int .i32 e.f6, .string e.f7] _ ?ho ?hx QA2.out Try.underlying49 ?hq ?hi ?_; (case hg => rfl); (case hd => rfl); (case ho => rfl); (case hx => first | rfl | (go_simp; done)); (case hq => rfl); (case hi => exact size49))
    | ((with_reducible refine gate_dst (N := 6) rfl ?_); refine row_event ?hg (N := 6) ?hd 25 (.tmp 3) gb 25 #[.string e.f0, .slice A2 e.f1.length c2, .int .i32 e.f2, .int .i64 e.f3, .int .u8 e.f4, .int .u32 e.f5, .int .i32 e.f6, .string e.f7] _ ?ho ?hx QB.out Try.underlying25 ?hq ?hi ?_; (case hg => rfl); (case hd => rfl); (case ho => rfl); (case hx => first | rfl | (go_simp; done)); (case hq => rfl); (case hi => exact size25))
    | fail)
  refine (same30 e A1 A2 c1 c2 _ (Kd.C_below H1.out BB.out) (Kd.C_below H2.out BB.out)).mono ?_
  rintro x w3 ⟨rfl, hb⟩
  have B3 := Aside0.mk (below_step BB.out hb)
  clear hb
  go_wp2
  go_ret
  exact ⟨rfl, B3.out⟩
set_option maxHeartbeats 8000000 in
theorem same28 (l : List S25) (A1 A2 : Option Addr) (c1 c2 : Nat) (w : World) (h1 : Kd.C k49 w A1 l.length (l.map out49)) (h2 : Kd.C k25 w A2 l.length l) :
    Calls Try.prog 28 #[.slice A1 l.length c1, .slice A2 l.length c2, .func (.func 29) #[] #[]] w fun x w' => x = .returned (.bool true) ∧ Below w.heap.size w w' := by
  have hmx : (l.length : Int) ≤ 9223372036854775807 := by have := Kd.C_max h1; omega
  have H1 := Aside0.mk h1
  have H2 := Aside0.mk h2
  clear h1 h2
  go_enter Try.func28, Try.ntmps28
  go_wp2
  go_loopw [17] (fun i wr => ∃ (j : Nat), j ≤ l.length ∧ i = .int .i64 j ∧ Aside0 (Below w.heap.size w wr)) (fun i _ => l.length - (intOf i).toNat)
  case atStart => exact ⟨0, Nat.zero_le _, rfl, ⟨Below.refl _ _⟩⟩
  obtain ⟨j, hj, rfl, BJ⟩ := hrel
  by_cases hlt : j < l.length
  case neg =>
    obtain rfl : j = l.length := by omega
    have hnl : ¬ ((l.length : Int) < (l.length : Int)) := by omega
    go_wp2
    go_ret
    exact ⟨rfl, BJ.out⟩
  have hlt' : (j : Int) < (l.length : Int) := by omega
  have hj0 : (0 : Int) ≤ (j : Int) := by omega
  obtain ⟨ad, x, X1, d1, rfl, hx, hcx, _, gx⟩ := row49 (Kd.C_below H1.out BJ.out) j hlt (by simp)
  obtain ⟨ae, e, Y1, d2, rfl, he, hcy, _, gy⟩ := row25 (Kd.C_below H2.out BJ.out) j hlt rfl
  obtain rfl : out49 e = x := by rw [List.getElem?_map, he] at hx; exact Option.some.inj hx
  have HLT := Aside0.mk hlt
  have GX := Aside0.mk (show Kd.string.C wr X1 e.f1.length e.f1 from gx)
  have GY := Aside0.mk gy
  obtain ⟨cx, hcx2⟩ : ∃ z : Array Value, z = #[.string e.f0, .slice X1 e.f1.length d1, .int .i32 e.f2, .int .i64 e.f3, .int .u8 e.f4, .int .u32 e.f5, .int .i32 e.f6, .string e.f7] := ⟨_, rfl⟩
  obtain ⟨cy, hcy2⟩ : ∃ z : Array Value, z = #[.string e.f0, .slice Y1 e.f1.length d2, .int .i32 e.f2, .int .i64 e.f3, .int .u8 e.f4, .int .u32 e.f5, .int .i32 e.f6, .string e.f7] := ⟨_, rfl⟩
  have LX := Aside0.mk (show (∀ i u, cx.toList[i]? = some u → wr.cell? ((ad.add (j * 8)).add i) = some u) ∧ cx.toList.length = 8 from by subst hcx2; exact ⟨hcx, rfl⟩)
  have LY := Aside0.mk (show (∀ i u, cy.toList[i]? = some u → wr.cell? ((ae.add (j * 8)).add i) = some u) ∧ cy.toList.length = 8 from by subst hcy2; exact ⟨hcy, rfl⟩)
  have SX := Aside0.mk (show cx.size = 8 ∧ cx.all (·.oneCell') = true from by subst hcx2; exact ⟨rfl, by simp [Value.oneCell']⟩)
  have SY := Aside0.mk (show cy.size = 8 ∧ cy.all (·.oneCell') = true from by subst hcy2; exact ⟨rfl, by simp [Value.oneCell']⟩)
  have VX := Aside0.mk hcx2
  have VY := Aside0.mk hcy2
  clear hcx hcy hx he gx gy hcx2 hcy2 hlt
  go_wp2_with (first
    | ((with_reducible refine gate_dst (N := 21) rfl ?_); refine load_cells_event ?hg (N := 21) ?hd 49 (.tmp 20) (ad.add (j * 8)) cx.toList _ ?ho ?hx LX.out.1 Try.underlying49 ?hq ?hi ?_; (case hg => rfl); (case hd => rfl); (case ho => rfl); (case hx => first | rfl | (go_simp; done)); (case hq => rfl); (case hi => exact size49.trans (congrArg some LX.out.2.symm)))
    | ((with_reducible refine gate_dst (N := 8) rfl ?_); refine box_event ?hg (N := 8) ?hd (cs := #[.string ⟨#[]⟩, .slice none 0 0, .int .i32 0, .int .i64 0, .int .u8 0, .int .u32 0, .int .i32 0, .string ⟨#[]⟩]) (t := 49) ?hr ?_; (case hd => rfl); (case hg => rfl); (case hr => first | (go_simp; done) | (go_simp; rfl)); intro gx hgb w1 hbox hb; have HBX := Aside0.mk hbox; have HBB := Aside0.mk hb; have HGB := Aside0.mk (show wr.heap.size ≤ gx from by rw [hgb]; exact Nat.le_refl _); clear hbox hb hgb)
    | ((with_reducible refine gate_store (t := 49) (p := 8) (v := .tmp 21) rfl ?_); refine store_event ?hg 49 (.tmp 8) (.tmp 21) ?ho gx cx ?hx ?hy 49 _ HBX.out ?hi ?hl SX.out.2 ?_; (case hg => rfl); (case ho => rfl); (case hx => first | rfl | (go_simp; done)); (case hy => first | (simp only [Array.toArray_toList]; rfl) | (go_simp; done)); (case hi => exact size49.trans (congrArg some SX.out.1.symm)); (case hl => exact SX.out.1.symm); intro w2 hb2 hbl2 hsz2 hot2; have QX := Aside0.mk (show Box w2 gx 49 cx from hb2); have BX := Aside0.mk (hbl2 wr HBB.out HGB.out); have LY2 := Aside0.mk (show (∀ i u, cy.toList[i]? = some u → w2.cell? ((ae.add (j * 8)).add i) = some u) ∧ cy.toList.length = 8 from ⟨fun i u hu => pw_low BX.out (LY.out.1 i u hu), LY.out.2⟩); clear hb2 hbl2 hsz2 hot2)
    | ((with_reducible refine gate_dst (N := 25) rfl ?_); refine load_cells_event ?hg (N := 25) ?hd 25 (.tmp 24) (ae.add (j * 8)) cy.toList _ ?ho ?hx LY2.out.1 Try.underlying25 ?hq ?hi ?_; (case hg => rfl); (case hd => rfl); (case ho => rfl); (case hx => first | rfl | (go_simp; done)); (case hq => rfl); (case hi => exact size25.trans (congrArg some LY2.out.2.symm)))
    | ((with_reducible refine gate_dst (N := 9) rfl ?_); refine box_event ?hg (N := 9) ?hd (cs := #[.string ⟨#[]⟩, .slice none 0 0, .int .i32 0, .int .i64 0, .int .u8 0, .int .u32 0, .int .i32 0, .string ⟨#[]⟩]) (t := 25) ?hr ?_; (case hd => rfl); (case hg => rfl); (case hr => first | (go_simp; done) | (go_simp; rfl)); intro gy hgb w3 hbox hb; have HBY := Aside0.mk hbox; have HBC := Aside0.mk (below_step BX.out hb); have HGC := Aside0.mk (show wr.heap.size ≤ gy from by rw [hgb]; exact BX.out.size); have NE := Aside0.mk (show gx ≠ gy from by rw [hgb]; exact Nat.ne_of_lt QX.out.lt); have QX3 := Aside0.mk (QX.out.below hb); clear hbox hb hgb)
    | ((with_reducible refine gate_store (t := 25) (p := 9) (v := .tmp 25) rfl ?_); refine store_event ?hg 25 (.tmp 9) (.tmp 25) ?ho gy cy ?hx ?hy 25 _ HBY.out ?hi ?hl SY.out.2 ?_; (case hg => rfl); (case ho => rfl); (case hx => first | rfl | (go_simp; done)); (case hy => first | (simp only [Array.toArray_toList]; rfl) | (go_simp; done)); (case hi => exact size25.trans (congrArg some SY.out.1.symm)); (case hl => exact SY.out.1.symm); intro w4 hb2 hbl2 hsz2 hot2; have QY := Aside0.mk (show Box w4 gy 25 cy from hb2); have BY := Aside0.mk (hbl2 wr HBC.out HGC.out); have QX4 := Aside0.mk (show Box w4 gx 49 cx from (hot2 gx NE.out).trans QX3.out); clear hb2 hbl2 hsz2 hot2)
    | ((with_reducible refine gate_dst (N := 27) rfl ?_); refine row_event ?hg (N := 27) ?hd 49 (.tmp 8) gx 49 cx _ ?ho ?hx QX4.out Try.underlying49 ?hq ?hi ?_; (case hg => rfl); (case hd => rfl); (case ho => rfl); (case hx => first | rfl | (go_simp; done)); (case hq => rfl); (case hi => exact size49.trans (congrArg some SX.out.1.symm)))
    | ((with_reducible refine gate_dst (N := 28) rfl ?_); refine row_event ?hg (N := 28) ?hd 25 (.tmp 9) gy 25 cy _ ?ho ?hx QY.out Try.underlying25 ?hq ?hi ?_; (case hg => rfl); (case hd => rfl); (case ho => rfl); (case hx => first | rfl | (go_simp; done)); (case hq => rfl); (case hi => exact size25.trans (congrArg some SY.out.1.symm)))
    | fail)
  refine (same29 e X1 Y1 d1 d2 cx cy w4 VX.out VY.out (Kd.C_below GX.out BY.out) (Kd.C_below GY.out BY.out)).mono ?_
  rintro x w5 ⟨rfl, hb⟩
  have B5 := Aside0.mk (below_step BJ.out (below_step BY.out hb))
  clear hb
  go_wp2_with fail
  go_roundw
  case rel => exact ⟨j + 1, HLT.out, by go_num, B5⟩
  case measure => have := HLT.out; simp [intOf]; omega
/-- Entries of impl are told to be the entries that they were read from. -/
theorem same14 (l : List S25) (A1 A2 : Option Addr) (c1 c2 : Nat) (w : World) (h1 : Kd.C k49 w A1 l.length (l.map out49)) (h2 : Kd.C k25 w A2 l.length l) :
    Calls Try.prog 14 #[.slice A1 l.length c1, .slice A2 l.length c2] w fun x w' => x = .returned (.bool true) ∧ Below w.heap.size w w' := by
  have H1 := Aside0.mk h1
  have H2 := Aside0.mk h2
  clear h1 h2
  go_enter Try.func14, Try.ntmps14
  go_wp2_with fail
  refine (same28 l A1 A2 c1 c2 _ H1.out H2.out).mono ?_
  rintro x w5 ⟨rfl, hb⟩
  have B5 := Aside0.mk hb
  clear hb
  go_wp2
  go_ret
  exact ⟨rfl, B5.out⟩
end Go.Proofs.Ytcbbipdiahmelaa.B

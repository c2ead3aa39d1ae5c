/- Go functions of this seat come to the answers of the Lean functions that stand here ('.calls'), under what each theorem states and nothing else. Written by pw.py, a program of this session, with texts of its own. -/
import Derived.Test.YtnipcocllhfaoaaA0
import Derived.Test.YtnipcocllhfaoaaA2
import Derived.Test.YtnipcocllhfaoaaA3
import Derived.Test.YtnipcocllhfaoaaA4
import Derived.Test.YtnipcocllhfaoaaA5
import Derived.Test.YtnipcocllhfaoaaE0
namespace Go.Proofs.Ytnipcocllhfaoaa.A
open Go.RowKit Go.Proofs.YtnipcocllhfaoaaW.PrintWords Go.Proofs.YtnipcocllhfaoaaW.PrintLast
open Go.Proofs.Ytnipcocllhfaoaa.B (gate_callee gate_builtin)
set_option linter.unusedVariables false
set_option linter.unusedSimpArgs false
set_option maxRecDepth 100000

/-! ### spec_CacheBytes: function 12 -/
-- EXT rounds=1 making=1
-- NEEDS 27 28 29 14 8
def spec_CacheBytes.hd : ByteArray → List Int → Option ByteArray
  | o, [] => some o
  | o, n :: r => (spec_big.f n 8).bind fun b => (spec_counted.f b 2).bind fun d => if o.size + (2 + d.size) ≤ 9223372036854775807 then spec_CacheBytes.hd (o ++ ((⟨#[0, 1]⟩ : ByteArray) ++ d)) r else none
def spec_CacheBytes.cr (k : Nat) (v : Int) : ByteArray → List S36 → Option ByteArray
  | o, [] => some o
  | o, c :: r => (spec_CredBytes.f k c.f0.f0 c.f0.f1 c.f0.f2 c.f1.f0 c.f1.f1 c.f1.f2 c.f2 c.f3 c.f4 c.f5 c.f6 c.f7 c.f8 c.f9 c.f10 c.f11 c.f12 c.f13 v).bind fun b => if o.size + b.size ≤ 9223372036854775807 then spec_CacheBytes.cr k v (o ++ b) r else none
def spec_CacheBytes.st (a0 : Int) (l1 : List Int) (b0 : ByteArray) : Option ByteArray :=
  if a0 = 4 then (spec_CacheBytes.hd ⟨#[]⟩ l1).bind fun h => (spec_counted.f h 2).bind fun d => if 1 + b0.size + d.size ≤ 9223372036854775807 then some (((⟨#[5]⟩ : ByteArray) ++ b0) ++ d) else none else some ((⟨#[5]⟩ : ByteArray) ++ b0)
def spec_CacheBytes.f (k : Nat) (a0 : Int) (l1 : List Int) (a2_0 : ByteArray) (l2_1 : List ByteArray) (a2_2 : Int) (l3 : List S36) : Option ByteArray :=
  if l1.length ≤ 1000000 ∧ l3.length ≤ 1000000 then ((spec_big.f (IntKind.u64.wrap a0) 1).bind fun b0 => if 1 + b0.size ≤ 9223372036854775807 then ((spec_CacheBytes.st a0 l1 b0).bind fun o => (spec_nameBytes.f k a2_0 l2_1 a2_2).bind fun nb => if o.size + nb.size ≤ 9223372036854775807 then spec_CacheBytes.cr k a0 (o ++ nb) l3 else none) else none) else none
theorem spec_CacheBytes.cr_mono (k : Nat) (v : Int) : ∀ (l : List S36) (o : ByteArray), LeO (spec_CacheBytes.cr k v o l) (spec_CacheBytes.cr (k + 1) v o l)
  | [], _ => LeO.refl _
  | c :: r, o => LeO.bind (spec_CredBytes.mono _ _ _ _ _ _ _ _ _ _ _ _ _ _ _ _ _ _ _ _) fun b => LeO.ite (spec_CacheBytes.cr_mono k v r _) (LeO.none _)
theorem spec_CacheBytes.mono : ∀ a0 a1 a2 a3 a4 a5 k, LeO (spec_CacheBytes.f k a0 a1 a2 a3 a4 a5) (spec_CacheBytes.f (k + 1) a0 a1 a2 a3 a4 a5) := by
  intro a0 a1 a2 a3 a4 a5 k
  unfold spec_CacheBytes.f
  exact LeO.ite (LeO.bind (LeO.refl _) fun b => LeO.ite (LeO.bind (LeO.refl _) fun o => LeO.bind (spec_nameBytes.mono _ _ _ _) fun nb => LeO.ite (spec_CacheBytes.cr_mono k _ _ _) (LeO.none _)) (LeO.none _)) (LeO.none _)
theorem spec_CacheBytes.parts {k : Nat} {a0 : Int} {l1 : List Int} {a2_0 : ByteArray} {l2_1 : List ByteArray} {a2_2 : Int} {l3 : List S36} {r : ByteArray} (h : spec_CacheBytes.f k a0 l1 a2_0 l2_1 a2_2 l3 = some r) : ∃ b0 o1 nb, (l1.length ≤ 1000000 ∧ l3.length ≤ 1000000) ∧ spec_big.f (IntKind.u64.wrap a0) 1 = some b0 ∧ 1 + b0.size ≤ 9223372036854775807 ∧ spec_CacheBytes.st a0 l1 b0 = some o1 ∧ spec_nameBytes.f k a2_0 l2_1 a2_2 = some nb ∧ o1.size + nb.size ≤ 9223372036854775807 ∧ spec_CacheBytes.cr k a0 (o1 ++ nb) l3 = some r := by
  unfold spec_CacheBytes.f at h
  obtain ⟨hs, h⟩ := B.ite_some h
  obtain ⟨b0, hb0, h⟩ := Option.bind_eq_some_iff.1 h
  obtain ⟨hz0, h⟩ := B.ite_some h
  obtain ⟨o1, ho1, h⟩ := Option.bind_eq_some_iff.1 h
  obtain ⟨nb, hnb, h⟩ := Option.bind_eq_some_iff.1 h
  obtain ⟨hz1, h⟩ := B.ite_some h
  exact ⟨b0, o1, nb, hs, hb0, hz0, ho1, hnb, hz1, h⟩
theorem spec_CacheBytes.hd_parts {o : ByteArray} {n : Int} {l : List Int} {r : ByteArray} (h : spec_CacheBytes.hd o (n :: l) = some r) : ∃ b d, spec_big.f n 8 = some b ∧ spec_counted.f b 2 = some d ∧ o.size + (2 + d.size) ≤ 9223372036854775807 ∧ spec_CacheBytes.hd (o ++ ((⟨#[0, 1]⟩ : ByteArray) ++ d)) l = some r := by
  unfold spec_CacheBytes.hd at h
  obtain ⟨b, hb, h⟩ := Option.bind_eq_some_iff.1 h
  obtain ⟨d, hd, h⟩ := Option.bind_eq_some_iff.1 h
  obtain ⟨hz, h⟩ := B.ite_some h
  exact ⟨b, d, hb, hd, hz, h⟩
theorem spec_CacheBytes.st_parts {l1 : List Int} {b0 o1 : ByteArray} (h : spec_CacheBytes.st 4 l1 b0 = some o1) : ∃ hh d, spec_CacheBytes.hd ⟨#[]⟩ l1 = some hh ∧ spec_counted.f hh 2 = some d ∧ 1 + b0.size + d.size ≤ 9223372036854775807 ∧ o1 = ((⟨#[5]⟩ : ByteArray) ++ b0) ++ d := by
  unfold spec_CacheBytes.st at h
  rw [if_pos rfl] at h
  obtain ⟨hh, h1, h⟩ := Option.bind_eq_some_iff.1 h
  obtain ⟨d, h2, h⟩ := Option.bind_eq_some_iff.1 h
  obtain ⟨hz, h⟩ := B.ite_some h
  exact ⟨hh, d, h1, h2, hz, (Option.some.inj h).symm⟩
theorem spec_CacheBytes.cr_parts {k : Nat} {v : Int} {o : ByteArray} {c : S36} {l : List S36} {r : ByteArray} (h : spec_CacheBytes.cr k v o (c :: l) = some r) : ∃ b, spec_CredBytes.f k c.f0.f0 c.f0.f1 c.f0.f2 c.f1.f0 c.f1.f1 c.f1.f2 c.f2 c.f3 c.f4 c.f5 c.f6 c.f7 c.f8 c.f9 c.f10 c.f11 c.f12 c.f13 v = some b ∧ o.size + b.size ≤ 9223372036854775807 ∧ spec_CacheBytes.cr k v (o ++ b) l = some r := by
  unfold spec_CacheBytes.cr at h
  obtain ⟨b, h1, h⟩ := Option.bind_eq_some_iff.1 h
  obtain ⟨hz, h⟩ := B.ite_some h
  exact ⟨b, h1, hz, h⟩
theorem pw_dropInt (l : List Int) (j : Nat) (h : j < l.length) : l.drop j = rd l (j : Int) :: l.drop (j + 1) := by
  rw [List.drop_eq_getElem_cons h]
  unfold rd
  rw [Int.toNat_natCast, List.getD_eq_getElem?_getD, List.getElem?_eq_getElem h]
  rfl
set_option maxHeartbeats 8000000 in
theorem spec_CacheBytes.calls (k : Nat) (a0 : Int) (A1 : Option Addr) (c1 : Nat) (l1 : List Int) (a2_0 : ByteArray) (A2_1 : Option Addr) (c2_1 : Nat) (l2_1 : List ByteArray) (a2_2 : Int) (A3 : Option Addr) (c3 : Nat) (l3 : List S36) (r : ByteArray) (w : World) (hr1 : Kd.C (Kd.int .u64) w A1 l1.length l1) (hc1 : l1.length ≤ c1) (hr2_1 : Kd.C Kd.string w A2_1 l2_1.length l2_1) (hc2_1 : l2_1.length ≤ c2_1) (hr3 : Kd.C k36 w A3 l3.length l3) (hc3 : l3.length ≤ c3) (h : spec_CacheBytes.f k a0 l1 a2_0 l2_1 a2_2 l3 = some r) :
    Calls Try.prog 12 #[.int .u8 a0, .slice A1 l1.length c1, .agg #[.string a2_0, .slice A2_1 l2_1.length c2_1, .int .i32 a2_2], .slice A3 l3.length c3] w fun e w' => e = .returned (.string r) ∧ Below w.heap.size w w' := by
  obtain ⟨b0, o1, nb, hs, hb0, hz0, ho1, hnb, hz1, h⟩ := spec_CacheBytes.parts h
  have HS := Aside0.mk hs
  have HB0 := Aside0.mk hb0
  have HO1 := Aside0.mk ho1
  have HNB := Aside0.mk hnb
  have HZ1 := Aside0.mk hz1
  have HH := Aside0.mk h
  have R1 := Aside0.mk hr1
  have R2 := Aside0.mk hr2_1
  have R3 := Aside0.mk hr3
  have C2 := Aside0.mk hc2_1
  have hu24 := Try.underlying24
  clear hs hb0 ho1 hnb hz1 h hr1 hr2_1 hr3 hc1 hc2_1 hc3
  go_enter Try.func12, Try.ntmps12
  go_wp2_with (first
    | ((with_reducible refine gate_dst (N := 6) rfl ?_); refine box_event ?hg (N := 6) ?hd (cs := #[.string a2_0, .slice A2_1 l2_1.length c2_1, .int .i32 a2_2]) (t := 24) ?hr ?_; (case hd => rfl); (case hg => rfl); (case hr => first | (go_simp; done) | (go_simp; rfl)); intro gb hgb w1 hbox hb; have HBX := Aside0.mk hbox; have HBB := Aside0.mk hb; have HGB := Aside0.mk (show w.heap.size ≤ gb from by rw [hgb]; exact Nat.le_refl _); clear hbox hb hgb)
    | fail)
  refine (spec_big.calls _ _ b0 _ HB0.out).mono ?_
  rintro e w2 ⟨rfl, hb⟩
  have HBX2 := Aside0.mk (blk_below HBX.out hb)
  have HBB2 := Aside0.mk (below_step HBB.out hb)
  clear hb HBX HBB HB0
  have hs1 := HS.out.1
  go_upto_if 20 with fail
  (try simp only [Act.put, List.setIfInBounds_toArray, List.set_cons_zero, List.set_cons_succ])
  go_cut [9] (fun v9 wc => v9 = .string o1 ∧ Aside0 (wc.heap[gb]? = some (.cells #[.string a2_0, .slice A2_1 l2_1.length c2_1, .int .i32 a2_2] 24 (0, 0))) ∧ Aside0 (Below w.heap.size w wc))
  case first =>
    by_cases h4 : a0 = 4
    · obtain ⟨hh, d, h1, h2, hz, rfl⟩ := spec_CacheBytes.st_parts (h4 ▸ HO1.out)
      have h4b : (a0 == 4) = true := by simp [h4]
      have h4c : decide (a0 = 4) = true := by simp [h4]
      clear h4
      rw [h4b]
      have H1 := Aside0.mk h1
      have H2 := Aside0.mk h2
      clear h1 h2 HO1
      go_wp2_with fail
      go_loopw [10, 23] (fun v10 i wr => ∃ (j : Nat) (o : ByteArray), j ≤ l1.length ∧ i = .int .i64 j ∧ v10 = .string o ∧ Aside0 (spec_CacheBytes.hd o (l1.drop j) = some hh) ∧ Aside0 (wr.heap[gb]? = some (.cells #[.string a2_0, .slice A2_1 l2_1.length c2_1, .int .i32 a2_2] 24 (0, 0))) ∧ Aside0 (Below w.heap.size w wr)) (fun _ i _ => l1.length - (intOf i).toNat)
      case atStart => exact ⟨0, ⟨#[]⟩, Nat.zero_le _, rfl, rfl, H1, HBX2, HBB2⟩
      clear H1 HBX2 HBB2
      obtain ⟨j, o, hj, rfl, rfl, H1, HBX, HBB⟩ := hrel
      by_cases hlt : j < l1.length
      case neg =>
        obtain rfl : j = l1.length := by omega
        have hnl : ¬ ((l1.length : Int) < (l1.length : Int)) := by omega
        have ho : o = hh := by have := H1.out; rw [List.drop_length] at this; exact Option.some.inj this
        subst ho
        clear H1 hj hlt
        go_wp2_with fail
        refine (spec_counted.calls _ _ d _ H2.out).mono ?_
        rintro e w3 ⟨rfl, hb⟩
        have HBX3 := Aside0.mk (blk_below HBX.out hb)
        have HBB3 := Aside0.mk (below_step HBB.out hb)
        clear hb HBX HBB
        go_wp2
        go_meet
        case rel => exact ⟨rfl, HBX3, HBB3⟩
      have hlt' : (j : Int) < (l1.length : Int) := by omega
      have hj0 : (0 : Int) ≤ (j : Int) := by omega
      obtain ⟨ad, rfl, hcell⟩ := Kd.at_int R1.out (j : Int) hj0 hlt'
      rw [Int.toNat_natCast] at hcell
      have hcell2 := (HBB.out.cell (World.block_lt_of_cell? w _ hcell)).trans hcell
      have h1 := H1.out
      rw [pw_dropInt l1 j hlt] at h1
      clear H1 hcell
      generalize rd l1 (j : Int) = n at *
      obtain ⟨b, d1, hb1, hd1, hz2, hr⟩ := spec_CacheBytes.hd_parts h1
      have H3 := Aside0.mk hb1
      have H4 := Aside0.mk hd1
      have H5 := Aside0.mk hr
      clear hb1 hd1 hr h1
      go_wp2_with fail
      refine (spec_big.calls _ _ b _ H3.out).mono ?_
      rintro e w3 ⟨rfl, hb⟩
      have HBX3 := Aside0.mk (blk_below HBX.out hb)
      have HBB3 := Aside0.mk (below_step HBB.out hb)
      clear hb HBX HBB hcell2
      go_wp2_with fail
      refine (spec_counted.calls _ _ d1 _ H4.out).mono ?_
      rintro e w4 ⟨rfl, hb⟩
      have HBX4 := Aside0.mk (blk_below HBX3.out hb)
      have HBB4 := Aside0.mk (below_step HBB3.out hb)
      clear hb HBX3 HBB3
      go_wp2
      go_roundw
      case rel => exact ⟨j + 1, _, by omega, by go_num, rfl, H5, HBX4, HBB4⟩
      case measure => simp [intOf]; omega
    · have ho : o1 = (⟨#[5]⟩ : ByteArray) ++ b0 := by have := HO1.out; unfold spec_CacheBytes.st at this; rw [if_neg h4] at this; exact (Option.some.inj this).symm
      subst ho
      have h4b : decide (a0 = 4) = false := decide_eq_false h4
      clear HO1
      go_wp2
      go_meet
      case rel => exact ⟨rfl, HBX2, HBB2⟩
  case rest =>
    clear HO1 HBX2 HBB2
    obtain ⟨rfl, HBX, HBB⟩ := hcut
    have hz := HZ1.out
    have hc0 : wc.cell? ⟨gb, 0, none⟩ = some (.string a2_0) := (blk_cell HBX.out 0).trans rfl
    have hc1 : wc.cell? ⟨gb, 1, none⟩ = some (.slice A2_1 l2_1.length c2_1) := (blk_cell HBX.out 1).trans rfl
    have hc2 : wc.cell? ⟨gb, 2, none⟩ = some (.int .i32 a2_2) := (blk_cell HBX.out 2).trans rfl
    go_wp2_with fail
    refine (spec_nameBytes.calls k a2_0 _ _ l2_1 a2_2 nb _ (Kd.C_below R2.out HBB.out) C2.out HNB.out).mono ?_
    rintro e w3 ⟨rfl, hb⟩
    have HBB3 := Aside0.mk (below_step HBB.out hb)
    clear hb HBB HBX hc0 hc1 hc2
    have hs3 := HS.out.2
    go_wp2_with fail
    go_loopw [9, 44] (fun v9 i wr => ∃ (j : Nat) (o : ByteArray), j ≤ l3.length ∧ i = .int .i64 j ∧ v9 = .string o ∧ Aside0 (spec_CacheBytes.cr k a0 o (l3.drop j) = some r) ∧ Aside0 (Below w.heap.size w wr)) (fun _ i _ => l3.length - (intOf i).toNat)
    case atStart => exact ⟨0, _, Nat.zero_le _, rfl, rfl, HH, HBB3⟩
    clear HH HBB3
    obtain ⟨j, o, hj, rfl, rfl, HH, BL⟩ := hrel
    by_cases hlt : j < l3.length
    case neg =>
      obtain rfl : j = l3.length := by omega
      have hnl : ¬ ((l3.length : Int) < (l3.length : Int)) := by omega
      have ho : o = r := by have := HH.out; rw [List.drop_length] at this; exact Option.some.inj this
      subst ho
      clear HH hj hlt
      go_wp2
      go_ret
      exact ⟨rfl, BL.out⟩
    have hlt' : (j : Int) < (l3.length : Int) := by omega
    have hj0 : (0 : Int) ≤ (j : Int) := by omega
    obtain ⟨ad, X1, c1, X4, c4, X14, c14, X15, c15, rfl, hcells, m1, g1, m4, g4, m14, g14, m15, g15⟩ := pw_row36 (Kd.C_below R3.out BL.out) j hlt
    have hh := HH.out
    rw [pw_drop36 l3 j hlt] at hh
    clear HH
    generalize l3.getD j z36 = c at *
    obtain ⟨b, hb, hzb, hr⟩ := spec_CacheBytes.cr_parts hh
    have HT := Aside0.mk hb
    have HL := Aside0.mk (And.intro m1 (And.intro m4 (And.intro m14 m15)))
    have G1 := Aside0.mk g1
    have G4 := Aside0.mk g4
    have G14 := Aside0.mk g14
    have G15 := Aside0.mk g15
    have HH := Aside0.mk hr
    clear hh hb hr m1 m4 m14 m15 g1 g4 g14 g15
    obtain ⟨cs, hcs⟩ : ∃ x : Array Value, x = #[Value.string c.f0.f0, .slice X1 c.f0.f1.length c1, .int .i32 c.f0.f2, .string c.f1.f0, .slice X4 c.f1.f1.length c4, .int .i32 c.f1.f2, .int .i32 c.f2, .string c.f3, .int .i64 c.f4, .int .i64 c.f5, .int .i64 c.f6, .int .i64 c.f7, .bool c.f8, .int .u32 c.f9, .slice X14 c.f10.length c14, .slice X15 c.f11.length c15, .string c.f12, .string c.f13] := ⟨_, rfl⟩
    have HS2 := Aside0.mk (show cs.size = 18 ∧ cs.all (·.oneCell') = true from by subst hcs; exact ⟨rfl, by simp [Value.oneCell']⟩)
    have HC2 := Aside0.mk (show (∀ i u, cs.toList[i]? = some u → wr.cell? ((ad.add (j * 18)).add i) = some u) ∧ cs.toList.length = 18 from by subst hcs; exact ⟨hcells, rfl⟩)
    have HCS := Aside0.mk hcs
    clear hcs hcells
    go_wp2_with (first
      | ((with_reducible refine gate_dst (N := 47) rfl ?_); refine B.load_cells_event ?hg (N := 47) ?hd 36 (.tmp 46) (ad.add (j * 18)) cs.toList _ ?ho ?hx HC2.out.1 Try.underlying36 ?hq ?hi ?_; (case hg => rfl); (case hd => rfl); (case ho => rfl); (case hx => first | rfl | (go_simp; done)); (case hq => rfl); (case hi => exact pw_size36.trans (congrArg some HC2.out.2.symm)))
      | ((with_reducible refine gate_dst (N := 14) rfl ?_); refine box_event ?hg (N := 14) ?hd (cs := pw_zero36) (t := 36) ?hr ?_; (case hd => rfl); (case hg => rfl); (case hr => first | (go_simp; done) | (go_simp; rfl)); intro gb hgb w1 hbox hb; have HBX := Aside0.mk hbox; have HBB := Aside0.mk hb; have HGB := Aside0.mk (show wr.heap.size ≤ gb from by rw [hgb]; exact Nat.le_refl _); clear hbox hb hgb)
      | ((with_reducible refine gate_store (t := 36) (p := 14) (v := .tmp 47) rfl ?_); refine B.store_event ?hg 36 (.tmp 14) (.tmp 47) ?ho gb cs ?hx ?hy 36 _ HBX.out ?hi ?hl HS2.out.2 ?_; (case hg => rfl); (case ho => rfl); (case hx => first | rfl | (go_simp; done)); (case hy => first | (simp only [Array.toArray_toList]; rfl) | (go_simp; done)); (case hi => exact pw_size36.trans (congrArg some HS2.out.1.symm)); (case hl => exact HS2.out.1.symm); intro w2 hb2 hbl2 hsz2 hot2; have HB2 := Aside0.mk hb2; have HBL2 := Aside0.mk (hbl2 wr HBB.out HGB.out); clear hb2 hbl2 hsz2 hot2)
      | ((with_reducible refine gate_dst (N := 49) rfl ?_); refine B.row_event ?hg (N := 49) ?hd 36 (.tmp 14) gb 36 cs _ ?ho ?hx HB2.out Try.underlying36 ?hq ?hi ?_; (case hg => rfl); (case hd => rfl); (case ho => rfl); (case hx => first | rfl | (go_simp; done)); (case hq => rfl); (case hi => exact pw_size36.trans (congrArg some HS2.out.1.symm)))
      | fail)
    have hcall := spec_CredBytes.calls k c.f0.f0 X1 c1 c.f0.f1 c.f0.f2 c.f1.f0 X4 c4 c.f1.f1 c.f1.f2 c.f2 c.f3 c.f4 c.f5 c.f6 c.f7 c.f8 c.f9 X14 c14 c.f10 X15 c15 c.f11 c.f12 c.f13 a0 b w2 (Kd.C_below G1.out HBL2.out) HL.out.1 (Kd.C_below G4.out HBL2.out) HL.out.2.1 (Kd.C_below G14.out HBL2.out) HL.out.2.2.1 (Kd.C_below G15.out HBL2.out) HL.out.2.2.2 HT.out
    rw [← HCS.out] at hcall
    refine hcall.mono ?_
    clear hcall
    rintro e w4 ⟨rfl, hb4⟩
    have HB4 := Aside0.mk (below_step BL.out (below_step HBL2.out hb4))
    clear hb4 HBL2 HB2 HBB HBX
    go_wp2
    go_roundw
    case rel => exact ⟨j + 1, _, by omega, by go_num, rfl, HH, HB4⟩
    case measure => simp [intOf]; omega

end Go.Proofs.Ytnipcocllhfaoaa.A

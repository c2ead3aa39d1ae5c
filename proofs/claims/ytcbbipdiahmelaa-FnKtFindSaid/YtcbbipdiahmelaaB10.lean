/- Whether entries can be asked; under what each theorem states. Written by a program of this session. -/
import Derived.Test.YtcbbipdiahmelaaB9
namespace Go.Proofs.Ytcbbipdiahmelaa.B
open Go.RowKit Go.Proofs.YtcbbipdiahmelaaW.PrintWords Go.Proofs.YtcbbipdiahmelaaW.PrintLast
open Go.Proofs.Ytcbbipdiahmelaa.A (S25 k25)
set_option linter.unusedVariables false
set_option linter.unusedSimpArgs false
set_option maxRecDepth 100000
def bad (e : S25) : Bool := decide ((200 : Int) < (e.f0.size : Int)) || decide ((8 : Int) < (e.f1.length : Int)) || decide ((200 : Int) < (e.f7.size : Int)) || decide (e.f3 < 0) || decide (2147483648 ≤ e.f3) || decide (e.f6 < -32768) || decide (32768 ≤ e.f6) || (e.f5 == 0) || (e.f5 % 256 != e.f4)
structure OkL (l : List S25) : Prop where
  some_ : l.length ≠ 0
  few : l.length ≤ 20
  good : ∀ e ∈ l, bad e = false
  names : ∀ e ∈ l, ∀ s ∈ e.f1, s.size ≤ 200
theorem OkL.each {l : List S25} (h : OkL l) (hw : ∀ e ∈ l, (-2147483648 ≤ e.f2 ∧ e.f2 < 2147483648) ∧ (0 ≤ e.f4 ∧ e.f4 < 256) ∧ 0 ≤ e.f5 ∧ e.f5 < 4294967296) : ∀ e ∈ l, OkE e := by
  intro e he
  have hb := h.good e he
  obtain ⟨h2, h4, h5⟩ := hw e he
  simp [bad] at hb
  obtain ⟨⟨⟨⟨⟨⟨⟨⟨q0, q1⟩, q2⟩, q3⟩, q3'⟩, q6⟩, q6'⟩, q5⟩, q5'⟩ := hb
  exact ⟨by omega, by omega, h.names e he, h2, ⟨by omega, by omega⟩, h4, ⟨by omega, h5.2⟩, ⟨by omega, by omega⟩, by omega⟩
set_option maxHeartbeats 8000000 in
theorem ktRight_any (l : List S25) (A : Option Addr) (c : Nat) (w : World) (b : Bool) (hb : b = true ↔ OkL l) (hr : Kd.C k25 w A l.length l) (hmx : l.length ≤ 9223372036854775807) :
    Calls Try.prog 9 #[.slice A l.length c] w fun x w' => x = .returned (.bool b) ∧ Below w.heap.size w w' := by
  have HB := Aside0.mk hb
  have R1 := Aside0.mk hr
  have hu25 := Try.underlying25
  have hmx2 : (l.length : Int) ≤ 9223372036854775807 := by omega
  clear hb hr hmx
  by_cases h0 : l.length = 0
  · have hbf : b = false := by cases b with | false => rfl | true => exact absurd h0 (HB.out.1 rfl).some_
    subst hbf
    have z1 : ((l.length : Int) == 0) = true := by simp; exact List.length_eq_zero_iff.1 h0
    have z2 : (l.length : Int) = 0 := by omega
    clear HB
    go_enter Try.func9, Try.ntmps9
    go_wp2
    go_ret
    exact ⟨rfl, Below.refl _ _⟩
  by_cases h20 : 20 < l.length
  · have hbf : b = false := by cases b with | false => rfl | true => exact absurd (HB.out.1 rfl).few (by omega)
    subst hbf
    have z1 : ((l.length : Int) == 0) = false := by simp; intro h; simp [h] at h20
    have z3 : decide ((20 : Int) < (l.length : Int)) = true := decide_eq_true (by omega)
    clear HB h0
    go_enter Try.func9, Try.ntmps9
    go_wp2
    go_ret
    exact ⟨rfl, Below.refl _ _⟩
  have z1 : ((l.length : Int) == 0) = false := by simp; intro h; simp [h] at h0
  have z3 : decide ((20 : Int) < (l.length : Int)) = false := decide_eq_false (by omega)
  have HL := Aside0.mk (And.intro h0 (show l.length ≤ 20 from by omega))
  clear h0 h20
  go_enter Try.func9, Try.ntmps9
  go_wp2_with fail
  go_loopw [17] (fun i wr => ∃ (j : Nat), j ≤ l.length ∧ i = .int .i64 j ∧ Aside0 (∀ e ∈ l.take j, bad e = false ∧ ∀ s ∈ e.f1, s.size ≤ 200) ∧ Aside0 (Below w.heap.size w wr)) (fun i _ => l.length - (intOf i).toNat)
  case atStart => exact ⟨0, Nat.zero_le _, rfl, ⟨by simp⟩, ⟨Below.refl _ _⟩⟩
  clear z1 z3
  obtain ⟨j, hj, rfl, GJ, BJ⟩ := hrel
  by_cases hlt : j < l.length
  case neg =>
    obtain rfl : j = l.length := by omega
    have hnl : ¬ ((l.length : Int) < (l.length : Int)) := by omega
    have hbt : b = true := HB.out.2 (by have h1 := GJ.out; rw [List.take_length] at h1; exact ⟨HL.out.1, HL.out.2, fun e he => (h1 e he).1, fun e he => (h1 e he).2⟩)
    subst hbt
    clear HB GJ
    go_wp2
    go_ret
    exact ⟨rfl, BJ.out⟩
  have hlt' : (j : Int) < (l.length : Int) := by omega
  have hj0 : (0 : Int) ≤ (j : Int) := by omega
  obtain ⟨ad, e, A1, c1, rfl, hx, hcells, _, g1⟩ := row25 R1.out j hlt rfl
  have HX := Aside0.mk hx
  have HLT := Aside0.mk hlt
  have G1 := Aside0.mk g1
  have HMEM := Aside0.mk (List.mem_of_getElem? hx)
  obtain ⟨cs, hcs⟩ : ∃ y : Array Value, y = #[Value.string e.f0, .slice A1 e.f1.length c1, .int .i32 e.f2, .int .i64 e.f3, .int .u8 e.f4, .int .u32 e.f5, .int .i32 e.f6, .string e.f7] := ⟨_, rfl⟩
  have HC2 := Aside0.mk (show (∀ i u, cs.toList[i]? = some u → wr.cell? ((ad.add (j * 8)).add i) = some u) ∧ cs.toList.length = 8 from by subst hcs; exact ⟨fun i u hu => pw_low BJ.out (hcells i u hu), rfl⟩)
  have HS2 := Aside0.mk (show cs.size = 8 ∧ cs.all (·.oneCell') = true from by subst hcs; exact ⟨rfl, by simp [Value.oneCell']⟩)
  have HCS := Aside0.mk hcs
  have HZ25 : (Try.prog.info? 25).map (·.size) = some cs.size := size25.trans (congrArg some HS2.out.1.symm)
  have HI25 := Aside0.mk HZ25
  clear hcs hx hcells g1 hlt HZ25
  go_upto_region 6 with (first
    | ((with_reducible refine gate_dst (N := 20) rfl ?_); refine load_cells_event ?hg (N := 20) ?hd 25 (.tmp 19) (ad.add (j * 8)) cs.toList _ ?ho ?hx HC2.out.1 Try.underlying25 ?hq ?hi ?_; (case hg => rfl); (case hd => rfl); (case ho => rfl); (case hx => first | rfl | (go_simp; done)); (case hq => rfl); (case hi => exact size25.trans (congrArg some HC2.out.2.symm)))
    | ((with_reducible refine gate_dst (N := 4) rfl ?_); refine box_event ?hg (N := 4) ?hd (cs := #[.string ⟨#[]⟩, .slice none 0 0, .int .i32 0, .int .i64 0, .int .u8 0, .int .u32 0, .int .i32 0, .string ⟨#[]⟩]) (t := 25) ?hr ?_; (case hd => rfl); (case hg => rfl); (case hr => first | (go_simp; done) | (go_simp; rfl)); intro gb hgb w1 hbox hb; have HBX := Aside0.mk hbox; have HBB := Aside0.mk hb; have HGB := Aside0.mk (show wr.heap.size ≤ gb from by rw [hgb]; exact Nat.le_refl _); clear hbox hb hgb)
    | ((with_reducible refine gate_store (t := 25) (p := 4) (v := .tmp 20) rfl ?_); refine store_event ?hg 25 (.tmp 4) (.tmp 20) ?ho gb cs ?hx ?hy 25 _ HBX.out ?hi ?hl HS2.out.2 ?_; (case hg => rfl); (case ho => rfl); (case hx => first | rfl | (go_simp; done)); (case hy => first | (simp only [Array.toArray_toList]; rfl) | (go_simp; done)); (case hi => exact HI25.out); (case hl => exact HS2.out.1.symm); intro w2 hb2 hbl2 hsz2 hot2; have Q2 := Aside0.mk (show Box w2 gb 25 #[Value.string e.f0, .slice A1 e.f1.length c1, .int .i32 e.f2, .int .i64 e.f3, .int .u8 e.f4, .int .u32 e.f5, .int .i32 e.f6, .string e.f7] from HCS.out ▸ hb2); have HBL2 := Aside0.mk (hbl2 wr HBB.out HGB.out); clear hb2 hbl2 hsz2 hot2)
    | fail)
  have B2 := Aside0.mk (below_step BJ.out HBL2.out)
  clear HBX HBB HGB HC2 HBL2 BJ HS2 HCS HI25
  (try simp only [Act.put, List.setIfInBounds_toArray, List.set_cons_zero, List.set_cons_succ])
  obtain ⟨bb, hbb⟩ : ∃ z, bad e = z := ⟨_, rfl⟩
  have HBD := Aside0.mk hbb
  clear hbb
  go_cut [69] (fun v69 wc => v69 = .bool bb ∧ wc = w2)
  case first =>
    have k0 : w2.cell? ⟨gb, 0, none⟩ = some (.string e.f0) := Q2.out.cell 0 _ rfl
    have k1 : w2.cell? ⟨gb, 1, none⟩ = some (.slice A1 e.f1.length c1) := Q2.out.cell 1 _ rfl
    have k3 : w2.cell? ⟨gb, 3, none⟩ = some (.int .i64 e.f3) := Q2.out.cell 3 _ rfl
    have k4 : w2.cell? ⟨gb, 4, none⟩ = some (.int .u8 e.f4) := Q2.out.cell 4 _ rfl
    have k5 : w2.cell? ⟨gb, 5, none⟩ = some (.int .u32 e.f5) := Q2.out.cell 5 _ rfl
    have k6 : w2.cell? ⟨gb, 6, none⟩ = some (.int .i32 e.f6) := Q2.out.cell 6 _ rfl
    have k7 : w2.cell? ⟨gb, 7, none⟩ = some (.string e.f7) := Q2.out.cell 7 _ rfl
    obtain ⟨b0, q0⟩ : ∃ z, decide ((200 : Int) < (e.f0.size : Int)) = z := ⟨_, rfl⟩
    have Q_0 := Aside0.mk q0
    have p0 : decide (200 < e.f0.size) = b0 := by rw [← q0]; exact decide_eq_decide.2 (by omega)
    obtain ⟨b1, q1⟩ : ∃ z, decide ((8 : Int) < (e.f1.length : Int)) = z := ⟨_, rfl⟩
    have Q_1 := Aside0.mk q1
    have p1 : decide (8 < e.f1.length) = b1 := by rw [← q1]; exact decide_eq_decide.2 (by omega)
    obtain ⟨b2, q2⟩ : ∃ z, decide ((200 : Int) < (e.f7.size : Int)) = z := ⟨_, rfl⟩
    have Q_2 := Aside0.mk q2
    have p2 : decide (200 < e.f7.size) = b2 := by rw [← q2]; exact decide_eq_decide.2 (by omega)
    obtain ⟨b3, q3⟩ : ∃ z, decide (e.f3 < 0) = z := ⟨_, rfl⟩
    have Q_3 := Aside0.mk q3
    obtain ⟨b4, q4⟩ : ∃ z, decide (2147483648 ≤ e.f3) = z := ⟨_, rfl⟩
    have Q_4 := Aside0.mk q4
    obtain ⟨b5, q5⟩ : ∃ z, decide (e.f6 < -32768) = z := ⟨_, rfl⟩
    have Q_5 := Aside0.mk q5
    obtain ⟨b6, q6⟩ : ∃ z, decide (32768 ≤ e.f6) = z := ⟨_, rfl⟩
    have Q_6 := Aside0.mk q6
    obtain ⟨b7, q7⟩ : ∃ z, (e.f5 == 0) = z := ⟨_, rfl⟩
    have Q_7 := Aside0.mk q7
    obtain ⟨b8, q8⟩ : ∃ z, (e.f5 % 256 != e.f4) = z := ⟨_, rfl⟩
    have Q_8 := Aside0.mk q8
    cases b0 with
    | true =>
      obtain rfl : bb = true := by rw [← HBD.out]; simp only [bad, Q_0.out, Bool.true_or, Bool.or_true, Bool.false_or, Bool.or_false]
      go_wp2_with fail
      go_meet
      exact ⟨rfl, rfl⟩
    | false =>
      cases b1 with
      | true =>
        obtain rfl : bb = true := by rw [← HBD.out]; simp only [bad, Q_0.out, Q_1.out, Bool.true_or, Bool.or_true, Bool.false_or, Bool.or_false]
        go_wp2_with fail
        go_meet
        exact ⟨rfl, rfl⟩
      | false =>
        cases b2 with
        | true =>
          obtain rfl : bb = true := by rw [← HBD.out]; simp only [bad, Q_0.out, Q_1.out, Q_2.out, Bool.true_or, Bool.or_true, Bool.false_or, Bool.or_false]
          go_wp2_with fail
          go_meet
          exact ⟨rfl, rfl⟩
        | false =>
          cases b3 with
          | true =>
            obtain rfl : bb = true := by rw [← HBD.out]; simp only [bad, Q_0.out, Q_1.out, Q_2.out, Q_3.out, Bool.true_or, Bool.or_true, Bool.false_or, Bool.or_false]
            go_wp2_with fail
            go_meet
            exact ⟨rfl, rfl⟩
          | false =>
            cases b4 with
            | true =>
              obtain rfl : bb = true := by rw [← HBD.out]; simp only [bad, Q_0.out, Q_1.out, Q_2.out, Q_3.out, Q_4.out, Bool.true_or, Bool.or_true, Bool.false_or, Bool.or_false]
              go_wp2_with fail
              go_meet
              exact ⟨rfl, rfl⟩
            | false =>
              cases b5 with
              | true =>
                obtain rfl : bb = true := by rw [← HBD.out]; simp only [bad, Q_0.out, Q_1.out, Q_2.out, Q_3.out, Q_4.out, Q_5.out, Bool.true_or, Bool.or_true, Bool.false_or, Bool.or_false]
                go_wp2_with fail
                go_meet
                exact ⟨rfl, rfl⟩
              | false =>
                cases b6 with
                | true =>
                  obtain rfl : bb = true := by rw [← HBD.out]; simp only [bad, Q_0.out, Q_1.out, Q_2.out, Q_3.out, Q_4.out, Q_5.out, Q_6.out, Bool.true_or, Bool.or_true, Bool.false_or, Bool.or_false]
                  go_wp2_with fail
                  go_meet
                  exact ⟨rfl, rfl⟩
                | false =>
                  cases b7 with
                  | true =>
                    obtain rfl : bb = true := by rw [← HBD.out]; simp only [bad, Q_0.out, Q_1.out, Q_2.out, Q_3.out, Q_4.out, Q_5.out, Q_6.out, Q_7.out, Bool.true_or, Bool.or_true, Bool.false_or, Bool.or_false]
                    go_wp2_with fail
                    go_meet
                    exact ⟨rfl, rfl⟩
                  | false =>
                    cases b8 with
                    | true =>
                      obtain rfl : bb = true := by rw [← HBD.out]; simp only [bad, Q_0.out, Q_1.out, Q_2.out, Q_3.out, Q_4.out, Q_5.out, Q_6.out, Q_7.out, Q_8.out, Bool.true_or, Bool.or_true, Bool.false_or, Bool.or_false]
                      go_wp2_with fail
                      go_meet
                      exact ⟨rfl, rfl⟩
                    | false =>
                      obtain rfl : bb = false := by rw [← HBD.out]; simp only [bad, Q_0.out, Q_1.out, Q_2.out, Q_3.out, Q_4.out, Q_5.out, Q_6.out, Q_7.out, Q_8.out, Bool.or_false]
                      go_wp2_with fail
                      go_meet
                      exact ⟨rfl, rfl⟩
  obtain ⟨rfl, rfl⟩ := hcut
  cases bb with
  | true =>
    have hbf : b = false := by cases b with | false => rfl | true => exact absurd ((HB.out.1 rfl).good e HMEM.out) (by rw [HBD.out]; decide)
    subst hbf
    clear HB GJ
    go_wp2
    go_ret
    exact ⟨rfl, B2.out⟩
  | false =>
  have k1 : wc.cell? ⟨gb, 1, none⟩ = some (.slice A1 e.f1.length c1) := Q2.out.cell 1 _ rfl
  have hn1 : (e.f1.length : Int) ≤ 9223372036854775807 := by have := Kd.C_max G1.out; omega
  go_wp2_with fail
  go_loopw [73] (fun i wr => ∃ (m : Nat), m ≤ e.f1.length ∧ i = .int .i64 m ∧ Aside0 (∀ s ∈ e.f1.take m, s.size ≤ 200) ∧ wr = wc) (fun i _ => e.f1.length - (intOf i).toNat)
  case atStart => exact ⟨0, Nat.zero_le _, rfl, ⟨by simp⟩, rfl⟩
  clear k1
  obtain ⟨m, hm, rfl, NJ, rfl⟩ := hrel
  by_cases hlm : m < e.f1.length
  case neg =>
    obtain rfl : m = e.f1.length := by omega
    have hnl : ¬ ((e.f1.length : Int) < (e.f1.length : Int)) := by omega
    have NN := Aside0.mk (show ∀ s ∈ e.f1, s.size ≤ 200 from by have := NJ.out; rwa [List.take_length] at this)
    clear NJ hm hlm
    go_wp2_with fail
    go_roundw
    case rel =>
      refine ⟨j + 1, HLT.out, by go_num, ⟨fun x hx => ?_⟩, B2⟩
      rw [List.take_add_one, HX.out] at hx
      rcases List.mem_append.1 hx with hx | hx
      · exact GJ.out x hx
      · obtain rfl := List.mem_singleton.1 hx
        exact ⟨HBD.out, NN.out⟩
    case measure => have := HLT.out; simp [intOf]; omega
  have hlm' : (m : Int) < (e.f1.length : Int) := by omega
  have hm0 : (0 : Int) ≤ (m : Int) := by omega
  obtain ⟨an, rfl, hcell⟩ := Kd.at_string (Kd.C_below G1.out B2.out) (m : Int) hm0 hlm'
  rw [Int.toNat_natCast] at hcell
  have hrd : rdOf ByteArray.empty e.f1 (m : Int) = e.f1[m] := by unfold rdOf; rw [Int.toNat_natCast, List.getD_eq_getElem?_getD, List.getElem?_eq_getElem hlm]; rfl
  rw [hrd] at hcell
  obtain ⟨nm, hnm⟩ : ∃ z, z = e.f1[m] := ⟨_, rfl⟩
  rw [← hnm] at hcell
  have HNM := Aside0.mk (show nm ∈ e.f1 from by rw [hnm]; exact List.getElem_mem hlm)
  have HTK := Aside0.mk (show e.f1.take (m + 1) = e.f1.take m ++ [nm] from by rw [List.take_add_one, List.getElem?_eq_getElem hlm, hnm]; rfl)
  have HLM := Aside0.mk hlm
  clear hnm hrd hlm
  by_cases hs : nm.size ≤ 200
  · have y1 : decide ((200 : Int) < (nm.size : Int)) = false := decide_eq_false (by omega)
    have y2 : decide (200 < nm.size) = false := decide_eq_false (by omega)
    have HS := Aside0.mk hs
    clear hs
    go_wp2_with fail
    go_roundw
    case rel =>
      refine ⟨m + 1, HLM.out, by go_num, ⟨fun s hs => ?_⟩, trivial⟩
      rw [HTK.out] at hs
      rcases List.mem_append.1 hs with hs | hs
      · exact NJ.out s hs
      · obtain rfl := List.mem_singleton.1 hs
        exact HS.out
    case measure => have := HLM.out; simp [intOf]; omega
  · have y1 : decide ((200 : Int) < (nm.size : Int)) = true := decide_eq_true (by omega)
    have y2 : decide (200 < nm.size) = true := decide_eq_true (by omega)
    have hbf : b = false := by cases b with | false => rfl | true => exact absurd ((HB.out.1 rfl).names e HMEM.out nm HNM.out) hs
    subst hbf
    clear HB GJ hs
    go_wp2
    go_ret
    exact ⟨rfl, B2.out⟩
end Go.Proofs.Ytcbbipdiahmelaa.B

/- The law FnKtFind, walked; under what it states. Written by a program of this session. -/
import Derived.Test.YtcbbipdiahmelaaB24
import Derived.Test.YtcbbipdiahmelaaB13
namespace Go.Proofs.Ytcbbipdiahmelaa.B
open Go.RowKit Go.Proofs.YtcbbipdiahmelaaW.PrintWords Go.Proofs.YtcbbipdiahmelaaW.PrintLast
open Go.Proofs.Ytcbbipdiahmelaa.A (S25 k25)
set_option linter.unusedVariables false
set_option linter.unusedSimpArgs false
set_option maxRecDepth 100000
set_option maxHeartbeats 8000000 in
theorem findLaw (l : List S25) (names : List ByteArray) (realm : ByteArray) (v kt : Int) (A AN : Option Addr) (c cN : Nat) (w : World) (hr : Kd.C k25 w A l.length l) (hn : Kd.string.C w AN names.length names) (hv : 0 ≤ v ∧ v < 65536) (hkt : -2147483648 ≤ kt ∧ kt < 2147483648)
    (hw : ∀ e ∈ l, (-2147483648 ≤ e.f2 ∧ e.f2 < 2147483648) ∧ (0 ≤ e.f4 ∧ e.f4 < 256) ∧ 0 ≤ e.f5 ∧ e.f5 < 4294967296) :
    Calls Try.prog 6 #[.slice A l.length c, .slice AN names.length cN, .string realm, .int .u16 v, .int .i32 kt] w fun e w' => e = .returned (.bool true) ∧ Below w.heap.size w w' := by
  have hmx : l.length ≤ 9223372036854775807 := by have := Kd.C_max hr; omega
  have hnx : (names.length : Int) ≤ 9223372036854775807 := by have := Kd.C_max hn; omega
  have R1 := Aside0.mk hr
  have RN := Aside0.mk hn
  have HV := Aside0.mk hv
  have HKT := Aside0.mk hkt
  have HW := Aside0.mk hw
  have HMX := Aside0.mk hmx
  have HNX := Aside0.mk hnx
  have hu25 := Try.underlying25
  clear hr hn hv hkt hw hmx hnx
  obtain ⟨br, qbr⟩ : ∃ z, decide ((2147483647 : Int) < (realm.size : Int)) = z := ⟨_, rfl⟩
  have pbr : decide (2147483647 < realm.size) = br := by rw [← qbr]; exact decide_eq_decide.2 (by omega)
  obtain ⟨b8, qb8⟩ : ∃ z, decide ((8 : Int) < (names.length : Int)) = z := ⟨_, rfl⟩
  have pb8 : decide (8 < names.length) = b8 := by rw [← qb8]; exact decide_eq_decide.2 (by omega)
  obtain ⟨b2, qb2⟩ : ∃ z, decide ((200 : Int) < (realm.size : Int)) = z := ⟨_, rfl⟩
  have pb2 : decide (200 < realm.size) = b2 := by rw [← qb2]; exact decide_eq_decide.2 (by omega)
  go_enter Try.func6, Try.ntmps6
  go_wp2_with fail
  refine (zzFits9_any l A c _ R1.out).mono ?_
  rintro x w2 ⟨b, rfl, hb⟩
  have BL2 := Aside0.mk hb
  clear hb
  cases b with
  | false =>
    go_wp2
    go_ret
    exact ⟨rfl, BL2.out⟩
  | true =>
  go_wp2_with fail
  refine (zzFits4_any names AN cN _ (Kd.C_below RN.out BL2.out)).mono ?_
  rintro x w3 ⟨b, rfl, hb⟩
  have BL3 := Aside0.mk (below_step BL2.out hb)
  clear hb BL2
  cases b with
  | false =>
    go_wp2
    go_ret
    exact ⟨rfl, BL3.out⟩
  | true =>
  cases br with
  | true =>
    go_wp2
    go_ret
    exact ⟨rfl, BL3.out⟩
  | false =>
  go_wp2_with fail
  obtain ⟨b, hb⟩ := ans (OkL l)
  have hcall := ktRight_any l A c w3 b hb (Kd.C_below R1.out BL3.out) HMX.out
  have HBB := Aside0.mk hb
  clear hb
  refine hcall.mono ?_
  clear hcall
  rintro x w4 ⟨rfl, hb⟩
  have BL4 := Aside0.mk (below_step BL3.out hb)
  clear hb BL3
  cases b with
  | false =>
    go_wp2_with fail
    refine (ktAwake_any _).mono ?_
    rintro x wz ⟨rfl, hb⟩
    have BZ := Aside0.mk (below_step BL4.out hb)
    clear hb
    go_wp2
    go_ret
    exact ⟨rfl, BZ.out⟩
  | true =>
  cases b8 with
  | true =>
    go_wp2_with fail
    refine (ktAwake_any _).mono ?_
    rintro x wz ⟨rfl, hb⟩
    have BZ := Aside0.mk (below_step BL4.out hb)
    clear hb
    go_wp2
    go_ret
    exact ⟨rfl, BZ.out⟩
  | false =>
  cases b2 with
  | true =>
    go_wp2_with fail
    refine (ktAwake_any _).mono ?_
    rintro x wz ⟨rfl, hb⟩
    have BZ := Aside0.mk (below_step BL4.out hb)
    clear hb
    go_wp2
    go_ret
    exact ⟨rfl, BZ.out⟩
  | false =>
  have HOK := Aside0.mk (HBB.out.1 rfl)
  have HE := Aside0.mk ((HBB.out.1 rfl).each HW.out)
  clear HBB HW
  have hnx := HNX.out
  go_wp2_with fail
  go_loopw [49] (fun i wr => ∃ (j : Nat), j ≤ names.length ∧ i = .int .i64 j ∧ wr = w4) (fun i _ => names.length - (intOf i).toNat)
  case atStart => exact ⟨0, Nat.zero_le _, rfl, rfl⟩
  obtain ⟨j, hj, rfl, rfl⟩ := hrel
  by_cases hlt : j < names.length
  case pos =>
    have hlt' : (j : Int) < (names.length : Int) := by omega
    have hj0 : (0 : Int) ≤ (j : Int) := by omega
    obtain ⟨ad, rfl, hcell⟩ := Kd.at_string (Kd.C_below RN.out BL4.out) (j : Int) hj0 hlt'
    rw [Int.toNat_natCast] at hcell
    generalize rdOf ByteArray.empty names (j : Int) = x at *
    obtain ⟨bx, qx⟩ : ∃ z, decide ((200 : Int) < (x.size : Int)) = z := ⟨_, rfl⟩
    have px : decide (200 < x.size) = bx := by rw [← qx]; exact decide_eq_decide.2 (by omega)
    cases bx with
    | true =>
      go_wp2_with fail
      refine (ktAwake_any _).mono ?_
      rintro x wz ⟨rfl, hb⟩
      have BZ := Aside0.mk (below_step BL4.out hb)
      clear hb
      go_wp2
      go_ret
      exact ⟨rfl, BZ.out⟩
    | false =>
    go_wp2_with fail
    go_roundw
    case rel => exact ⟨j + 1, hlt, by go_num, trivial⟩
    case measure => simp [intOf]; omega
  obtain rfl : j = names.length := by omega
  have hnl : ¬ ((names.length : Int) < (names.length : Int)) := by omega
  have hlx : (l.length : Int) ≤ 20 := by have := HOK.out.few; omega
  clear hj hlt
  go_wp2_with fail
  go_loopw [13, 60] (fun vb i wr => ∃ (j : Nat) (o : Option S25) (bi : Int), j ≤ l.length ∧ vb = .int .i64 bi ∧ i = .int .i64 j ∧ Aside0 (Best l bi o) ∧ Aside0 ((l.take j).foldl (newer (hit names realm v kt)) none = o) ∧ Aside0 (∀ e ∈ l.take j, e.f7.size ≠ 0) ∧ Aside0 (Below w.heap.size w wr)) (fun _ i _ => l.length - (intOf i).toNat)
  case atStart => exact ⟨0, none, -1, Nat.zero_le _, rfl, rfl, ⟨rfl⟩, ⟨rfl⟩, ⟨fun e he => by cases he⟩, BL4⟩
  clear BL4
  obtain ⟨j, o, bi, hj, rfl, rfl, HBI, HFO, HKY, BJ⟩ := hrel
  by_cases hlt : j < l.length
  case neg =>
    obtain rfl : j = l.length := by omega
    have hnl : ¬ ((l.length : Int) < (l.length : Int)) := by omega
    have hfo := HFO.out
    have hky := HKY.out
    rw [List.take_length] at hfo hky
    have HF := Aside0.mk hfo
    have HK := Aside0.mk hky
    have hwv : wrap64 v = v := by have := HV.out; unfold wrap64; omega
    clear hfo hky HFO HKY hj hlt
    have FIN : ∀ (W : World) (D : ByteArray), D = strOfNums (5 :: 2 :: (chunksAt [] [] 0 l).flatMap Chunk.bytes) → Below w.heap.size w W → Calls Try.prog 18 #[.string D, .slice AN names.length cN, .string realm, .int .i64 v, .int .i32 kt] W fun x w' => x = .returned (found o) ∧ Below W.heap.size W w' := fun W D hD hB => by
      have h := keytabFind_of (l := l) (holes := []) (short := []) names realm v kt AN cN W HE.out (fun x hx => nomatch hx) HOK.out.some_ HOK.out.few (Kd.C_below RN.out hB) HV.out HKT.out HK.out
      rw [HF.out, ← hD] at h
      exact h
    have HFIN := Aside0.mk FIN
    clear FIN
    go_wp2_with fail
    have hcall := ktBytes_any l [] [] A none none c 0 0 wr HE.out HOK.out.few (fun x hx => nomatch hx) (Kd.C_below R1.out BJ.out) (Kd.C_nil _ _) (Kd.C_nil _ _)
    obtain ⟨data, hD⟩ : ∃ D, D = strOfNums (5 :: 2 :: (chunksAt [] [] 0 l).flatMap Chunk.bytes) := ⟨_, rfl⟩
    rw [← hD] at hcall
    have HD := Aside0.mk hD
    refine hcall.mono ?_
    clear hcall hD
    rintro x w5 ⟨rfl, hb⟩
    have B5 := Aside0.mk (below_step BJ.out hb)
    clear hb BJ
    go_wp2_with fail
    refine (HFIN.out w5 data HD.out B5.out).mono ?_
    rintro x w6 ⟨rfl, hb⟩
    have B6 := Aside0.mk (below_step B5.out hb)
    clear hb B5 HFIN HD
    cases o with
    | none =>
      obtain rfl : bi = -1 := HBI.out
      rw [show found none = .tuple #[.string ⟨#[]⟩, .int .i32 0, .int .i64 0, .bool false] from rfl]
      go_wp2_with fail
      refine (ktAwake_any _).mono ?_
      rintro x w7 ⟨rfl, hb⟩
      have B7 := Aside0.mk (below_step B6.out hb)
      clear hb
      go_wp2
      go_ret
      exact ⟨rfl, B7.out⟩
    | some b =>
      obtain ⟨k, rfl, hk, hb⟩ := HBI.out
      have hk' : (k : Int) < (l.length : Int) := by omega
      have hk0 : (0 : Int) ≤ (k : Int) := by omega
      have hk1 : ¬ ((k : Int) < 0) := by omega
      obtain ⟨ad, b', A', c', rfl, hb', hcells, _, _⟩ := row25 R1.out k hk rfl
      obtain rfl : b' = b := by rw [hb] at hb'; injection hb' with hb'; exact hb'.symm
      have HCL := Aside0.mk hcells
      have hh := (hit_iff.1 (newer_hit (by intro c hc; cases hc) HF.out)).2.2.1
      have hw5 : wrap64 b'.f5 = b'.f5 := by have := (HE.out b' (List.mem_of_getElem? hb)).ver; unfold wrap64; omega
      clear hcells hb hb' hk
      have zk0 : (b'.f6 == kt) = true := beq_iff_eq.mpr hh
      have zk2 := eq_true hh
      clear hh
      rw [show found (some b') = .tuple #[.string b'.f7, .int .i32 b'.f6, .int .i64 b'.f5, .bool true] from rfl]
      go_wp2_with fail
      refine (ktAwake_any _).mono ?_
      rintro x w7 ⟨rfl, hb⟩
      have B7 := Aside0.mk (below_step B6.out hb)
      clear hb
      have y7 : w7.cell? ⟨(ad.add (k * 8)).block, (ad.add (k * 8)).off + 7, none⟩ = some (.string b'.f7) := by rw [← add_field ad (k * 8) 7 (by decide), ← add_add]; exact pw_low B7.out (HCL.out 7 _ rfl)
      have y5 : w7.cell? ⟨(ad.add (k * 8)).block, (ad.add (k * 8)).off + 5, none⟩ = some (.int .u32 b'.f5) := by rw [← add_field ad (k * 8) 5 (by decide), ← add_add]; exact pw_low B7.out (HCL.out 5 _ rfl)
      go_wp2
      go_ret
      exact ⟨rfl, B7.out⟩
  have hlt' : (j : Int) < (l.length : Int) := by omega
  have hj0 : (0 : Int) ≤ (j : Int) := by omega
  obtain ⟨ad, e, A1, c1, rfl, hx, hcells, _, g1⟩ := row25 R1.out j hlt rfl
  have HX := Aside0.mk hx
  have HLT := Aside0.mk hlt
  have G1 := Aside0.mk g1
  have HEE := Aside0.mk (HE.out e (List.mem_of_getElem? hx))
  obtain ⟨cs, hcs⟩ : ∃ y : Array Value, y = #[.string e.f0, .slice A1 e.f1.length c1, .int .i32 e.f2, .int .i64 e.f3, .int .u8 e.f4, .int .u32 e.f5, .int .i32 e.f6, .string e.f7] := ⟨_, rfl⟩
  have HC2 := Aside0.mk (show (∀ i u, cs.toList[i]? = some u → wr.cell? ((ad.add (j * 8)).add i) = some u) ∧ cs.toList.length = 8 from by subst hcs; exact ⟨fun i u hu => pw_low BJ.out (hcells i u hu), rfl⟩)
  have HS2 := Aside0.mk (show cs.size = 8 ∧ cs.all (·.oneCell') = true from by subst hcs; exact ⟨rfl, by simp [Value.oneCell']⟩)
  have HCS := Aside0.mk hcs
  have HZ25 : (Try.prog.info? 25).map (·.size) = some cs.size := size25.trans (congrArg some HS2.out.1.symm)
  have HI25 := Aside0.mk HZ25
  clear hcs hx hcells g1 hlt HZ25
  go_upto_region 15 with (first
    | ((with_reducible refine gate_dst (N := 64) rfl ?_); refine load_cells_event ?hg (N := 64) ?hd 25 (.tmp 63) (ad.add (j * 8)) cs.toList _ ?ho ?hx HC2.out.1 Try.underlying25 ?hq ?hi ?_; (case hg => rfl); (case hd => rfl); (case ho => rfl); (case hx => first | rfl | (go_simp; done)); (case hq => rfl); (case hi => exact size25.trans (congrArg some HC2.out.2.symm)))
    | ((with_reducible refine gate_dst (N := 15) rfl ?_); refine box_event ?hg (N := 15) ?hd (cs := #[.string ⟨#[]⟩, .slice none 0 0, .int .i32 0, .int .i64 0, .int .u8 0, .int .u32 0, .int .i32 0, .string ⟨#[]⟩]) (t := 25) ?hr ?_; (case hd => rfl); (case hg => rfl); (case hr => first | (go_simp; done) | (go_simp; rfl)); intro gb hgb w1 hbox hb; have HBX := Aside0.mk hbox; have HBB := Aside0.mk hb; have HGB := Aside0.mk (show wr.heap.size ≤ gb from by rw [hgb]; exact Nat.le_refl _); clear hbox hb hgb)
    | ((with_reducible refine gate_store (t := 25) (p := 15) (v := .tmp 64) rfl ?_); refine store_event ?hg 25 (.tmp 15) (.tmp 64) ?ho gb cs ?hx ?hy 25 _ HBX.out ?hi ?hl HS2.out.2 ?_; (case hg => rfl); (case ho => rfl); (case hx => first | rfl | (go_simp; done)); (case hy => first | (simp only [Array.toArray_toList]; rfl) | (go_simp; done)); (case hi => exact HI25.out); (case hl => exact HS2.out.1.symm); intro w5 hb2 hbl2 hsz2 hot2; have Q2 := Aside0.mk (show Box w5 gb 25 #[.string e.f0, .slice A1 e.f1.length c1, .int .i32 e.f2, .int .i64 e.f3, .int .u8 e.f4, .int .u32 e.f5, .int .i32 e.f6, .string e.f7] from HCS.out ▸ hb2); have HBL2 := Aside0.mk (hbl2 wr HBB.out HGB.out); clear hb2 hbl2 hsz2 hot2)
    | fail)
  have B2 := Aside0.mk (below_step BJ.out HBL2.out)
  clear HBX HBB HGB HC2 HS2 HCS HI25 HBL2 BJ
  (try simp only [Act.put, List.setIfInBounds_toArray, List.set_cons_zero, List.set_cons_succ])
  go_cut [77] (fun v77 wc => ∃ bb : Bool, v77 = .bool bb ∧ wc = w5 ∧ Aside0 (bb = false → e.f7.size ≠ 0))
  case first =>
    have k7 := Q2.out.cell 7 (.string e.f7) rfl
    have k5 := Q2.out.cell 5 (.int .u32 e.f5) rfl
    have k3 := Q2.out.cell 3 (.int .i64 e.f3) rfl
    by_cases h7 : e.f7.toList = []
    case pos =>
      have z7 := eq_true h7
      clear h7
      go_wp2_with fail
      go_meet
      exact ⟨true, rfl, rfl, ⟨fun h => by cases h⟩⟩
    have NZ := Aside0.mk (show e.f7.size ≠ 0 from fun hz => h7 (by rw [ByteArray.toList_eq]; exact List.eq_nil_of_length_eq_zero hz))
    have z7 := eq_false h7
    clear h7
    by_cases h5 : e.f5 < 32768
    case neg =>
      have h5' : 32768 ≤ e.f5 := by omega
      have z5 := eq_false h5
      have z6 := eq_true h5'
      clear h5 h5'
      go_wp2_with fail
      go_meet
      exact ⟨true, rfl, rfl, ⟨fun h => by cases h⟩⟩
    have h5' : ¬ 32768 ≤ e.f5 := by omega
    have z5 := eq_true h5
    have z6 := eq_false h5'
    clear h5 h5'
    go_wp2_with fail
    go_meet
    exact ⟨_, rfl, rfl, ⟨fun _ => NZ.out⟩⟩
  obtain ⟨bb, rfl, rfl, HB7⟩ := hcut
  generalize wc = w5 at *
  (try simp only [Act.put, List.setIfInBounds_toArray, List.set_cons_zero, List.set_cons_succ])
  cases bb with
  | true =>
    go_wp2_with fail
    refine (ktAwake_any _).mono ?_
    rintro x wz ⟨rfl, hb⟩
    have BZ := Aside0.mk (below_step B2.out hb)
    clear hb
    go_wp2
    go_ret
    exact ⟨rfl, BZ.out⟩
  | false =>
  have NZ := Aside0.mk (HB7.out rfl)
  have HK2 := Aside0.mk (show ∀ x ∈ l.take (j + 1), x.f7.size ≠ 0 from fun x hx => by
    rw [List.take_add_one, HX.out] at hx
    rcases List.mem_append.1 hx with hx | hx
    · exact HKY.out x hx
    · obtain rfl := List.mem_singleton.1 hx
      exact NZ.out)
  clear HB7 HKY NZ
  go_upto_region 17 with fail
  (try simp only [Act.put, List.setIfInBounds_toArray, List.set_cons_zero, List.set_cons_succ])
  go_cut [106] (fun v106 wd => ∃ bb : Bool, v106 = .bool bb ∧ Aside0 (Below w5.heap.size w5 wd) ∧ Aside0 (bb = false ↔ hit names realm v kt e = true))
  case first =>
    have k0 := Q2.out.cell 0 (.string e.f0) rfl
    have k1 := Q2.out.cell 1 (.slice A1 e.f1.length c1) rfl
    have hrl := Aside0.mk (pw_toList e.f0 realm)
    by_cases h1 : e.f0.toList = realm.toList
    case neg =>
      have H1 := Aside0.mk (show ¬ e.f0 = realm from fun h => h1 (hrl.out.2 h))
      have zr0 : (e.f0.toList == realm.toList) = false := beq_eq_false_iff_ne.mpr h1
      have zr1 : (e.f0.toList != realm.toList) = true := by rw [bne, zr0]; rfl
      have zr2 := eq_false h1
      clear h1
      go_wp2_with fail
      go_meet
      exact ⟨true, rfl, ⟨Below.refl _ _⟩, ⟨by rw [hit_iff]; simp [H1.out]⟩⟩
    have H1 := Aside0.mk (hrl.out.1 h1)
    have zr0 : (e.f0.toList == realm.toList) = true := beq_iff_eq.mpr h1
    have zr1 : (e.f0.toList != realm.toList) = false := by rw [bne, zr0]; rfl
    have zr2 := eq_true h1
    clear h1
    go_wp2_with fail
    refine (namesEq.any e.f1 names A1 AN c1 cN w5 (Kd.C_below G1.out B2.out) (Kd.C_below RN.out B2.out)).mono ?_
    rintro x_ w6 ⟨rfl, hb⟩
    have B6 := Aside0.mk hb
    have Q6 := Aside0.mk (Q2.out.below hb)
    clear hb k0 k1
    have k6 := Q6.out.cell 6 (.int .i32 e.f6) rfl
    have k5 := Q6.out.cell 5 (.int .u32 e.f5) rfl
    have hvm : v % 4294967296 = v := by have := HV.out; omega
    have hvw : IntKind.u32.wrap v = v := by rw [IntKind.wrap_u32]; exact hvm
    by_cases h2 : e.f1 = names
    case neg =>
      have H2 := Aside0.mk h2
      rw [show decide (e.f1 = names) = false from decide_eq_false h2]
      clear h2
      go_wp2_with fail
      go_meet
      exact ⟨true, rfl, B6, ⟨by rw [hit_iff]; simp [H2.out]⟩⟩
    have H2 := Aside0.mk h2
    rw [show decide (e.f1 = names) = true from decide_eq_true h2]
    clear h2
    by_cases h3 : e.f6 = kt
    case neg =>
      have H3 := Aside0.mk h3
      have zk0 : (e.f6 == kt) = false := beq_eq_false_iff_ne.mpr h3
      have zk1 : (e.f6 != kt) = true := by rw [bne, zk0]; rfl
      have zk2 := eq_false h3
      clear h3
      go_wp2_with fail
      go_meet
      exact ⟨true, rfl, B6, ⟨by rw [hit_iff]; simp [H3.out]⟩⟩
    have H3 := Aside0.mk h3
    have zk0 : (e.f6 == kt) = true := beq_iff_eq.mpr h3
    have zk1 : (e.f6 != kt) = false := by rw [bne, zk0]; rfl
    have zk2 := eq_true h3
    clear h3
    by_cases h4 : v = 0
    case pos =>
      have H4 := Aside0.mk h4
      have zv0 : (v == 0) = true := beq_iff_eq.mpr h4
      have zv1 : (v != 0) = false := by rw [bne, zv0]; rfl
      have zv2 := eq_true h4
      clear h4
      go_wp2_with fail
      go_meet
      exact ⟨false, rfl, B6, ⟨by rw [hit_iff]; exact ⟨fun _ => ⟨H1.out, H2.out, H3.out, .inr H4.out⟩, fun _ => rfl⟩⟩⟩
    have H4 := Aside0.mk h4
    have zv0 : (v == 0) = false := beq_eq_false_iff_ne.mpr h4
    have zv1 : (v != 0) = true := by rw [bne, zv0]; rfl
    have zv2 := eq_false h4
    clear h4
    by_cases h5 : e.f5 = v
    case pos =>
      have H5 := Aside0.mk h5
      have zw0 : (e.f5 == v) = true := beq_iff_eq.mpr h5
      have zw1 : (e.f5 != v) = false := by rw [bne, zw0]; rfl
      have zw2 := eq_true h5
      clear h5
      go_wp2_with fail
      go_meet
      exact ⟨false, rfl, B6, ⟨by rw [hit_iff]; exact ⟨fun _ => ⟨H1.out, H2.out, H3.out, .inl H5.out⟩, fun _ => rfl⟩⟩⟩
    have H5 := Aside0.mk h5
    have zw0 : (e.f5 == v) = false := beq_eq_false_iff_ne.mpr h5
    have zw1 : (e.f5 != v) = true := by rw [bne, zw0]; rfl
    have zw2 := eq_false h5
    clear h5
    go_wp2_with fail
    go_meet
    exact ⟨true, rfl, B6, ⟨by rw [hit_iff]; simp [H4.out, H5.out]⟩⟩
  obtain ⟨bb, rfl, B6, HIT⟩ := hcut
  generalize wc = w6 at *
  (try simp only [Act.put, List.setIfInBounds_toArray, List.set_cons_zero, List.set_cons_succ])
  have Q6 := Aside0.mk (Q2.out.below B6.out)
  have B7 := Aside0.mk (below_step B2.out B6.out)
  clear Q2 B2 B6
  cases bb with
  | true =>
    have HNF := Aside0.mk (newer_skip (m := hit names realm v kt) (e := e) (o := o) (by cases h : hit names realm v kt e with | false => rfl | true => exact absurd (HIT.out.2 h) (by decide)))
    clear HIT
    go_wp2_with fail
    go_roundw
    case rel => exact ⟨j + 1, o, bi, HLT.out, rfl, by go_num, HBI, ⟨by rw [fold_take HX.out, HFO.out, HNF.out]⟩, HK2, B7⟩
    case measure => have := HLT.out; simp [intOf]; omega
  | false =>
  have HT := Aside0.mk (HIT.out.1 rfl)
  clear HIT
  go_upto_region 18 with fail
  (try simp only [Act.put, List.setIfInBounds_toArray, List.set_cons_zero, List.set_cons_succ])
  go_cut [141] (fun v141 we => ∃ bb : Bool, v141 = .bool bb ∧ Aside0 (Below w6.heap.size w6 we))
  case first =>
    have k3 := Q6.out.cell 3 (.int .i64 e.f3) rfl
    have k5 := Q6.out.cell 5 (.int .u32 e.f5) rfl
    cases o with
    | none =>
      obtain rfl : bi = -1 := HBI.out
      go_wp2
      go_quiet (fail)
      go_wp2
      all_goals (go_meet; exact ⟨_, rfl, ⟨pw_below_drewN (Below.refl _ _) _⟩⟩)
    | some b =>
      obtain ⟨k, rfl, hk, hb⟩ := HBI.out
      have hk' : (k : Int) < (l.length : Int) := by omega
      have hk0 : (0 : Int) ≤ (k : Int) := by omega
      have hk1 : ¬ ((k : Int) < 0) := by omega
      obtain ⟨ad', b', A', c', hA, hb', hcells, _, _⟩ := row25 R1.out k hk rfl
      injection hA with hA
      subst hA
      obtain rfl : b' = b := by rw [hb] at hb'; injection hb' with hb'; exact hb'.symm
      have y3 : w6.cell? ⟨(ad.add (k * 8)).block, (ad.add (k * 8)).off + 3, none⟩ = some (.int .i64 b'.f3) := by rw [← add_field ad (k * 8) 3 (by decide), ← add_add]; exact pw_low B7.out (hcells 3 _ rfl)
      have y5 : w6.cell? ⟨(ad.add (k * 8)).block, (ad.add (k * 8)).off + 5, none⟩ = some (.int .u32 b'.f5) := by rw [← add_field ad (k * 8) 5 (by decide), ← add_add]; exact pw_low B7.out (hcells 5 _ rfl)
      clear hcells hb hb' hk
      by_cases h1 : b'.f3 = e.f3
      case pos =>
        have zb0 : (b'.f3 == e.f3) = true := beq_iff_eq.mpr h1
        have zb1 : (b'.f3 != e.f3) = false := by rw [bne, zb0]; rfl
        have zb2 := eq_true h1
        clear h1
        go_wp2
        go_quiet (fail)
        go_wp2
        all_goals (go_meet; exact ⟨_, rfl, ⟨pw_below_drewN (Below.refl _ _) _⟩⟩)
      have zb0 : (b'.f3 == e.f3) = false := beq_eq_false_iff_ne.mpr h1
      have zb1 : (b'.f3 != e.f3) = true := by rw [bne, zb0]; rfl
      have zb2 := eq_false h1
      clear h1
      by_cases h4 : v = 0
      case neg =>
        have zv0 : (v == 0) = false := beq_eq_false_iff_ne.mpr h4
        have zv1 : (v != 0) = true := by rw [bne, zv0]; rfl
        have zv2 := eq_false h4
        clear h4
        go_wp2
        go_quiet (fail)
        go_wp2
        all_goals (go_meet; exact ⟨_, rfl, ⟨pw_below_drewN (Below.refl _ _) _⟩⟩)
      have zv0 : (v == 0) = true := beq_iff_eq.mpr h4
      have zv1 : (v != 0) = false := by rw [bne, zv0]; rfl
      have zv2 := eq_true h4
      clear h4
      obtain ⟨t1, y1⟩ : ∃ z, decide (b'.f3 < e.f3) = z := ⟨_, rfl⟩
      obtain ⟨t2, y2⟩ : ∃ z, decide (b'.f5 < e.f5) = z := ⟨_, rfl⟩
      go_wp2
      go_quiet (fail)
      go_wp2
      all_goals (go_meet; exact ⟨_, rfl, ⟨pw_below_drewN (Below.refl _ _) _⟩⟩)
  obtain ⟨bb, rfl, B8⟩ := hcut
  generalize wc = w7 at *
  (try simp only [Act.put, List.setIfInBounds_toArray, List.set_cons_zero, List.set_cons_succ])
  have Q8 := Aside0.mk (Q6.out.below B8.out)
  have B9 := Aside0.mk (below_step B7.out B8.out)
  clear Q6 B7 B8
  cases bb with
  | true =>
    go_wp2_with fail
    refine (ktAwake_any _).mono ?_
    rintro x wz ⟨rfl, hb⟩
    have BZ := Aside0.mk (below_step B9.out hb)
    clear hb
    go_wp2
    go_ret
    exact ⟨rfl, BZ.out⟩
  | false =>
  go_upto_region 20 with fail
  (try simp only [Act.put, List.setIfInBounds_toArray, List.set_cons_zero, List.set_cons_succ])
  go_cut [154] (fun v154 we => ∃ bb : Bool, v154 = .bool bb ∧ Aside0 (Below w7.heap.size w7 we) ∧ Aside0 ((bb = true → newer (hit names realm v kt) o e = some e) ∧ (bb = false → newer (hit names realm v kt) o e = o)))
  case first =>
    have k3 := Q8.out.cell 3 (.int .i64 e.f3) rfl
    cases o with
    | none =>
      obtain rfl : bi = -1 := HBI.out
      go_wp2
      go_quiet (fail)
      go_wp2
      go_meet
      exact ⟨true, rfl, ⟨pw_below_drewN (Below.refl _ _) _⟩, ⟨⟨fun _ => by simp only [newer]; rw [if_pos HT.out], fun h => by cases h⟩⟩⟩
    | some b =>
      obtain ⟨k, rfl, hk, hb⟩ := HBI.out
      have hk' : (k : Int) < (l.length : Int) := by omega
      have hk0 : (0 : Int) ≤ (k : Int) := by omega
      have hk1 : ¬ ((k : Int) < 0) := by omega
      obtain ⟨ad', b', A', c', hA, hb', hcells, _, _⟩ := row25 R1.out k hk rfl
      injection hA with hA
      subst hA
      obtain rfl : b' = b := by rw [hb] at hb'; injection hb' with hb'; exact hb'.symm
      have y3 : w7.cell? ⟨(ad.add (k * 8)).block, (ad.add (k * 8)).off + 3, none⟩ = some (.int .i64 b'.f3) := by rw [← add_field ad (k * 8) 3 (by decide), ← add_add]; exact pw_low B9.out (hcells 3 _ rfl)
      clear hcells hb hb' hk
      by_cases h1 : b'.f3 < e.f3
      · have HNW := Aside0.mk (show newer (hit names realm v kt) (some b') e = some e from by simp only [newer]; rw [if_pos ⟨HT.out, h1⟩])
        have z1 := eq_true h1
        clear h1
        go_wp2
        go_quiet (fail)
        go_wp2
        go_meet
        exact ⟨true, rfl, ⟨pw_below_drewN (Below.refl _ _) _⟩, ⟨⟨fun _ => HNW.out, fun h => by cases h⟩⟩⟩
      · have HNW := Aside0.mk (show newer (hit names realm v kt) (some b') e = some b' from by simp only [newer]; rw [if_neg (fun h => h1 h.2)])
        have z1 := eq_false h1
        clear h1
        go_wp2
        go_quiet (fail)
        go_wp2
        go_meet
        exact ⟨false, rfl, ⟨pw_below_drewN (Below.refl _ _) _⟩, ⟨⟨fun h => (by cases h), fun _ => HNW.out⟩⟩⟩
  obtain ⟨bb, rfl, B10, HNW⟩ := hcut
  generalize wc = w8 at *
  (try simp only [Act.put, List.setIfInBounds_toArray, List.set_cons_zero, List.set_cons_succ])
  have B11 := Aside0.mk (below_step B9.out B10.out)
  clear Q8 B9 B10
  cases bb with
  | true =>
    have HN1 := Aside0.mk (HNW.out.1 rfl)
    clear HNW
    go_wp2_with fail
    go_roundw
    case rel => exact ⟨j + 1, some e, j, HLT.out, rfl, by go_num, ⟨⟨j, rfl, HLT.out, HX.out⟩⟩, ⟨by rw [fold_take HX.out, HFO.out, HN1.out]⟩, HK2, B11⟩
    case measure => have := HLT.out; simp [intOf]; omega
  | false =>
    have HN1 := Aside0.mk (HNW.out.2 rfl)
    clear HNW
    go_wp2_with fail
    go_roundw
    case rel => exact ⟨j + 1, o, bi, HLT.out, rfl, by go_num, HBI, ⟨by rw [fold_take HX.out, HFO.out, HN1.out]⟩, HK2, B11⟩
    case measure => have := HLT.out; simp [intOf]; omega
end Go.Proofs.Ytcbbipdiahmelaa.B

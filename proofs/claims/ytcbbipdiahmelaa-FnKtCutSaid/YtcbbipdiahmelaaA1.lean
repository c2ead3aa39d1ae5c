/- Go functions of this seat come to the answers of the Lean functions that stand here ('.calls'), under what each theorem states and nothing else. Written by pw.py, a program of this session, with texts of its own. -/
import Derived.Test.YtcbbipdiahmelaaA0
import Derived.Test.YtcbbipdiahmelaaB12
namespace Go.Proofs.Ytcbbipdiahmelaa.A
open Go.RowKit Go.Proofs.YtcbbipdiahmelaaW.PrintWords Go.Proofs.YtcbbipdiahmelaaW.PrintLast
open Go.Proofs.Ytcbbipdiahmelaa.B (gate_callee gate_builtin)
set_option linter.unusedVariables false
set_option linter.unusedSimpArgs false
set_option maxRecDepth 100000

/-! ### laws_FnKtCut: function 3 -/
-- EXT rounds=0 making=1
-- NEEDS
-- KIND st:25
-- KIND st:91
-- KIND st:106
-- KIND st:49
set_option maxHeartbeats 8000000 in
theorem laws_FnKtCut.main (e : S25) (A1 : Option Addr) (c1 : Nat) (cut fs sn : Int) (w : World) (hr : Kd.C Kd.string w A1 e.f1.length e.f1) (hc : e.f1.length ≤ c1) (hw : (-2147483648 ≤ e.f2 ∧ e.f2 < 2147483648) ∧ (0 ≤ e.f4 ∧ e.f4 < 256) ∧ 0 ≤ e.f5 ∧ e.f5 < 4294967296) (hcut : 0 ≤ cut ∧ cut < 65536) (hfs : 0 ≤ fs ∧ fs < 256) (hsn : 0 ≤ sn ∧ sn < 256) :
    Calls Try.prog 3 #[.agg #[.string e.f0, .slice A1 e.f1.length c1, .int .i32 e.f2, .int .i64 e.f3, .int .u8 e.f4, .int .u32 e.f5, .int .i32 e.f6, .string e.f7], .int .u16 cut, .int .u8 fs, .int .u8 sn] w fun e w' => e = .returned (.bool true) ∧ Below w.heap.size w w' := by
  have R1 := Aside0.mk hr
  have C1 := Aside0.mk hc
  have HW := Aside0.mk hw
  have HC := Aside0.mk hcut
  have HF := Aside0.mk (And.intro hfs hsn)
  have hu25 := Try.underlying25
  clear hr hc hw hcut hfs hsn
  go_enter Try.func3, Try.ntmps3
  go_upto_region 1 with (first | ((with_reducible refine gate_dst (N := 4) rfl ?_); refine box_event ?hg (N := 4) ?hd (cs := #[.string e.f0, .slice A1 e.f1.length c1, .int .i32 e.f2, .int .i64 e.f3, .int .u8 e.f4, .int .u32 e.f5, .int .i32 e.f6, .string e.f7]) (t := 25) ?hr ?_; (case hd => rfl); (case hg => rfl); (case hr => first | (go_simp; done) | (go_simp; rfl)); intro gb hgb w1 hbox hb; have HB := Aside0.mk (show B.Box w1 gb 25 #[.string e.f0, .slice A1 e.f1.length c1, .int .i32 e.f2, .int .i64 e.f3, .int .u8 e.f4, .int .u32 e.f5, .int .i32 e.f6, .string e.f7] from hbox); have BL := Aside0.mk hb; clear hbox hb hgb) | fail)
  go_wp2_with (first | ((with_reducible refine gate_dst (N := 19) rfl ?_); refine B.row_event ?hg (N := 19) ?hd 25 (.tmp 4) gb 25 #[.string e.f0, .slice A1 e.f1.length c1, .int .i32 e.f2, .int .i64 e.f3, .int .u8 e.f4, .int .u32 e.f5, .int .i32 e.f6, .string e.f7] _ ?ho ?hx HB.out Try.underlying25 ?hq ?hi ?_; (case hg => rfl); (case hd => rfl); (case ho => rfl); (case hx => first | rfl | (go_simp; done)); (case hq => rfl); (case hi => exact B.size25)) | fail)
  refine (B.zzFits10_any e A1 c1 _ (Kd.C_below R1.out BL.out)).mono ?_
  rintro x w2 ⟨b, rfl, hb⟩
  have HB2 := Aside0.mk (HB.out.below hb)
  have BL2 := Aside0.mk (below_step BL.out hb)
  clear hb HB BL
  have HB := HB2
  clear HB2
  cases b with
  | false =>
    go_wp2
    go_ret
    exact ⟨rfl, BL2.out⟩
  | true =>
  go_wp2_with (first | ((with_reducible refine gate_dst (N := 22) rfl ?_); refine B.row_event ?hg (N := 22) ?hd 25 (.tmp 4) gb 25 #[.string e.f0, .slice A1 e.f1.length c1, .int .i32 e.f2, .int .i64 e.f3, .int .u8 e.f4, .int .u32 e.f5, .int .i32 e.f6, .string e.f7] _ ?ho ?hx HB.out Try.underlying25 ?hq ?hi ?_; (case hg => rfl); (case hd => rfl); (case ho => rfl); (case hx => first | rfl | (go_simp; done)); (case hq => rfl); (case hi => exact B.size25)) | fail)
  have BX := B.Box.new w2 #[.string e.f0, .slice A1 e.f1.length c1, .int .i32 e.f2, .int .i64 e.f3, .int .u8 e.f4, .int .u32 e.f5, .int .i32 e.f6, .string e.f7] 25
  have hb3 := below_alloc (Below.refl w2.heap.size w2) (.cells #[.string e.f0, .slice A1 e.f1.length c1, .int .i32 e.f2, .int .i64 e.f3, .int .u8 e.f4, .int .u32 e.f5, .int .i32 e.f6, .string e.f7] 25)
  have BX3 := Aside0.mk BX
  have HB3 := Aside0.mk (HB.out.below hb3)
  have BL3 := Aside0.mk (below_step BL2.out hb3)
  have HS3 := Aside0.mk (B.one25 BX C1.out (Kd.C_below R1.out BL3.out))
  obtain ⟨gl, hgl⟩ : ∃ g, g = w2.heap.size := ⟨_, rfl⟩
  clear hb3 BX HB BL2
  generalize w2.alloc (.cells #[.string e.f0, .slice A1 e.f1.length c1, .int .i32 e.f2, .int .i64 e.f3, .int .u8 e.f4, .int .u32 e.f5, .int .i32 e.f6, .string e.f7] 25) = w3 at *
  obtain ⟨b, hb⟩ := B.ans (B.OkL [e])
  have hcall := B.ktRight_any [e] (some ⟨w2.heap.size, 0, none⟩) 1 w3 b hb HS3.out (by simp)
  have HBB := Aside0.mk hb
  clear hb
  refine hcall.mono ?_
  clear hcall
  rintro x w4 ⟨rfl, hb⟩
  have HB4 := Aside0.mk (HB3.out.below hb)
  have HS4 := Aside0.mk (Kd.C_below HS3.out hb)
  have BL4 := Aside0.mk (below_step BL3.out hb)
  clear hb HB3 HS3 BL3 BX3
  cases b with
  | false =>
    go_wp2_with fail
    refine (B.ktAwake_any _).mono ?_
    rintro x wz ⟨rfl, hb⟩
    have BZ := Aside0.mk (below_step BL4.out hb)
    clear hb
    go_wp2
    go_ret
    exact ⟨rfl, BZ.out⟩
  | true =>
  have HE := Aside0.mk ((HBB.out.1 rfl).each (by intro x hx; obtain rfl := List.mem_singleton.1 hx; exact HW.out) e (List.mem_singleton.2 rfl))
  clear HBB HW
  go_wp2_with fail
  have hcall := B.ktBytes_any [e] [] [] (some ⟨w2.heap.size, 0, none⟩) none none 1 0 0 w4 (by intro x hx; obtain rfl := List.mem_singleton.1 hx; exact HE.out) (by simp) (by intro x hx; cases hx) HS4.out (Kd.C_nil _ _) (Kd.C_nil _ _)
  obtain ⟨L, hL⟩ : ∃ L, L = B.entB e true := ⟨_, rfl⟩
  obtain ⟨data, hD⟩ : ∃ D, D = strOfNums (5 :: 2 :: (B.e32 (L.length : Int) ++ L)) := ⟨_, rfl⟩
  have hdd : strOfNums (5 :: 2 :: (B.chunksAt [] [] 0 [e]).flatMap B.Chunk.bytes) = data := by
    rw [hD, hL]
    have hu : IntKind.u32.wrap (B.Chunk.entry e true).size = ((B.entB e true).length : Int) := by rw [IntKind.wrap_u32]; have := (HE.out.len true).2.1; simp only [B.Chunk.size]; omega
    simp only [B.chunksAt, B.holeAt, B.wholeAt, List.flatMap_append, List.flatMap_cons, List.flatMap_nil, List.append_nil]
    simp [B.Chunk.bytes, hu, B.Chunk.body]
  rw [hdd, show [e].length = 1 from rfl, show ([] : List Int).length = 0 from rfl, show ([] : List Bool).length = 0 from rfl] at hcall
  refine hcall.mono ?_
  clear hcall hdd
  rintro x w5 ⟨rfl, hb⟩
  have HB5 := Aside0.mk (HB4.out.below hb)
  have BL5 := Aside0.mk (below_step BL4.out hb)
  have hsz : data.size = 6 + L.length := by rw [hD, B.str_size]; simp [B.e32]; omega
  have hpl := B.prinB_len e.f0 e.f1 e.f2
  have hll := B.entB_len e true
  rw [← hL, if_pos rfl] at hll
  obtain ⟨S, hS⟩ : ∃ S, S = (e.f1.flatMap B.cnt16).length := ⟨_, rfl⟩
  rw [← hS] at hpl
  have hl7 := HE.out.key
  have hs0 := HE.out.realm
  have hsS : S ≤ 1616 := by have h1 := B.flat_len HE.out.each; have h2 := HE.out.names; omega
  have HL := Aside0.mk hL
  have HD := Aside0.mk hD
  have HSZ := Aside0.mk (And.intro hsz (And.intro hpl hll))
  have HSS := Aside0.mk hS
  have k0 := HB5.out.cell 0 (.string e.f0) rfl
  have k1 := HB5.out.cell 1 (.slice A1 e.f1.length c1) rfl
  have hnn := HE.out.names
  clear hb HB4 HS4 BL4 hL hD hS hsz hpl hll
  go_upto_region 9 with fail
  go_loopw [11, 38] (fun v11 i wr => ∃ (j : Nat) (n : Int), j ≤ e.f1.length ∧ i = .int .i64 j ∧ v11 = .int .i64 n ∧ Aside0 (n = 14 + (e.f0.size : Int) + (((e.f1.take j).flatMap B.cnt16).length : Int)) ∧ wr = w5) (fun _ i _ => e.f1.length - (intOf i).toNat)
  case atStart => exact ⟨0, _, Nat.zero_le _, rfl, rfl, ⟨by simp; omega⟩, rfl⟩
  clear k1
  obtain ⟨j, n, hj, rfl, rfl, HN, rfl⟩ := hrel
  by_cases hlt : j < e.f1.length
  case pos =>
    have hlt' : (j : Int) < (e.f1.length : Int) := by omega
    have hj0 : (0 : Int) ≤ (j : Int) := by omega
    obtain ⟨an, rfl, hcell⟩ := Kd.at_string (Kd.C_below R1.out BL5.out) (j : Int) hj0 hlt'
    rw [Int.toNat_natCast] at hcell
    have hrd : rdOf ByteArray.empty e.f1 (j : Int) = e.f1[j] := by unfold rdOf; rw [Int.toNat_natCast, List.getD_eq_getElem?_getD, List.getElem?_eq_getElem hlt]; rfl
    rw [hrd] at hcell
    obtain ⟨nm, hnm⟩ : ∃ z, z = e.f1[j] := ⟨_, rfl⟩
    rw [← hnm] at hcell
    have hz := HE.out.each nm (by rw [hnm]; exact List.getElem_mem hlt)
    have HTK := Aside0.mk (show e.f1.take (j + 1) = e.f1.take j ++ [nm] from by rw [List.take_add_one, List.getElem?_eq_getElem hlt, hnm]; rfl)
    have HLT := Aside0.mk hlt
    have hn0 : 0 ≤ n ∧ n ≤ 100000 := by have h1 := HN.out; have h2 := B.flat_len (l := e.f1.take j) (fun s hs => HE.out.each s (List.mem_of_mem_take hs)); have h3 : (e.f1.take j).length ≤ 8 := (by rw [List.length_take]; omega); omega
    obtain ⟨hn1, hn2⟩ := hn0
    clear hnm hrd hlt
    go_wp2_with fail
    go_roundw
    case rel =>
      refine ⟨j + 1, _, HLT.out, by go_num, rfl, ⟨?_⟩, by first | rfl | trivial⟩
      rw [HTK.out, List.flatMap_append, List.length_append, List.flatMap_cons, List.flatMap_nil, List.append_nil, B.cnt16_len]
      have := HN.out
      omega
    case measure => have := HLT.out; simp [intOf]; omega
  obtain rfl : j = e.f1.length := by omega
  have hnl : ¬ ((e.f1.length : Int) < (e.f1.length : Int)) := by omega
  have hN := HN.out
  rw [List.take_length, ← HSS.out] at hN
  obtain ⟨fr, hfr⟩ : ∃ fr : Nat, fr = 14 + e.f0.size + S := ⟨_, rfl⟩
  obtain rfl : n = (fr : Int) := by omega
  have hds : data.size ≤ 100000 := by have := HSZ.out; omega
  have hfd : fr < data.size := by have := HSZ.out; omega
  have HFD := Aside0.mk (show fr = 6 + (B.prinB e.f0 e.f1 e.f2).length from by have := HSZ.out; omega)
  have hc0 := HC.out.1
  have hc1 := HC.out.2
  clear hN HN HSS hj hlt
  have hfr2 : fr ≤ 100000 := by omega
  clear hfr
  obtain ⟨n, hn⟩ : ∃ n : Nat, (fr : Int) + cut % ((data.size : Int) - (fr : Int)) = (n : Int) := ⟨((fr : Int) + cut % ((data.size : Int) - (fr : Int))).toNat, by have := Int.emod_nonneg cut (show (data.size : Int) - (fr : Int) ≠ 0 by omega); omega⟩
  have hnb : fr ≤ n ∧ n < data.size := by have h1 := Int.emod_nonneg cut (show (data.size : Int) - (fr : Int) ≠ 0 by omega); have h2 := Int.emod_lt_of_pos cut (show 0 < (data.size : Int) - (fr : Int) by omega); omega
  have hwn : wrap64 ((fr : Int) + cut % ((data.size : Int) - (fr : Int))) = (n : Int) := by rw [hn]; unfold wrap64; omega
  have hn0 : (0 : Int) ≤ (n : Int) := by omega
  have hn1 : (n : Int) ≤ (data.size : Int) := by omega
  have hdata : bytesOf data = 5 :: 2 :: (B.e32 (L.length : Int) ++ L) := by
    rw [HD.out]
    refine B.bytes_str fun x hx => ?_
    rcases List.mem_cons.1 hx with rfl | hx
    · decide
    rcases List.mem_cons.1 hx with rfl | hx
    · decide
    exact B.app_ok (B.e32_ok _) (by rw [HL.out]; exact B.entB_ok HE.out true) x hx
  have HDB := Aside0.mk hdata
  have HRef := Aside0.mk (show ∀ W : World, Calls Try.prog 12 #[.string (data.extract 0 n)] W fun e w' => e = .returned (.tuple #[.slice none 0 0, .bool false]) ∧ Below W.heap.size W w' from fun W => by
    have hz := HSZ.out
    have hfd2 := HFD.out
    have hbt := B.bytes_take data n
    have hcut : bytesOf (data.extract 0 n) = 5 :: 2 :: (B.e32 (L.length : Int) ++ L.take (n - 6)) := by
      rw [hbt, hdata]
      obtain ⟨m, rfl⟩ : ∃ m, n = m + 6 := ⟨n - 6, by omega⟩
      simp [B.e32]
    have hsz : (data.extract 0 n).size ≤ 100000 := by have := bytesOf_length (data.extract 0 n); rw [hbt, List.length_take, bytesOf_length] at this; omega
    refine B.keytabRead_refuses _ W (by omega) fun gb gt B' w1 hb ht hB hBs => ?_
    exact B.unmarshal_short gt gb B' L.length (L.take (n - 6)) _ w1 (B.okBytes_of (by omega)) hcut (by omega) (by omega) (by rw [List.length_take]; omega) hb ht hB hBs)
  clear hn hdata
  go_wp2_with fail
  refine (HRef.out _).mono ?_
  rintro x w6 ⟨rfl, hb⟩
  have BL6 := Aside0.mk (below_step BL5.out hb)
  clear hb HRef
  by_cases hf : fs = 5
  · have hfb : (fs != 5) = false := by simp [hf]
    clear hf
    go_wp2_with fail
    refine (B.ktAwake_any _).mono ?_
    rintro x wz ⟨rfl, hb⟩
    have BZ := Aside0.mk (below_step BL6.out hb)
    clear hb
    go_wp2
    go_ret
    exact ⟨rfl, BZ.out⟩
  have hfb : (fs != 5) = true := by simp [hf]
  have HF5 := Aside0.mk hf
  clear hf
  go_upto_region 16 with fail
  obtain ⟨s1, hs1⟩ : ∃ s, s = strOfNums [fs, sn] := ⟨_, rfl⟩
  have hcvA : ∀ (W : World) (gm : Nat), B.Box W gm 5 #[.int .u8 fs, .int .u8 sn] → (convert 35 9 (.slice (some ⟨gm, 0, none⟩) 2 2)).run Try.prog W = .ok (.string s1) W := fun W gm hbx => by
    rw [hs1]
    refine own_string (P := Try.prog) (base := 0) Try.underlying35 Try.underlying5 Try.underlying9 (xs := [fs, sn]) ⟨by simp [nums], .inr ⟨gm, 2, _, rfl, Nat.zero_le _, hbx, Nat.le_refl _, by unfold maxLen; omega, by simp, ?_⟩⟩
    rfl
  have hd2 : bytesOf (data.extract 2 data.size) = B.e32 (L.length : Int) ++ L := by rw [B.bytes_drop, HDB.out]; rfl
  have hs2z : (data.extract 2 data.size).size ≤ 100000 := by have h1 := bytesOf_length (data.extract 2 data.size); rw [B.bytes_drop, List.length_drop, bytesOf_length] at h1; omega
  have hb12 : bytesOf (s1 ++ data.extract 2 data.size) = fs :: sn :: (B.e32 (L.length : Int) ++ L) := by
    rw [← B.strOf_bytesOf' (data.extract 2 data.size), hd2, hs1, B.str_app]
    refine B.bytes_str fun x hx => ?_
    rcases List.mem_cons.1 hx with rfl | hx
    · exact HF.out.1
    rcases List.mem_cons.1 hx with rfl | hx
    · exact HF.out.2
    exact B.app_ok (B.e32_ok _) (by rw [HL.out]; exact B.entB_ok HE.out true) x hx
  have z1 : s1.size ≤ 2 := by rw [hs1, B.str_size]; exact Nat.le_refl _
  have z12 : (s1 ++ data.extract 2 data.size).size ≤ 100002 := by rw [ByteArray.size_append]; omega
  have y1 : (9223372036854775807 < s1.size + (data.size - 2)) = False := by simp; omega
  have HB12 := Aside0.mk (And.intro hb12 z12)
  have HCV := Aside0.mk hcvA
  have h2z : (2 : Int) ≤ (data.size : Int) := by have := HSZ.out; omega
  clear hcvA hd2 hb12 hs1 z12
  obtain ⟨wx, hwx⟩ : ∃ z, z = w6.drew := ⟨_, rfl⟩
  have BX := Aside0.mk (below_step BL6.out (show Below w6.heap.size w6 wx from hwx ▸ below_drew (Below.refl _ _)))
  refine start_ (n := 13) (S := fun w' => True) (ds := []) #[false, false, false, false, false, false, false, false, false, false, false, false, false] (by kernel_rfl) rfl rfl trivial (fun hHeld => ?_)
  rw [← hwx]
  clear hwx
  refine pure_ (i := 0) (N := some 67) (v := ?_) (a' := ?_) #[true, false, false, false, false, false, false, false, false, false, false, false, false] rfl rfl (by kernel_rfl) (fun _ _ _ h => h) (Or.inl ⟨by rfl, ?_⟩) ?_ ?_
  rotate_left
  · intro w'
    go_simp
    with_reducible rfl
  rotate_left
  · simp only [Act.put, List.setIfInBounds_toArray, List.set_cons_zero, List.set_cons_succ, i64_w, i32_w]
    rfl
  refine pure_ (i := 1) (N := some 68) (v := ?_) (a' := ?_) #[true, true, false, false, false, false, false, false, false, false, false, false, false] rfl rfl (by kernel_rfl) (fun _ _ _ h => h) (Or.inl ⟨by rfl, ?_⟩) ?_ ?_
  rotate_left
  · intro w'
    go_simp
    with_reducible rfl
  rotate_left
  · simp only [Act.put, List.setIfInBounds_toArray, List.set_cons_zero, List.set_cons_succ, i64_w, i32_w]
    rfl
  refine pure_ (i := 4) (N := some 71) (v := ?_) (a' := ?_) #[true, true, false, false, true, false, false, false, false, false, false, false, false] rfl rfl (by kernel_rfl) (fun _ _ _ h => h) (Or.inl ⟨by rfl, ?_⟩) ?_ ?_
  rotate_left
  · intro w'
    go_simp
    with_reducible rfl
  rotate_left
  · simp only [Act.put, List.setIfInBounds_toArray, List.set_cons_zero, List.set_cons_succ, i64_w, i32_w]
    rfl
  refine pure_ (i := 5) (N := some 72) (v := ?_) (a' := ?_) #[true, true, false, false, true, true, false, false, false, false, false, false, false] rfl rfl (by kernel_rfl) (fun _ _ _ h => h) (Or.inl ⟨by rfl, ?_⟩) ?_ ?_
  rotate_left
  · intro w'
    go_simp
    with_reducible rfl
  rotate_left
  · simp only [Act.put, List.setIfInBounds_toArray, List.set_cons_zero, List.set_cons_succ, i64_w, i32_w]
    rfl
  refine one_ (i := 2) (N := some 69) #[true, true, true, false, true, true, false, false, false, false, false, false, false] rfl rfl (by kernel_rfl) (by decide) (fun K hK => ?_)
  refine value_ (w1 := ?_) (v := ?_) (by rfl) rfl ?_ ?_
  rotate_left 2
  · go_simp
    constructor
    · rfl
    · rfl
  obtain ⟨hbm, hb_⟩ := B.made_of BX.out #[.int .u8 fs, .int .u8 sn] 5
  have HM := Aside0.mk hbm
  have BY := Aside0.mk (below_step BX.out hb_)
  clear hb_ hbm
  refine hK.out _ _ trivial (fun hHeld => ?_)
  clear hK K
  refine norm_ (a' := ?_) ?_ ?_
  rotate_left
  · show Act.put _ (some 69) _ = _
    simp only [Act.put, List.setIfInBounds_toArray, List.set_cons_zero, List.set_cons_succ, i64_w, i32_w]
    rfl
  refine one_ (i := 3) (N := some 70) #[true, true, true, true, true, true, false, false, false, false, false, false, false] rfl rfl (by kernel_rfl) (by decide) (fun K hK => ?_)
  have hcv := HCV.out _ _ HM.out
  refine value_ (w1 := ?_) (v := ?_) (by rfl) rfl ?_ ?_
  rotate_left 2
  · go_simp
    constructor
    · rfl
    · rfl
  clear hcv
  refine hK.out _ _ trivial (fun hHeld => ?_)
  clear hK K
  refine norm_ (a' := ?_) ?_ ?_
  rotate_left
  · show Act.put _ (some 70) _ = _
    simp only [Act.put, List.setIfInBounds_toArray, List.set_cons_zero, List.set_cons_succ, i64_w, i32_w]
    rfl
  refine pure_ (i := 6) (N := some 73) (v := ?_) (a' := ?_) #[true, true, true, true, true, true, true, false, false, false, false, false, false] rfl rfl (by kernel_rfl) (fun _ _ _ h => h) (Or.inl ⟨by rfl, ?_⟩) ?_ ?_
  rotate_left
  · intro w'
    go_simp
    with_reducible rfl
  rotate_left
  · simp only [Act.put, List.setIfInBounds_toArray, List.set_cons_zero, List.set_cons_succ, i64_w, i32_w]
    rfl
  refine one_ (i := 7) (N := some 74) #[true, true, true, true, true, true, true, true, false, false, false, false, false] rfl rfl (by kernel_rfl) (by decide) (fun K hK => ?_)
  refine goes_ Try.func12 (by kernel_rfl) rfl #[.string (s1 ++ data.extract 2 data.size)] (by rfl) rfl rfl (by simp only [List.map_toArray, List.map_cons, List.map_nil]; rfl) ?_
  with_reducible refine ((B.bad_refused _ fs sn (s1 ++ data.extract 2 data.size) _ HB12.out.1 HF5.out (by have := HB12.out.2; omega))).mono ?_
  rintro e_ w7 ⟨rfl, hb_⟩
  refine ⟨_, rfl, ?_⟩
  have BL7 := Aside0.mk (below_step BY.out hb_)
  clear hb_
  refine hK.out _ _ trivial (fun hHeld => ?_)
  clear hK K
  refine norm_ (a' := ?_) ?_ ?_
  rotate_left
  · show Act.put _ (some 74) _ = _
    simp only [Act.put, List.setIfInBounds_toArray, List.set_cons_zero, List.set_cons_succ, i64_w, i32_w]
    rfl
  refine pure_ (i := 8) (N := some 66) (v := ?_) (a' := ?_) #[true, true, true, true, true, true, true, true, true, false, false, false, false] rfl rfl (by kernel_rfl) (fun _ _ _ h => h) (Or.inl ⟨by rfl, ?_⟩) ?_ ?_
  rotate_left
  · intro w'
    go_simp
    with_reducible rfl
  rotate_left
  · simp only [Act.put, List.setIfInBounds_toArray, List.set_cons_zero, List.set_cons_succ, i64_w, i32_w]
    rfl
  refine pure_ (i := 9) (N := some 75) (v := ?_) (a' := ?_) #[true, true, true, true, true, true, true, true, true, true, false, false, false] rfl rfl (by kernel_rfl) (fun _ _ _ h => h) (Or.inl ⟨by rfl, ?_⟩) ?_ ?_
  rotate_left
  · intro w'
    go_simp
    with_reducible rfl
  rotate_left
  · simp only [Act.put, List.setIfInBounds_toArray, List.set_cons_zero, List.set_cons_succ, i64_w, i32_w]
    rfl
  refine pure_ (i := 10) (N := some 76) (v := ?_) (a' := ?_) #[true, true, true, true, true, true, true, true, true, true, true, false, false] rfl rfl (by kernel_rfl) (fun _ _ _ h => h) (Or.inl ⟨by rfl, ?_⟩) ?_ ?_
  rotate_left
  · intro w'
    go_simp
    with_reducible rfl
  rotate_left
  · simp only [Act.put, List.setIfInBounds_toArray, List.set_cons_zero, List.set_cons_succ, i64_w, i32_w]
    rfl
  refine pure_ (i := 11) (N := some 17) (v := ?_) (a' := ?_) #[true, true, true, true, true, true, true, true, true, true, true, true, false] rfl rfl (by kernel_rfl) (fun _ _ _ h => h) (Or.inl ⟨by rfl, ?_⟩) ?_ ?_
  rotate_left
  · intro w'
    go_simp
    with_reducible rfl
  rotate_left
  · simp only [Act.put, List.setIfInBounds_toArray, List.set_cons_zero, List.set_cons_succ, i64_w, i32_w]
    rfl
  refine pure_ (i := 12) (N := some 18) (v := ?_) (a' := ?_) #[true, true, true, true, true, true, true, true, true, true, true, true, true] rfl rfl (by kernel_rfl) (fun _ _ _ h => h) (Or.inl ⟨by rfl, ?_⟩) ?_ ?_
  rotate_left
  · intro w'
    go_simp
    with_reducible rfl
  rotate_left
  · simp only [Act.put, List.setIfInBounds_toArray, List.set_cons_zero, List.set_cons_succ, i64_w, i32_w]
    rfl
  refine done_ (by kernel_rfl) ?_
  
  clear hHeld HM BY BX HCV HB12 y1 HDB
  go_wp2_with fail
  refine (B.ktAwake_any _).mono ?_
  rintro x wz ⟨rfl, hb⟩
  have BZ := Aside0.mk (below_step BL7.out hb)
  clear hb
  go_wp2
  go_ret
  exact ⟨rfl, BZ.out⟩
theorem laws_FnKtCut.walk (a0_0 : ByteArray) (A0_1 : Option Addr) (c0_1 : Nat) (l0_1 : List ByteArray) (a0_2 : Int) (a0_3 : Int) (a0_4 : Int) (a0_5 : Int) (a0_6 : Int) (a0_7 : ByteArray) (a1 : Int) (a2 : Int) (a3 : Int) (w : World) (hr0_1 : Kd.C Kd.string w A0_1 l0_1.length l0_1) (hc0_1 : l0_1.length ≤ c0_1) (g0_0 : a0_0.size ≤ maxLen) (g0_1 : l0_1.length ≤ 9223372036854775807 ∧ ∀ y0_ : ByteArray, y0_ ∈ l0_1 → y0_.size ≤ maxLen) (g0_2 : (Lit.int .i32 a0_2).wf = true) (g0_3 : (Lit.int .i64 a0_3).wf = true) (g0_4 : (Lit.int .u8 a0_4).wf = true) (g0_5 : (Lit.int .u32 a0_5).wf = true) (g0_6 : (Lit.int .i32 a0_6).wf = true) (g0_7 : a0_7.size ≤ maxLen) (g1 : (Lit.int .u16 a1).wf = true) (g2 : (Lit.int .u8 a2).wf = true) (g3 : (Lit.int .u8 a3).wf = true) :
    Calls Try.prog 3 #[.agg #[.string a0_0, .slice A0_1 l0_1.length c0_1, .int .i32 a0_2, .int .i64 a0_3, .int .u8 a0_4, .int .u32 a0_5, .int .i32 a0_6, .string a0_7], .int .u16 a1, .int .u8 a2, .int .u8 a3] w fun e w' => e = .returned (.bool true) ∧ Below w.heap.size w w' := by
  exact laws_FnKtCut.main ⟨a0_0, l0_1, a0_2, a0_3, a0_4, a0_5, a0_6, a0_7⟩ A0_1 c0_1 a1 a2 a3 w hr0_1 hc0_1 ⟨B.wf_i32 g0_2, B.wf_u8 g0_4, B.wf_u32 g0_5⟩ (B.wf_u16 g1) (B.wf_u8 g2) (B.wf_u8 g3)

end Go.Proofs.Ytcbbipdiahmelaa.A

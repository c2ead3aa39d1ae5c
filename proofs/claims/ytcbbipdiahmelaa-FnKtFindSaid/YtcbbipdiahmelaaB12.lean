/- The tests of sizes come to an answer; under what each theorem states. -/
import Derived.Test.YtcbbipdiahmelaaB11
namespace Go.Proofs.Ytcbbipdiahmelaa.B
open Go.RowKit Go.Proofs.YtcbbipdiahmelaaW.PrintWords Go.Proofs.YtcbbipdiahmelaaW.PrintLast
open Go.Proofs.Ytcbbipdiahmelaa.A (S25 k25)
set_option linter.unusedVariables false
set_option linter.unusedSimpArgs false
set_option maxRecDepth 100000
theorem wf_i32 {x : Int} (h : (Lit.int .i32 x).wf = true) : -2147483648 ≤ x ∧ x < 2147483648 := by
  simp [Lit.wf, IntKind.min, IntKind.max, IntKind.bits, IntKind.signed] at h
  omega
theorem wf_u8 {x : Int} (h : (Lit.int .u8 x).wf = true) : 0 ≤ x ∧ x < 256 := by
  simp [Lit.wf, IntKind.min, IntKind.max, IntKind.bits, IntKind.signed] at h
  omega
theorem wf_u16 {x : Int} (h : (Lit.int .u16 x).wf = true) : 0 ≤ x ∧ x < 65536 := by
  simp [Lit.wf, IntKind.min, IntKind.max, IntKind.bits, IntKind.signed] at h
  omega
theorem wf_u32 {x : Int} (h : (Lit.int .u32 x).wf = true) : 0 ≤ x ∧ x < 4294967296 := by
  simp [Lit.wf, IntKind.min, IntKind.max, IntKind.bits, IntKind.signed] at h
  omega
theorem ans (p : Prop) : ∃ b : Bool, b = true ↔ p := by classical exact ⟨decide p, by simp⟩
/-- Some answer. -/
def Some (w : World) (x : Ending) (w' : World) : Prop := ∃ b, x = .returned (.bool b) ∧ Below w.heap.size w w'
set_option maxHeartbeats 4000000 in
theorem zzFits4_any (xs : List ByteArray) (A : Option Addr) (c : Nat) (w : World) (h : Kd.string.C w A xs.length xs) :
    Calls Try.prog 16 #[.slice A xs.length c] w (Some w) := by
  have hmx : (xs.length : Int) ≤ 9223372036854775807 := by have := Kd.C_max h; omega
  have H := Aside0.mk h
  clear h
  obtain ⟨b0, q0⟩ : ∃ z, decide ((2147483647 : Int) < (xs.length : Int)) = z := ⟨_, rfl⟩
  have q1 : decide (2147483647 < xs.length) = b0 := by rw [← q0]; exact decide_eq_decide.2 (by omega)
  go_enter Try.func16, Try.ntmps16
  cases b0 with
  | true =>
    go_wp2
    go_ret
    exact ⟨_, rfl, Below.refl _ _⟩
  | false =>
  go_wp2_with fail
  go_loopw [10] (fun i wr => ∃ (j : Nat), j ≤ xs.length ∧ i = .int .i64 j ∧ wr = w) (fun i _ => xs.length - (intOf i).toNat)
  case atStart => exact ⟨0, Nat.zero_le _, rfl, rfl⟩
  clear q0 q1
  obtain ⟨j, hj, rfl, rfl⟩ := hrel
  by_cases hlt : j < xs.length
  case neg =>
    obtain rfl : j = xs.length := by omega
    have hnl : ¬ ((xs.length : Int) < (xs.length : Int)) := by omega
    go_wp2
    go_ret
    exact ⟨_, rfl, Below.refl _ _⟩
  have hlt' : (j : Int) < (xs.length : Int) := by omega
  have hj0 : (0 : Int) ≤ (j : Int) := by omega
  obtain ⟨ad, rfl, hcell⟩ := Kd.at_string H.out (j : Int) hj0 hlt'
  rw [Int.toNat_natCast] at hcell
  generalize rdOf ByteArray.empty xs (j : Int) = s at *
  obtain ⟨b1, q0⟩ : ∃ z, decide ((2147483647 : Int) < (s.size : Int)) = z := ⟨_, rfl⟩
  have q1 : decide (2147483647 < s.size) = b1 := by rw [← q0]; exact decide_eq_decide.2 (by omega)
  cases b1 with
  | true =>
    go_wp2
    go_ret
    exact ⟨_, rfl, Below.refl _ _⟩
  | false =>
    go_wp2_with fail
    go_roundw
    case rel => exact ⟨j + 1, by omega, by go_num, by first | rfl | trivial⟩
    case measure => simp [intOf]; omega
set_option maxHeartbeats 4000000 in
theorem zzFits10_any (e : S25) (A1 : Option Addr) (c1 : Nat) (w : World) (h : Kd.string.C w A1 e.f1.length e.f1) :
    Calls Try.prog 8 #[.agg #[.string e.f0, .slice A1 e.f1.length c1, .int .i32 e.f2, .int .i64 e.f3, .int .u8 e.f4, .int .u32 e.f5, .int .i32 e.f6, .string e.f7]] w (Some w) := by
  have H := Aside0.mk h
  have hu25 := Try.underlying25
  clear h
  obtain ⟨b0, q0⟩ : ∃ z, decide ((2147483647 : Int) < (e.f0.size : Int)) = z := ⟨_, rfl⟩
  have q1 : decide (2147483647 < e.f0.size) = b0 := by rw [← q0]; exact decide_eq_decide.2 (by omega)
  obtain ⟨b7, q2⟩ : ∃ z, decide ((2147483647 : Int) < (e.f7.size : Int)) = z := ⟨_, rfl⟩
  have q3 : decide (2147483647 < e.f7.size) = b7 := by rw [← q2]; exact decide_eq_decide.2 (by omega)
  go_enter Try.func8, Try.ntmps8
  go_upto_region 1 with (first | ((with_reducible refine gate_dst (N := 1) rfl ?_); refine box_event ?hg (N := 1) ?hd (cs := #[.string e.f0, .slice A1 e.f1.length c1, .int .i32 e.f2, .int .i64 e.f3, .int .u8 e.f4, .int .u32 e.f5, .int .i32 e.f6, .string e.f7]) (t := 25) ?hr ?_; (case hd => rfl); (case hg => rfl); (case hr => first | (go_simp; done) | (go_simp; rfl)); intro gb hgb w1 hbox hb; have HB1 := Aside0.mk (show Box w1 gb 25 #[.string e.f0, .slice A1 e.f1.length c1, .int .i32 e.f2, .int .i64 e.f3, .int .u8 e.f4, .int .u32 e.f5, .int .i32 e.f6, .string e.f7] from hbox); have BL1 := Aside0.mk hb; clear hbox hb hgb) | fail)
  have k0 := HB1.out.cell 0 (.string e.f0) rfl
  have k1 := HB1.out.cell 1 (.slice A1 e.f1.length c1) rfl
  cases b0 with
  | true =>
    go_wp2
    go_ret
    exact ⟨_, rfl, BL1.out⟩
  | false =>
  go_wp2_with fail
  refine (zzFits4_any e.f1 A1 c1 _ (Kd.C_below H.out BL1.out)).mono ?_
  rintro x w2 ⟨b, rfl, hb⟩
  have HB2 := Aside0.mk (HB1.out.below hb)
  have BL2 := Aside0.mk (below_step BL1.out hb)
  clear hb k0 k1 HB1 BL1
  have k7 := HB2.out.cell 7 (.string e.f7) rfl
  cases b with
  | false =>
    go_wp2
    go_ret
    exact ⟨_, rfl, BL2.out⟩
  | true =>
  cases b7 with
  | true =>
    go_wp2
    go_ret
    exact ⟨_, rfl, BL2.out⟩
  | false =>
    go_wp2
    go_ret
    exact ⟨_, rfl, BL2.out⟩
set_option maxHeartbeats 4000000 in
theorem zzFits9_any (l : List S25) (A : Option Addr) (c : Nat) (w : World) (hr : Kd.C k25 w A l.length l) :
    Calls Try.prog 13 #[.slice A l.length c] w (Some w) := by
  have hmx : (l.length : Int) ≤ 9223372036854775807 := by have := Kd.C_max hr; omega
  have R1 := Aside0.mk hr
  clear hr
  obtain ⟨b0, q0⟩ : ∃ z, decide ((2147483647 : Int) < (l.length : Int)) = z := ⟨_, rfl⟩
  have q1 : decide (2147483647 < l.length) = b0 := by rw [← q0]; exact decide_eq_decide.2 (by omega)
  go_enter Try.func13, Try.ntmps13
  cases b0 with
  | true =>
    go_wp2
    go_ret
    exact ⟨_, rfl, Below.refl _ _⟩
  | false =>
  go_wp2_with fail
  go_loopw [10] (fun i wr => ∃ (j : Nat), j ≤ l.length ∧ i = .int .i64 j ∧ Aside0 (Below w.heap.size w wr)) (fun i _ => l.length - (intOf i).toNat)
  case atStart => exact ⟨0, Nat.zero_le _, rfl, ⟨Below.refl _ _⟩⟩
  clear q0 q1
  obtain ⟨j, hj, rfl, BJ⟩ := hrel
  by_cases hlt : j < l.length
  case neg =>
    obtain rfl : j = l.length := by omega
    have hnl : ¬ ((l.length : Int) < (l.length : Int)) := by omega
    go_wp2
    go_ret
    exact ⟨_, rfl, BJ.out⟩
  have hlt' : (j : Int) < (l.length : Int) := by omega
  have hj0 : (0 : Int) ≤ (j : Int) := by omega
  obtain ⟨ad, e, A1, c1, rfl, hx, hcells, _, g1⟩ := row25 R1.out j hlt rfl
  have HLT := Aside0.mk hlt
  have G1 := Aside0.mk g1
  obtain ⟨cs, hcs⟩ : ∃ y : Array Value, y = #[.string e.f0, .slice A1 e.f1.length c1, .int .i32 e.f2, .int .i64 e.f3, .int .u8 e.f4, .int .u32 e.f5, .int .i32 e.f6, .string e.f7] := ⟨_, rfl⟩
  have HC2 := Aside0.mk (show (∀ i u, cs.toList[i]? = some u → wr.cell? ((ad.add (j * 8)).add i) = some u) ∧ cs.toList.length = 8 from by subst hcs; exact ⟨fun i u hu => pw_low BJ.out (hcells i u hu), rfl⟩)
  have HS2 := Aside0.mk (show cs.size = 8 ∧ cs.all (·.oneCell') = true from by subst hcs; exact ⟨rfl, by simp [Value.oneCell']⟩)
  have HCS := Aside0.mk hcs
  have HZ25 : (Try.prog.info? 25).map (·.size) = some cs.size := size25.trans (congrArg some HS2.out.1.symm)
  have HI25 := Aside0.mk HZ25
  clear hcs hx hcells g1 hlt HZ25
  go_wp2_with (first
    | ((with_reducible refine gate_dst (N := 13) rfl ?_); refine load_cells_event ?hg (N := 13) ?hd 25 (.tmp 12) (ad.add (j * 8)) cs.toList _ ?ho ?hx HC2.out.1 Try.underlying25 ?hq ?hi ?_; (case hg => rfl); (case hd => rfl); (case ho => rfl); (case hx => first | rfl | (go_simp; done)); (case hq => rfl); (case hi => exact size25.trans (congrArg some HC2.out.2.symm)))
    | ((with_reducible refine gate_dst (N := 4) rfl ?_); refine box_event ?hg (N := 4) ?hd (cs := #[.string ⟨#[]⟩, .slice none 0 0, .int .i32 0, .int .i64 0, .int .u8 0, .int .u32 0, .int .i32 0, .string ⟨#[]⟩]) (t := 25) ?hr ?_; (case hd => rfl); (case hg => rfl); (case hr => first | (go_simp; done) | (go_simp; rfl)); intro gb hgb w1 hbox hb; have HBX := Aside0.mk hbox; have HBB := Aside0.mk hb; have HGB := Aside0.mk (show wr.heap.size ≤ gb from by rw [hgb]; exact Nat.le_refl _); clear hbox hb hgb)
    | ((with_reducible refine gate_store (t := 25) (p := 4) (v := .tmp 13) rfl ?_); refine store_event ?hg 25 (.tmp 4) (.tmp 13) ?ho gb cs ?hx ?hy 25 _ HBX.out ?hi ?hl HS2.out.2 ?_; (case hg => rfl); (case ho => rfl); (case hx => first | rfl | (go_simp; done)); (case hy => first | (simp only [Array.toArray_toList]; rfl) | (go_simp; done)); (case hi => exact HI25.out); (case hl => exact HS2.out.1.symm); intro w2 hb2 hbl2 hsz2 hot2; have Q2 := Aside0.mk (show Box w2 gb 25 cs from hb2); have HBL2 := Aside0.mk (hbl2 wr HBB.out HGB.out); clear hb2 hbl2 hsz2 hot2)
    | ((with_reducible refine gate_dst (N := 14) rfl ?_); refine row_event ?hg (N := 14) ?hd 25 (.tmp 4) gb 25 cs _ ?ho ?hx Q2.out Try.underlying25 ?hq ?hi ?_; (case hg => rfl); (case hd => rfl); (case ho => rfl); (case hx => first | rfl | (go_simp; done)); (case hq => rfl); (case hi => exact HI25.out))
    | fail)
  have hb2 := below_step BJ.out HBL2.out
  have hcall := zzFits10_any e A1 c1 w2 (Kd.C_below G1.out hb2)
  rw [← HCS.out] at hcall
  have B2 := Aside0.mk hb2
  clear hb2
  refine hcall.mono ?_
  clear hcall
  rintro x w3 ⟨b, rfl, hb⟩
  have B3 := Aside0.mk (below_step B2.out hb)
  clear hb
  cases b with
  | false =>
    go_wp2
    go_ret
    exact ⟨_, rfl, B3.out⟩
  | true =>
    go_wp2_with fail
    go_roundw
    case rel => exact ⟨j + 1, HLT.out, by go_num, B3⟩
    case measure => have := HLT.out; simp [intOf]; omega
/-! ### Bytes that are cut -/
theorem bytes_take (s : ByteArray) (n : Nat) : bytesOf (s.extract 0 n) = (bytesOf s).take n := by
  unfold bytesOf
  simp [ByteArray.data_extract, List.map_take]
theorem bytes_drop (s : ByteArray) (n : Nat) : bytesOf (s.extract n s.size) = (bytesOf s).drop n := by
  unfold bytesOf
  rw [ByteArray.data_extract, Array.toList_extract]
  simp only [List.extract, List.map_take, List.map_drop]
  rw [List.take_of_length_le]
  rw [List.length_drop, List.length_map, Array.length_toList]
  exact Nat.le_refl _
end Go.Proofs.Ytcbbipdiahmelaa.B

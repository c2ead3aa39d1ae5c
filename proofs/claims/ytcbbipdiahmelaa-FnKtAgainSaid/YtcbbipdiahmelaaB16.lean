/- A principal is written; under what each theorem states. Written by a program of this session. -/
import Derived.Test.YtcbbipdiahmelaaB15
import Derived.Test.YtcbbipdiahmelaaB6
namespace Go.Proofs.Ytcbbipdiahmelaa.B
open Go.RowKit Go.Proofs.YtcbbipdiahmelaaW.PrintWords Go.Proofs.YtcbbipdiahmelaaW.PrintLast
set_option linter.unusedVariables false
set_option linter.unusedSimpArgs false
set_option maxRecDepth 100000
/-- What a writer holds: the row written so far, and the box that it writes. -/
structure Wr (w0 w : World) (gb t : Nat) (cs : Array Value) (v : Value) (xs : List Int) : Prop where
  row : (Kd.int .u8).R 5 w w0.heap.size (fun _ => True) v xs
  box : Box w gb t cs
  low : Below w0.heap.size w0 w
  size : w0.heap.size ≤ w.heap.size
section
variable {w0 w w' : World} {gb t : Nat} {cs : Array Value} {v v' : Value} {xs ys : List Int}
theorem Wr.below (h : Wr w0 w gb t cs v xs) (hb : Below w.heap.size w w') : Wr w0 w' gb t cs v xs := ⟨Kd.R_below h.row hb, h.box.below hb, low_below h.low h.size hb, Nat.le_trans h.size hb.size⟩
theorem Wr.drew (h : Wr w0 w gb t cs v xs) : Wr w0 w.drew gb t cs v xs := h.below (below_drew (Below.refl _ _))
theorem Wr.app (h : Wr w0 w gb t cs v xs) (ht : 5 ≠ t) (hr : (Kd.int .u8).R 5 w' w0.heap.size (fun _ => True) v' ys) (hb : Below w0.heap.size w w') (hg : w.grownBy w' v.ownBlock) : Wr w0 w' gb t cs v' ys := ⟨hr, h.box.row h.row ht hg, low_trans h.low hb, Nat.le_trans h.size hg.size⟩
/-- A row has been made and filled: all that stood is as it was. -/
theorem put_below {w1 : World} (hb : Below w.heap.size w w1) (hg : w1.grownBy w' (some w.heap.size)) : Below w.heap.size w w' := low_grown hb hb.size hg (fun j hj => by injection hj with hj; omega)
/-- A call's own row is handed on. -/
theorem row_reads {base : Nat} {A : Option Addr} {n c : Nat} (h : (Kd.int .u8).R 5 w base (fun _ => True) (.slice A n c) xs) : n = xs.length ∧ (Kd.int .u8).C w A n xs := by
  obtain ⟨h1, _, h2⟩ := Kd.R_reads' h
  exact ⟨h1, by rw [h1]; exact h2⟩
end
theorem made_of' {n : Nat} {w0 w : World} (h : Below n w0 w) (hs : n ≤ w.heap.size) (cs : Array Value) (t : Nat) : Box (w.alloc (.cells cs t)) w.heap.size t cs ∧ Below n w0 (w.alloc (.cells cs t)) ∧ n ≤ (w.alloc (.cells cs t)).heap.size := ⟨Box.new _ _ _, low_below h hs (below_alloc (Below.refl _ _) _), by simp; omega⟩
theorem info87' : (Try.prog.info? 87).map (·.size) = some 4 := by kernel_rfl
theorem e16_len (v : Int) : (e16 v).length = 2 := rfl
theorem e32_len (v : Int) : (e32 v).length = 4 := rfl
theorem prin_len (r : ByteArray) (l : List ByteArray) (k : Int) (m : Nat) (hr : r.size ≤ 200) (hl : l.length ≤ 8) (h : ∀ s ∈ l, s.size ≤ 200) (hm : m ≤ 300) : ((e16 k ++ cnt16 r ++ l.flatMap cnt16).length + m) * 1 ≤ 140737488355328 := by
  have h2 := flat_len h
  rw [List.length_append, List.length_append, e16_len, cnt16_len]
  omega
set_option maxHeartbeats 8000000 in
theorem prinMarshal_any (realm : ByteArray) (names : List ByteArray) (nt : Int) (A : Option Addr) (c : Nat) (w : World) (hr : realm.size ≤ 200) (hn : names.length ≤ 8) (hns : ∀ s ∈ names, s.size ≤ 200) (hnt : -2147483648 ≤ nt ∧ nt < 2147483648) (hc : Kd.string.C w A names.length names) :
    Calls Try.prog 50 #[.agg #[.int .i16 names.length, .string realm, .slice A names.length c, .int .i32 nt], .int .i64 2] w fun e w' => ∃ A' n' c', e = .returned (.tuple #[.slice A' n' c', .nilIface]) ∧ (Kd.int .u8).R 5 w' w.heap.size (fun _ => True) (.slice A' n' c') (prinB realm names nt) ∧ Below w.heap.size w w' := by
  have HR := Aside0.mk hr
  have HN := Aside0.mk hn
  have HNS := Aside0.mk hns
  have HC := Aside0.mk hc
  have hu79 := Try.underlying79
  have hu87 := Try.underlying87
  have hnt1 := hnt.1
  have hnt2 := hnt.2
  have hmk2 : ∀ W : World, (Instr.makeSlice 35 (.int .i64 2) (.int .i64 2)).run Try.prog W = .ok (.slice (some ⟨W.heap.size, 0, none⟩) 2 2) (W.alloc (.cells (madeCells #[.int .u8 0] 2) 5)) :=
    fun W => run_make_row' 35 5 (.int .u8 0) 1 Try.underlying35 info5 rfl .i64 .i64 2 (by omega) (by omega) W
  have hmk4 : ∀ W : World, (Instr.makeSlice 35 (.int .i64 4) (.int .i64 4)).run Try.prog W = .ok (.slice (some ⟨W.heap.size, 0, none⟩) 4 4) (W.alloc (.cells (madeCells #[.int .u8 0] 4) 5)) :=
    fun W => run_make_row' 35 5 (.int .u8 0) 1 Try.underlying35 info5 rfl .i64 .i64 4 (by omega) (by omega) W
  have hmf : ∀ (fn : Fn) (first cap : Array Value) (w : World), (Instr.makeFunc fn first cap).run Try.prog w = .ok (.func fn first cap) w := fun _ _ _ _ => rfl
  have nA : ∀ w : World, (nilAhead 239 79 (.agg #[]) "PutUint16").run Try.prog w = .ok (some false) w := fun w => by kernel_rfl
  have nM : ∀ w : World, (method 239 79 (.agg #[]) "PutUint16").run Try.prog w = .ok (69, .agg #[]) w := fun w => by kernel_rfl
  have mA : ∀ w : World, (nilAhead 239 79 (.agg #[]) "PutUint32").run Try.prog w = .ok (some false) w := fun w => by kernel_rfl
  have mM : ∀ w : World, (method 239 79 (.agg #[]) "PutUint32").run Try.prog w = .ok (70, .agg #[]) w := fun w => by kernel_rfl
  have hu16 : IntKind.u16.wrap (names.length : Int) = names.length := by simp [IntKind.wrap, IntKind.bits, IntKind.signed]; omega
  clear hr hns hc
  go_enter Try.func50, Try.ntmps50
  go_upto_region 1 with (first | ((with_reducible refine gate_dst (N := 2) rfl ?_); refine box_event ?hg (N := 2) ?hd (cs := #[.int .i16 names.length, .string realm, .slice A names.length c, .int .i32 nt]) (t := 87) ?hr ?_; (case hd => rfl); (case hg => rfl); (case hr => first | (go_simp; done) | (go_simp; rfl)); intro gb hgb w1 hbox hb; have Q1 := Aside0.mk (show Box w1 gb 87 #[.int .i16 names.length, .string realm, .slice A names.length c, .int .i32 nt] from hbox); have BL1 := Aside0.mk hb; have HS1 := Aside0.mk hb.size; clear hbox hb hgb) | fail)
  go_upto_region 6 with fail
  obtain ⟨hb2, hbl2, hs2⟩ := made_of' BL1.out HS1.out (madeCells #[.int .u8 0] 2) 5
  have X2 := Aside0.mk (show Box (w1.alloc (.cells (madeCells #[.int .u8 0] 2) 5)) w1.heap.size 5 (nums .u8 [0, 0]).toArray from by rw [← show madeCells #[.int .u8 0] 2 = (nums .u8 [0, 0]).toArray from made_cells 2]; exact hb2)
  have Q2 := Aside0.mk (Q1.out.alloc (.cells (madeCells #[.int .u8 0] 2) 5))
  have BL2 := Aside0.mk hbl2
  have HS2 := Aside0.mk hs2
  obtain ⟨g2, hg2⟩ : ∃ x, x = w1.heap.size := ⟨_, rfl⟩
  have HG2 := Aside0.mk (show w.heap.size ≤ g2 from by rw [hg2]; exact HS1.out)
  rw [← hg2] at X2
  rw [← hg2]
  clear hb2 hbl2 hs2 hg2 Q1 BL1 HS1
  generalize w1.alloc (.cells (madeCells #[.int .u8 0] 2) 5) = w2 at *
  have k0 := Q2.out.cell 0 (.int .i16 names.length) rfl
  go_wp2
  go_still_tail 9, (by kernel_rfl)
  change wpList _ _ _ _ _ w2.drew
  go_wp2_with (first | (go_at_call 69; refine (put16_any g2 0 _ names.length [0, 0] w2.drew X2.out.drew (by decide) (by omega) (by omega)).mono ?_; rintro e w3 ⟨rfl, hb, hg⟩; have T3 := Aside0.mk (show Wr w w3 gb 87 #[.int .i16 names.length, .string realm, .slice A names.length c, .int .i32 nt] (.slice (some ⟨g2, 0, none⟩) 2 2) (e16 names.length) from ⟨row_box (show Box w3 g2 5 (nums .u8 (e16 names.length)).toArray from hb) HG2.out (by simp [e16]), blk_grown Q2.out.drew hg (fun e => by injection e with e; exact Q2.out.ne X2.out (by decide) e), low_grown (low_below BL2.out HS2.out (below_drew (Below.refl _ _))) HS2.out hg (fun j hj => by injection hj with hj; rw [← hj]; exact HG2.out), Nat.le_trans HS2.out hg.size⟩); clear hb hg; have k1 := T3.out.box.cell 1 (.string realm) rfl) | fail)
  clear X2 Q2 BL2 HS2 HG2 k0
  refine (marshalString_any realm _ HR.out).mono ?_
  rintro e w4 ⟨A4, c4, rfl, hrow, hb⟩
  have T4 := Aside0.mk (T3.out.below hb)
  have R4 := Aside0.mk (row_reads hrow).2
  have L4 := Aside0.mk (row_reads hrow).1
  clear hrow hb T3 k1
  go_upto_region 11 with (first | ((with_reducible refine gate_builtin (b := .append) (xs := #[.tmp 46, .tmp 47]) rfl ?_); at_builtin; refine Kd.R_append_rows (Kd.int .u8) (Rr := fun (x : Int) (cs : List Value) => cs = [.int .u8 x]) (w0 := w4) w.heap.size rfl (.tmp 46) (.tmp 47) 35 5 (.int .u8 0) 1 rfl Try.underlying35 info5 rfl (by decide) (by decide) (.slice (some ⟨g2, 0, none⟩) 2 2) (e16 names.length) (cnt16 realm) (A4) ((2 + realm.size)) (c4) (fun _ => True) (fun _ => False) rfl rfl T4.out.row R4.out (fun _ _ h => h) (fun _ h => h.elim) (fun _ _ => trivial) (Below.refl _ _) T4.out.size (by have := HR.out; have := L4.out; rw [e16_len]; omega) ?_; intro v_ w_ ho hb hg hat; have T5 := Aside0.mk (T4.out.app (by decide) ho hb hg); clear ho hb hg hat) | fail)
  have k2 := T5.out.box.cell 2 (.slice A names.length c) rfl
  clear T4 R4 L4
  go_wp2_with fail
  go_loopw [6, 52] (fun v6 i wr => ∃ j : Nat, j ≤ names.length ∧ i = .int .i64 j ∧ Aside0 (Wr w wr gb 87 #[.int .i16 names.length, .string realm, .slice A names.length c, .int .i32 nt] v6 (e16 names.length ++ cnt16 realm ++ (names.take j).flatMap cnt16))) (fun _ i _ => names.length - (intOf i).toNat)
  case atStart => exact ⟨0, Nat.zero_le _, rfl, ⟨by rw [List.take_zero, List.flatMap_nil, List.append_nil]; exact T5.out⟩⟩
  clear T5 k2
  obtain ⟨j, hj, rfl, TJ⟩ := hrel
  by_cases hlt : j < names.length
  case neg =>
    obtain rfl : j = names.length := by omega
    have tj := TJ.out
    rw [List.take_length] at tj
    have TK := Aside0.mk tj
    clear tj TJ
    go_upto_region 21 with fail
    have hb6 := below_alloc (Below.refl wr.heap.size wr) (.cells (madeCells #[.int .u8 0] 4) 5)
    have X6 := Aside0.mk (show Box (wr.alloc (.cells (madeCells #[.int .u8 0] 4) 5)) wr.heap.size 5 (nums .u8 [0, 0, 0, 0]).toArray from by rw [← show madeCells #[.int .u8 0] 4 = (nums .u8 [0, 0, 0, 0]).toArray from made_cells 4]; exact Box.new _ _ _)
    have B6 := Aside0.mk hb6
    have k3 := (TK.out.below hb6).box.cell 3 (.int .i32 nt) rfl
    clear hb6
    generalize wr.alloc (.cells (madeCells #[.int .u8 0] 4) 5) = w6 at *
    go_upto_region 22 with (first | (go_at_call 70; refine (put32_any wr.heap.size 0 _ (IntKind.u32.wrap nt) [0, 0, 0, 0] w6 X6.out (by decide) (u32_range nt).1 (u32_range nt).2).mono ?_; rintro e w7 ⟨rfl, hb, hg⟩; have X7 := Aside0.mk (show Box w7 wr.heap.size 5 (nums .u8 (e32 (IntKind.u32.wrap nt))).toArray from hb); have T7 := Aside0.mk (TK.out.below (put_below B6.out hg)); clear hb hg) | fail)
    clear TK B6 X6 k3
    have R7 := Aside0.mk (row_reads (row_box X7.out (Nat.le_refl _) (by rw [e32_len]; decide))).2
    clear X7
    go_wp2_with ((with_reducible refine gate_builtin (b := .append) (xs := #[.tmp 79, .tmp 80]) rfl ?_); at_builtin; refine Kd.R_append_rows (Kd.int .u8) (Rr := fun (x : Int) (cs : List Value) => cs = [.int .u8 x]) (w0 := w7) w.heap.size rfl (.tmp 79) (.tmp 80) 35 5 (.int .u8 0) 1 rfl Try.underlying35 info5 rfl (by decide) (by decide) (u6) (e16 names.length ++ cnt16 realm ++ names.flatMap cnt16) (e32 (IntKind.u32.wrap nt)) (some ⟨wr.heap.size, 0, none⟩) (4) (_) (fun _ => True) (fun _ => False) rfl rfl T7.out.row R7.out (fun _ _ h => h) (fun _ h => h.elim) (fun _ _ => trivial) (Below.refl _ _) T7.out.size (prin_len realm names _ 4 HR.out HN.out HNS.out (by decide)) ?_; intro v_ w_ ho hb hg hat; have T8 := Aside0.mk (T7.out.app (by decide) ho hb hg); clear ho hb hg hat)
    obtain ⟨A8, c8, rfl⟩ := Kd.R_slice T8.out.row
    have hrow := T8.out.row
    have hlow := T8.out.low
    clear T7 R7 T8
    go_ret2
    refine ⟨A8, _, c8, rfl, ?_, hlow⟩
    rw [prinB, ← List.append_assoc, ← List.append_assoc]
    exact hrow
  have hlt' : (j : Int) < (names.length : Int) := by omega
  have hj0 : (0 : Int) ≤ (j : Int) := by omega
  obtain ⟨ad, rfl, hcell⟩ := Kd.at_string (Kd.C_below HC.out TJ.out.low) (j : Int) hj0 hlt'
  rw [Int.toNat_natCast] at hcell
  obtain ⟨x, hx⟩ : ∃ x, names[j]? = some x := ⟨_, List.getElem?_eq_getElem hlt⟩
  have hrd : rdOf ByteArray.empty names (j : Int) = x := by unfold rdOf; rw [Int.toNat_natCast, List.getD_eq_getElem?_getD, hx]; rfl
  rw [hrd] at hcell
  have HX := Aside0.mk hx
  have HLT := Aside0.mk hlt
  have HXS := Aside0.mk (HNS.out x (List.mem_of_getElem? hx))
  clear hx hrd hlt
  go_wp2_with fail
  refine (marshalString_any x _ HXS.out).mono ?_
  rintro e w8 ⟨A8, c8, rfl, hrow, hb⟩
  have T8 := Aside0.mk (TJ.out.below hb)
  have R8 := Aside0.mk (row_reads hrow).2
  have L8 := Aside0.mk (row_reads hrow).1
  clear hrow hb TJ hcell
  go_wp2_with (first | ((with_reducible refine gate_builtin (b := .append) (xs := #[.tmp 66, .tmp 67]) rfl ?_); at_builtin; refine Kd.R_append_rows (Kd.int .u8) (Rr := fun (x : Int) (cs : List Value) => cs = [.int .u8 x]) (w0 := w8) w.heap.size rfl (.tmp 66) (.tmp 67) 35 5 (.int .u8 0) 1 rfl Try.underlying35 info5 rfl (by decide) (by decide) (u6) (e16 names.length ++ cnt16 realm ++ (names.take j).flatMap cnt16) (cnt16 x) (A8) ((2 + x.size)) (c8) (fun _ => True) (fun _ => False) rfl rfl T8.out.row R8.out (fun _ _ h => h) (fun _ h => h.elim) (fun _ _ => trivial) (Below.refl _ _) T8.out.size (prin_len realm (names.take j) _ _ HR.out (by rw [List.length_take]; have := HN.out; omega) (fun s h => HNS.out s (List.mem_of_mem_take h)) (by have := HXS.out; omega)) ?_; intro v_ w_ ho hb hg hat; have T9 := Aside0.mk (T8.out.app (by decide) ho hb hg); clear ho hb hg hat) | fail)
  go_roundw
  case rel =>
    refine ⟨j + 1, HLT.out, by go_num, ⟨?_⟩⟩
    have htk : names.take (j + 1) = names.take j ++ [x] := by rw [List.take_add_one, HX.out]; rfl
    rw [htk, List.flatMap_append, ← List.append_assoc, List.flatMap_cons, List.flatMap_nil, List.append_nil]
    exact T9.out
  case measure => have := HLT.out; simp [intOf]; omega
end Go.Proofs.Ytcbbipdiahmelaa.B

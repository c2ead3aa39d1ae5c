/- A keytab is written; under what each theorem states. Written by a program of this session. -/
import Derived.Test.YtcbbipdiahmelaaB17
import Derived.Test.YtcbbipdiahmelaaB7
namespace Go.Proofs.Ytcbbipdiahmelaa.B
open Go.RowKit Go.Proofs.YtcbbipdiahmelaaW.PrintWords Go.Proofs.YtcbbipdiahmelaaW.PrintLast
open Go.Proofs.Ytcbbipdiahmelaa.A (S25 S91 k91)
set_option linter.unusedVariables false
set_option linter.unusedSimpArgs false
set_option maxRecDepth 100000
/-- An entry's chunk. -/
def entC (e : S25) : List Int := e32 (entB e true).length ++ entB e true
theorem entC_len {e : S25} (h : OkE e) : (entC e).length ≤ 5004 := by
  have := (h.len true).2.1
  have h4 : (e32 ((entB e true).length : Int)).length = 4 := rfl
  rw [entC, List.length_append]
  omega
theorem entCs_len : ∀ {es : List S25}, (∀ e ∈ es, OkE e) → (es.flatMap entC).length ≤ 5004 * es.length
  | [], _ => by simp
  | a :: r, h => by
    have h1 := entCs_len (es := r) (fun e he => h e (List.mem_cons_of_mem _ he))
    have h2 := entC_len (h a (List.mem_cons_self ..))
    rw [List.flatMap_cons, List.length_append, List.length_cons]
    omega
set_option maxHeartbeats 8000000 in
theorem marshal_any (gt base : Nat) (A : Option Addr) (c : Nat) (es : List S25) (w : World) (ht : Box w gt 74 #[.int .u8 2, .slice A es.length c]) (hR : k91.R 91 w base (fun _ => True) (.slice A es.length c) (es.map pe)) (hok : ∀ e ∈ es, OkE e) (hlen : es.length ≤ 1000) :
    Calls Try.prog 34 #[.pointer (some ⟨gt, 0, none⟩)] w fun x w' => ∃ A' n' c', x = .returned (.tuple #[.slice A' n' c', .nilIface]) ∧ (Kd.int .u8).R 5 w' w.heap.size (fun _ => True) (.slice A' n' c') (5 :: 2 :: es.flatMap entC) ∧ Below w.heap.size w w' := by
  have HT := Aside0.mk ht
  have HR := Aside0.mk hR
  have HOK := Aside0.mk hok
  have HLEN := Aside0.mk hlen
  have hu74 := Try.underlying74
  have hu91 := Try.underlying91
  have d0 := ht.cell 0 _ rfl
  have d1 := ht.cell 1 _ rfl
  clear ht hR hok hlen
  go_enter Try.func34, Try.ntmps34
  go_upto_region 2 with fail
  obtain ⟨wa, hwa⟩ : ∃ x, x = w.alloc (.cells #[.int .u8 5, .int .u8 2] 5) := ⟨_, rfl⟩
  have TA := Aside0.mk (show Wr w wa gt 74 #[.int .u8 2, .slice A es.length c] (.slice (some ⟨w.heap.size, 0, none⟩) 2 2) [5, 2] from hwa ▸ ⟨Kd.R_of_own (own_lit w w.heap.size 5 .u8 [5, 2] (Nat.le_refl _) (by decide)) (fun _ _ => trivial), HT.out.alloc _, below_alloc (Below.refl _ _) _, by simp⟩)
  rw [← hwa]
  have d2 := TA.out.box.cell 1 _ rfl
  clear hwa d0 d1
  go_wp2_with fail
  go_loopw [4, 19] (fun va i wr => ∃ j : Nat, j ≤ es.length ∧ i = .int .i64 j ∧ Aside0 (Wr w wr gt 74 #[.int .u8 2, .slice A es.length c] va (5 :: 2 :: (es.take j).flatMap entC))) (fun _ i _ => es.length - (intOf i).toNat)
  case atStart => exact ⟨0, Nat.zero_le _, rfl, ⟨TA.out⟩⟩
  clear TA d2
  obtain ⟨j, hj, rfl, TJ⟩ := hrel
  by_cases hlt : j < es.length
  case neg =>
    obtain rfl : j = es.length := by omega
    have tj := TJ.out
    rw [List.take_length] at tj
    have TK := Aside0.mk tj
    clear tj TJ
    obtain ⟨A8, c8, hu8⟩ := Kd.R_slice TK.out.row
    have hrow := TK.out.row
    have hlow := TK.out.low
    clear TK
    subst hu8
    go_wp2_with fail
    go_ret2
    exact ⟨A8, _, c8, rfl, hrow, hlow⟩
  have hlt' : (j : Int) < (es.length : Int) := by omega
  have hj0 : (0 : Int) ≤ (j : Int) := by omega
  have hj1 : (j : Int) + 1 ≤ 1000 := by have := HLEN.out; omega
  have V9 := Aside0.mk (show k91.R 91 wr base (fun _ => True) (.slice A es.length c) (es.map pe) from Kd.R_step HR.out (fun k _ hk => TJ.out.low.block k hk))
  obtain ⟨ad, x, X2, d2, X8, d8, rfl, hx, hcells, g2, g8⟩ := row91 V9.out j (by simpa using hlt)
  obtain ⟨e, hes⟩ : ∃ e, es[j]? = some e := ⟨_, List.getElem?_eq_getElem hlt⟩
  obtain rfl : x = pe e := by rw [List.getElem?_map, hes] at hx; injection hx with hx; exact hx.symm
  have HX := Aside0.mk hes
  have HLT := Aside0.mk hlt
  have HE := Aside0.mk (HOK.out e (List.mem_of_getElem? hes))
  have hz8 : (pe e).f3.f1.length = e.f7.size := bytesOf_length e.f7
  rw [hz8] at g8 hcells
  obtain ⟨cs, hcs⟩ : ∃ y : Array Value, y = #[Value.int .i16 e.f1.length, .string e.f0, .slice X2 e.f1.length d2, .int .i32 e.f2, .int .i64 e.f3, .bool true, .int .u8 e.f4, .int .i32 e.f6, .slice X8 e.f7.size d8, .int .u32 e.f5] := ⟨_, rfl⟩
  have HC2 := Aside0.mk (show (∀ i u, cs.toList[i]? = some u → wr.cell? ((ad.add (j * 10)).add i) = some u) ∧ cs.toList.length = 10 from by subst hcs; exact ⟨hcells, rfl⟩)
  have HS2 := Aside0.mk (show cs.size = 10 ∧ cs.all (·.oneCell') = true from by subst hcs; exact ⟨rfl, by simp [Value.oneCell']⟩)
  have HCS := Aside0.mk hcs
  have G2 := Aside0.mk (show Kd.string.C wr X2 e.f1.length e.f1 from (Kd.R_reads' g2).2.2)
  have G8 := Aside0.mk (show (Kd.int .u8).C wr X8 e.f7.size (bytesOf e.f7) from by have h_ := (Kd.R_reads' g8).2.2; rw [hz8] at h_; exact h_)
  clear hcs hx hes hlt hcells g2 g8 hz8 V9
  go_upto_region 5 with (first | ((with_reducible refine gate_dst (N := 22) rfl ?_); refine load_cells_event ?hg (N := 22) ?hd 91 (.tmp 21) (ad.add (j * 10)) cs.toList _ ?ho ?hx HC2.out.1 Try.underlying91 ?hq ?hi ?_; (case hg => rfl); (case hd => rfl); (case ho => rfl); (case hx => first | rfl | (go_simp; done)); (case hq => rfl); (case hi => exact info91.trans (congrArg some HC2.out.2.symm))) | ((with_reducible refine gate_dst (N := 6) rfl ?_); refine box_event ?hg (N := 6) ?hd (cs := entry0) (t := 91) ?hr ?_; (case hd => rfl); (case hg => rfl); (case hr => first | (go_simp; done) | (go_simp; rfl)); intro gq hgb w1 hbox hb; have HBX := Aside0.mk hbox; have HBB := Aside0.mk hb; have HGB := Aside0.mk (show wr.heap.size ≤ gq from by rw [hgb]; exact Nat.le_refl _); clear hbox hb hgb) | ((with_reducible refine gate_store (t := 91) (p := 6) (v := .tmp 22) rfl ?_); refine store_event ?hg 91 (.tmp 6) (.tmp 22) ?ho gq cs ?hx ?hy 91 _ HBX.out ?hi ?hl HS2.out.2 ?_; (case hg => rfl); (case ho => rfl); (case hx => first | rfl | (go_simp; done)); (case hy => first | (simp only [Array.toArray_toList]; rfl) | (go_simp; done)); (case hi => exact info91.trans (congrArg some HS2.out.1.symm)); (case hl => exact HS2.out.1.symm); intro w2 hb2 hbl2 hsz2 hot2; have HQ2 := Aside0.mk (show Box w2 gq 91 #[Value.int .i16 e.f1.length, .string e.f0, .slice X2 e.f1.length d2, .int .i32 e.f2, .int .i64 e.f3, .bool true, .int .u8 e.f4, .int .i32 e.f6, .slice X8 e.f7.size d8, .int .u32 e.f5] from HCS.out ▸ hb2); have HBL2 := Aside0.mk (hbl2 wr HBB.out HGB.out); clear hb2 hbl2 hsz2 hot2) | fail)
  clear HBB HBX HC2 HS2 HCS HGB
  obtain ⟨wx, hwx⟩ : ∃ z, z = w2.drew := ⟨_, rfl⟩
  have hbd : Below w2.heap.size w2 wx := hwx ▸ below_drew (Below.refl _ _)
  have hbr : Below wr.heap.size wr wx := below_step HBL2.out hbd
  have QX := Aside0.mk (HQ2.out.below hbd)
  have TX := Aside0.mk (TJ.out.below hbr)
  have G2x := Aside0.mk (Kd.C_below G2.out hbr)
  have G8x := Aside0.mk (Kd.C_below G8.out hbr)
  clear hbd hbr HQ2 TJ G2 G8 HBL2
  have q0 := QX.out.cell 0 (.int .i16 e.f1.length) rfl
  have q1 := QX.out.cell 1 (.string e.f0) rfl
  have q2 := QX.out.cell 2 (.slice X2 e.f1.length d2) rfl
  have q3 := QX.out.cell 3 (.int .i32 e.f2) rfl
  have q4 := QX.out.cell 4 (.int .i64 e.f3) rfl
  have q5 := QX.out.cell 5 (.bool true) rfl
  have q6 := QX.out.cell 6 (.int .u8 e.f4) rfl
  have q7 := QX.out.cell 7 (.int .i32 e.f6) rfl
  have q8 := QX.out.cell 8 (.slice X8 e.f7.size d8) rfl
  have q9 := QX.out.cell 9 (.int .u32 e.f5) rfl
  have hi91 := info91
  have hw2 : wrap64 2 = 2 := by unfold wrap64; omega
  refine start_ (n := 12) (S := fun w' => w'.cell? ⟨gt, 0, none⟩ = some (.int .u8 2)) (ds := []) #[false, false, false, false, false, false, false, false, false, false, false, false] (by kernel_rfl) rfl rfl ((hwx ▸ (show _ from (Box.cell TX.out.box 0 (.int .u8 2) rfl)))) (fun hHeld => ?_)
  rw [← hwx] at hHeld ⊢
  clear hwx
  refine pure_ (i := 1) (N := some 25) (v := ?_) (a' := ?_) #[false, true, false, false, false, false, false, false, false, false, false, false] rfl rfl (by kernel_rfl) (fun _ _ _ h => h) (Or.inl ⟨by rfl, ?_⟩) ?_ ?_
  rotate_left
  · intro w'
    go_simp
    with_reducible rfl
  rotate_left
  · simp only [Act.put, List.setIfInBounds_toArray, List.set_cons_zero, List.set_cons_succ, i64_w, i32_w]
    rfl
  refine pure_ (i := 2) (N := some 26) (v := ?_) (a' := ?_) #[false, true, true, false, false, false, false, false, false, false, false, false] rfl rfl (by kernel_rfl) (fun _ _ _ h => h) (Or.inl ⟨by rfl, ?_⟩) ?_ ?_
  rotate_left
  · intro w'
    go_simp
    with_reducible rfl
  rotate_left
  · simp only [Act.put, List.setIfInBounds_toArray, List.set_cons_zero, List.set_cons_succ, i64_w, i32_w]
    rfl
  refine pure_ (i := 3) (N := some 27) (v := ?_) (a' := ?_) #[false, true, true, true, false, false, false, false, false, false, false, false] rfl rfl (by kernel_rfl) (fun _ _ _ h => h) (Or.inl ⟨by rfl, ?_⟩) ?_ ?_
  rotate_left
  · intro w'
    go_simp
    with_reducible rfl
  rotate_left
  · simp only [Act.put, List.setIfInBounds_toArray, List.set_cons_zero, List.set_cons_succ, i64_w, i32_w]
    rfl
  refine take_ (i := 4) (N := some 28) (v := ?_) (a' := ?_) #[false, true, true, true, true, false, false, false, false, false, false, false] rfl rfl (by kernel_rfl) (fun _ _ _ h => h) (Or.inl ⟨by rfl, ?_⟩) hHeld ?_ ?_
  rotate_left
  · intro w' s0
    go_simp
    with_reducible rfl
  rotate_left
  · simp only [Act.put, List.setIfInBounds_toArray, List.set_cons_zero, List.set_cons_succ, i64_w, i32_w]
    rfl
  refine pure_ (i := 5) (N := some 29) (v := ?_) (a' := ?_) #[false, true, true, true, true, true, false, false, false, false, false, false] rfl rfl (by kernel_rfl) (fun _ _ _ h => h) (Or.inl ⟨by rfl, ?_⟩) ?_ ?_
  rotate_left
  · intro w'
    go_simp
    with_reducible rfl
  rotate_left
  · simp only [Act.put, List.setIfInBounds_toArray, List.set_cons_zero, List.set_cons_succ, i64_w, i32_w]
    rfl
  refine one_ (i := 0) (N := some 24) #[true, true, true, true, true, true, false, false, false, false, false, false] rfl rfl (by kernel_rfl) (by decide) (fun K hK => ?_)
  refine value_ (w1 := ?_) (v := ?_) (by rfl) rfl ?_ ?_
  rotate_left 2
  · go_simp
    constructor
    · rfl
    · rfl
  clear q0 q1 q2 q3 q4 q5 q6 q7 q8 q9 hi91
  refine hK.out _ _ ((Box.cell TX.out.box 0 (.int .u8 2) rfl)) (fun hHeld => ?_)
  clear hK K
  refine norm_ (a' := ?_) ?_ ?_
  rotate_left
  · show Act.put _ (some 24) _ = _
    simp only [Act.put, List.setIfInBounds_toArray, List.set_cons_zero, List.set_cons_succ, i64_w, i32_w]
    rfl
  refine one_ (i := 6) (N := some 30) #[true, true, true, true, true, true, true, false, false, false, false, false] rfl rfl (by kernel_rfl) (by decide) (fun K hK => ?_)
  refine goes_ Try.func46 (by kernel_rfl) rfl #[.agg (cells91 e X2 d2 X8 d8), .int .i64 (wrap64 2)] (by rfl) rfl rfl (by simp only [List.map_toArray, List.map_cons, List.map_nil]; rfl) ?_
  rw [hw2]
  with_reducible refine (entMarshal_any e X2 X8 d2 d8 wx HE.out G2x.out G8x.out).mono ?_
  rintro e_ w4 ⟨A4, n4, c4, rfl, hrow, hb_⟩
  refine ⟨_, rfl, ?_⟩
  have T4 := Aside0.mk (TX.out.below hb_)
  have R4 := Aside0.mk (show (Kd.int .u8).C w4 A4 n4 (entC e) from (row_reads hrow).2)
  have N4 := Aside0.mk (show n4 = (entC e).length from (row_reads hrow).1)
  clear hb_ hrow TX G2x G8x QX
  refine hK.out _ _ ((Box.cell T4.out.box 0 (.int .u8 2) rfl)) (fun hHeld => ?_)
  clear hK K
  refine norm_ (a' := ?_) ?_ ?_
  rotate_left
  · show Act.put _ (some 30) _ = _
    simp only [Act.put, List.setIfInBounds_toArray, List.set_cons_zero, List.set_cons_succ, i64_w, i32_w]
    rfl
  refine pure_ (i := 7) (N := some 23) (v := ?_) (a' := ?_) #[true, true, true, true, true, true, true, true, false, false, false, false] rfl rfl (by kernel_rfl) (fun _ _ _ h => h) (Or.inl ⟨by rfl, ?_⟩) ?_ ?_
  rotate_left
  · intro w'
    go_simp
    with_reducible rfl
  rotate_left
  · simp only [Act.put, List.setIfInBounds_toArray, List.set_cons_zero, List.set_cons_succ, i64_w, i32_w]
    rfl
  refine pure_ (i := 8) (N := some 31) (v := ?_) (a' := ?_) #[true, true, true, true, true, true, true, true, true, false, false, false] rfl rfl (by kernel_rfl) (fun _ _ _ h => h) (Or.inl ⟨by rfl, ?_⟩) ?_ ?_
  rotate_left
  · intro w'
    go_simp
    with_reducible rfl
  rotate_left
  · simp only [Act.put, List.setIfInBounds_toArray, List.set_cons_zero, List.set_cons_succ, i64_w, i32_w]
    rfl
  refine pure_ (i := 9) (N := some 32) (v := ?_) (a' := ?_) #[true, true, true, true, true, true, true, true, true, true, false, false] rfl rfl (by kernel_rfl) (fun _ _ _ h => h) (Or.inl ⟨by rfl, ?_⟩) ?_ ?_
  rotate_left
  · intro w'
    go_simp
    with_reducible rfl
  rotate_left
  · simp only [Act.put, List.setIfInBounds_toArray, List.set_cons_zero, List.set_cons_succ, i64_w, i32_w]
    rfl
  refine pure_ (i := 10) (N := some 7) (v := ?_) (a' := ?_) #[true, true, true, true, true, true, true, true, true, true, true, false] rfl rfl (by kernel_rfl) (fun _ _ _ h => h) (Or.inl ⟨by rfl, ?_⟩) ?_ ?_
  rotate_left
  · intro w'
    go_simp
    with_reducible rfl
  rotate_left
  · simp only [Act.put, List.setIfInBounds_toArray, List.set_cons_zero, List.set_cons_succ, i64_w, i32_w]
    rfl
  refine pure_ (i := 11) (N := some 8) (v := ?_) (a' := ?_) #[true, true, true, true, true, true, true, true, true, true, true, true] rfl rfl (by kernel_rfl) (fun _ _ _ h => h) (Or.inl ⟨by rfl, ?_⟩) ?_ ?_
  rotate_left
  · intro w'
    go_simp
    with_reducible rfl
  rotate_left
  · simp only [Act.put, List.setIfInBounds_toArray, List.set_cons_zero, List.set_cons_succ, i64_w, i32_w]
    rfl
  refine done_ (by kernel_rfl) ?_
  
  go_wp2_with ((with_reducible refine gate_builtin (b := .append) (xs := #[.tmp 37, .tmp 38]) rfl ?_); at_builtin; refine Kd.R_append_rows (Kd.int .u8) (Rr := fun (x : Int) (cs : List Value) => cs = [.int .u8 x]) (w0 := w4) w.heap.size rfl (.tmp 37) (.tmp 38) 35 5 (.int .u8 0) 1 rfl Try.underlying35 info5 rfl (by decide) (by decide) (u4) (5 :: 2 :: (es.take j).flatMap entC) (entC e) (A4) (n4) (c4) (fun _ => True) (fun _ => False) rfl rfl T4.out.row R4.out (fun _ _ h => h) (fun _ h => h.elim) (fun _ _ => trivial) (Below.refl _ _) T4.out.size (by have h1 := entCs_len (es := es.take j) (fun e h => HOK.out e (List.mem_of_mem_take h)); have h2 := entC_len HE.out; have h3 := HLEN.out; have h4 : (es.take j).length ≤ es.length := (by rw [List.length_take]; exact Nat.min_le_right _ _); have h5 := N4.out; rw [List.length_cons, List.length_cons, h5]; omega) ?_; intro v_ w_ ho hb hg hat; have TZ := Aside0.mk (show Wr w w_ gt 74 #[.int .u8 2, .slice (some ad) es.length c] v_ (5 :: 2 :: ((es.take j).flatMap entC ++ entC e)) from T4.out.app (by decide) ho hb hg); clear ho hb hg hat)
  go_roundw
  case rel =>
    refine ⟨j + 1, HLT.out, by go_num, ⟨?_⟩⟩
    have htk : es.take (j + 1) = es.take j ++ [e] := by rw [List.take_add_one, HX.out]; rfl
    rw [htk, List.flatMap_append, List.flatMap_cons, List.flatMap_nil, List.append_nil]
    exact TZ.out
  case measure => have := HLT.out; simp [intOf]; omega
end Go.Proofs.Ytcbbipdiahmelaa.B

/- The bytes of an entry, as the specification writes them; under what each theorem states. Written by a program of this session. -/
import Derived.Test.YtcbbipdiahmelaaB5
namespace Go.Proofs.Ytcbbipdiahmelaa.B
open Go.RowKit Go.Proofs.YtcbbipdiahmelaaW.PrintWords Go.Proofs.YtcbbipdiahmelaaW.PrintLast
open Go.Proofs.Ytcbbipdiahmelaa.A (S25 k25)
set_option linter.unusedVariables false
set_option linter.unusedSimpArgs false
set_option maxRecDepth 100000
theorem set_done {α : Type} (done : List α) (z x : α) (m : Nat) : (done ++ List.replicate (m + 1) z).set done.length x = (done ++ [x]) ++ List.replicate m z := by
  rw [List.set_append_right _ _ (Nat.le_refl _), Nat.sub_self, List.replicate_succ, List.set_cons_zero]
  simp
/-- The lowest bytes of a number, the highest one first. -/
def big.bytes (a0 : Int) (n : Nat) : List Int := (List.range n).map fun i => a0 / 2 ^ (8 * (n - 1 - i)) % 256
theorem big.bytes_len (a0 : Int) (n : Nat) : (big.bytes a0 n).length = n := by simp [big.bytes]
theorem big.bytes_set (a0 : Int) (n j : Nat) (hj : j < n) : ((((big.bytes a0 n).take j ++ List.replicate (n - j) 0).map fun x => Value.int .u8 x).toArray).setIfInBounds j (.int .u8 (a0 / 2 ^ (8 * (n - 1 - j)) % 256)) = (((big.bytes a0 n).take (j + 1) ++ List.replicate (n - (j + 1)) 0).map fun x => Value.int .u8 x).toArray := by
  have hl := big.bytes_len a0 n
  have hb : (big.bytes a0 n)[j]? = some (a0 / 2 ^ (8 * (n - 1 - j)) % 256) := by simp [big.bytes, hj]
  have ht : ((big.bytes a0 n).take j).length = j := by rw [List.length_take]; omega
  obtain ⟨m, hm⟩ : ∃ m, n - j = m + 1 := ⟨n - j - 1, by omega⟩
  rw [List.setIfInBounds_toArray, ← List.map_set (f := fun x => Value.int .u8 x), hm, show n - (j + 1) = m from by omega]
  have hs : (List.take j (big.bytes a0 n) ++ List.replicate (m + 1) 0).set j (a0 / 2 ^ (8 * (n - 1 - j)) % 256) = (List.take j (big.bytes a0 n) ++ [a0 / 2 ^ (8 * (n - 1 - j)) % 256]) ++ List.replicate m 0 := by
    have := set_done ((big.bytes a0 n).take j) 0 (a0 / 2 ^ (8 * (n - 1 - j)) % 256) m
    rwa [ht] at this
  rw [hs, List.take_add_one, hb]
  rfl
set_option maxHeartbeats 4000000 in
theorem big.any (a0 : Int) (n : Nat) (hn : n ≤ 8) (h0 : 0 ≤ a0) (w : World) :
    Calls Try.prog 20 #[.int .u64 a0, .int .i64 n] w fun e w' => e = .returned (.string (strOfNums (big.bytes a0 n))) ∧ Below w.heap.size w w' := by
  have hmk : ∀ W : World, (Instr.makeSlice 35 (.int .i64 (n : Int)) (.int .i64 (n : Int))).run Try.prog W = .ok (.slice (some ⟨W.heap.size, 0, none⟩) n n) (W.alloc (.cells (madeCells #[.int .u8 0] n) 5)) :=
    fun W => run_make_row' 35 5 (.int .u8 0) 1 Try.underlying35 info5 rfl .i64 .i64 n (by omega) (by omega) W
  have hn' : (n : Int) ≤ 8 := by omega
  go_enter Try.func20, Try.ntmps20
  go_wp2_with fail
  go_loopw [11] (fun i wr => ∃ (j : Nat), j ≤ n ∧ i = .int .i64 j ∧ Aside0 (Box wr w.heap.size 5 (((big.bytes a0 n).take j ++ List.replicate (n - j) 0).map fun x => Value.int .u8 x).toArray) ∧ Aside0 (Below w.heap.size w wr)) (fun i _ => n - (intOf i).toNat)
  case atStart =>
    refine ⟨0, Nat.zero_le _, rfl, ⟨?_⟩, ⟨below_alloc (Below.refl _ _) _⟩⟩
    have hm : madeCells #[.int .u8 0] n = ((List.replicate n (0 : Int)).map fun x => Value.int .u8 x).toArray := by
      apply Array.ext
      · simp [madeCells]
      · intro i h1 h2
        simp [madeCells, Nat.mod_one]
    have := Box.new w (madeCells #[.int .u8 0] n) 5
    rw [hm] at this ⊢
    simpa using this
  obtain ⟨j, hj, rfl, BX, BL⟩ := hrel
  by_cases hlt : j < n
  case neg =>
    obtain rfl : j = n := by omega
    have hnl : ¬ ((j : Int) < (j : Int)) := by omega
    have hl := big.bytes_len a0 j
    have hbx := BX.out
    rw [Nat.sub_self, List.replicate_zero, List.append_nil, List.take_of_length_le (by omega)] at hbx
    have hown : wr.ownsRow w.heap.size 5 1 (.slice (some ⟨w.heap.size, 0, none⟩) j j) j (nums .u8 (big.bytes a0 j)) := by
      have hml : (j : Nat) ≤ maxLen := by unfold maxLen; omega
      exact ⟨by simp [nums, hl], .inr ⟨w.heap.size, j, _, rfl, Nat.le_refl _, hbx, Nat.le_refl _, hml, by simp [hl], by rw [Nat.mul_one]; exact List.take_of_length_le (by simp [hl])⟩⟩
    have hcv := own_string (P := Try.prog) Try.underlying35 Try.underlying5 Try.underlying9 hown
    clear hown hbx BX
    go_wp2
    go_ret
    exact ⟨rfl, BL.out⟩
  have hlt' : (j : Int) < (n : Int) := by omega
  have hj0 : (0 : Int) ≤ (j : Int) := by omega
  obtain ⟨old, ho⟩ : ∃ old, wr.cell? ⟨w.heap.size, j, none⟩ = some old := by
    rw [blk_cell BX.out]
    exact ⟨_, Array.getElem?_eq_getElem (by have := big.bytes_len a0 n; simp; omega)⟩
  have hf := BX.out.free j
  go_wp2
  go_roundw
  case rel => exact ⟨j + 1, by omega, by go_num, ⟨BX.out.puts j _ (big.bytes_set a0 n j hlt)⟩, ⟨below_set BL.out (Nat.le_refl _)⟩⟩
  case measure => simp [intOf]; omega
theorem big2 (v : Int) : big.bytes v 2 = e16 v := by simp [big.bytes, e16, List.range_succ]
theorem big4 (v : Int) : big.bytes v 4 = e32 v := by simp [big.bytes, e32, List.range_succ]
theorem big1 (v : Int) : big.bytes v 1 = [v % 256] := by simp [big.bytes, List.range_succ]
theorem str_app (a b : List Int) : strOfNums a ++ strOfNums b = strOfNums (a ++ b) := by
  unfold strOfNums
  apply ByteArray.ext
  simp [List.map_append]
theorem str_size (a : List Int) : (strOfNums a).size = a.length := by simp [strOfNums, ByteArray.size]
theorem u64_nat {x : Int} (h0 : 0 ≤ x) (h1 : x < 18446744073709551616) : IntKind.u64.wrap x = x := by rw [IntKind.wrap_u64]; omega
set_option maxHeartbeats 4000000 in
theorem counted_any (s : ByteArray) (n : Nat) (hn : n ≤ 8) (w : World) (hs : s.size ≤ 1099511627776) :
    Calls Try.prog 22 #[.string s, .int .i64 n] w fun e w' => e = .returned (.string (strOfNums (big.bytes s.size n ++ bytesOf s))) ∧ Below w.heap.size w w' := by
  have hw : IntKind.u64.wrap (s.size : Int) = (s.size : Int) := u64_nat (by omega) (by omega)
  obtain ⟨b, hb⟩ : ∃ b, b = strOfNums (big.bytes s.size n) := ⟨_, rfl⟩
  have hbs : b.size ≤ 8 := by rw [hb, str_size, big.bytes_len]; exact hn
  have h1 : b.size + s.size ≤ 9223372036854775807 := by omega
  have HB := Aside0.mk hb
  have hr : strOfNums (big.bytes s.size n ++ bytesOf s) = b ++ s := by rw [hb, ← str_app, strOf_bytesOf']
  rw [hr]
  have HN := Aside0.mk hn
  clear hb hbs hs hr hn
  go_enter Try.func22, Try.ntmps22
  go_wp2_with fail
  have h2 := big.any (s.size : Int) n HN.out (by omega)
  rw [← HB.out] at h2
  refine (h2 _).mono ?_
  clear h2
  rintro e w' ⟨rfl, hb⟩
  have HB2 := Aside0.mk hb
  clear hb
  go_wp2
  go_ret
  exact ⟨rfl, HB2.out⟩
theorem big2_any (v : Int) (w : World) (h0 : 0 ≤ v) : Calls Try.prog 20 #[.int .u64 v, .int .i64 2] w fun e w' => e = .returned (.string (strOfNums (e16 v))) ∧ Below w.heap.size w w' := by
  have := big.any v 2 (by decide) h0 w; rwa [big2] at this
theorem big4_any (v : Int) (w : World) (h0 : 0 ≤ v) : Calls Try.prog 20 #[.int .u64 v, .int .i64 4] w fun e w' => e = .returned (.string (strOfNums (e32 v))) ∧ Below w.heap.size w w' := by
  have := big.any v 4 (by decide) h0 w; rwa [big4] at this
theorem big1_any (v : Int) (w : World) (h0 : 0 ≤ v) (h1 : v < 256) : Calls Try.prog 20 #[.int .u64 v, .int .i64 1] w fun e w' => e = .returned (.string (strOfNums [v])) ∧ Below w.heap.size w w' := by
  have := big.any v 1 (by decide) h0 w; rwa [big1, Int.emod_eq_of_lt h0 h1] at this
theorem counted2_any (s : ByteArray) (w : World) (hs : s.size ≤ 1099511627776) : Calls Try.prog 22 #[.string s, .int .i64 2] w fun e w' => e = .returned (.string (strOfNums (cnt16 s))) ∧ Below w.heap.size w w' := by
  have := counted_any s 2 (by decide) w hs; rwa [big2] at this
theorem counted4_any (s : ByteArray) (w : World) (hs : s.size ≤ 1099511627776) : Calls Try.prog 22 #[.string s, .int .i64 4] w fun e w' => e = .returned (.string (strOfNums (e32 s.size ++ bytesOf s))) ∧ Below w.heap.size w w' := by
  have := counted_any s 4 (by decide) w hs; rwa [big4] at this
set_option maxHeartbeats 8000000 in
theorem entryBytes_any (e : S25) (A1 : Option Addr) (c1 : Nat) (wh : Bool) (w : World) (he : OkE e) (hn : Kd.string.C w A1 e.f1.length e.f1) :
    Calls Try.prog 21 #[.agg #[.string e.f0, .slice A1 e.f1.length c1, .int .i32 e.f2, .int .i64 e.f3, .int .u8 e.f4, .int .u32 e.f5, .int .i32 e.f6, .string e.f7], .bool wh] w fun x w' => x = .returned (.string (strOfNums (entB e wh))) ∧ Below w.heap.size w w' := by
  have HE := Aside0.mk he
  have HN := Aside0.mk hn
  have hu25 := Try.underlying25
  clear he hn
  go_enter Try.func21, Try.ntmps21
  go_upto_region 1 with (first | ((with_reducible refine gate_dst (N := 2) rfl ?_); refine box_event ?hg (N := 2) ?hd (cs := #[.string e.f0, .slice A1 e.f1.length c1, .int .i32 e.f2, .int .i64 e.f3, .int .u8 e.f4, .int .u32 e.f5, .int .i32 e.f6, .string e.f7]) (t := 25) ?hr ?_; (case hd => rfl); (case hg => rfl); (case hr => first | (go_simp; done) | (go_simp; rfl)); intro gb hgb w1 hbox hb; have HB1 := Aside0.mk (show Box w1 gb 25 #[.string e.f0, .slice A1 e.f1.length c1, .int .i32 e.f2, .int .i64 e.f3, .int .u8 e.f4, .int .u32 e.f5, .int .i32 e.f6, .string e.f7] from hbox); have BL1 := Aside0.mk hb; clear hbox hb hgb) | fail)
  obtain ⟨wx, hwx⟩ : ∃ z, z = w1.drew := ⟨_, rfl⟩
  have hbd : Below w1.heap.size w1 wx := hwx ▸ below_drew (Below.refl _ _)
  have QX := Aside0.mk (HB1.out.below hbd)
  have BX := Aside0.mk (below_step BL1.out hbd)
  clear hbd HB1 BL1
  have hnn := HE.out.names
  have hw1 : IntKind.u64.wrap (e.f1.length : Int) = e.f1.length := u64_nat (by omega) (by omega)
  obtain ⟨s1, hs1⟩ : ∃ s, s = strOfNums (e16 e.f1.length) := ⟨_, rfl⟩
  obtain ⟨s2, hs2⟩ : ∃ s, s = strOfNums (cnt16 e.f0) := ⟨_, rfl⟩
  have z1 : s1.size ≤ 2 := by rw [hs1, str_size]; exact Nat.le_refl _
  have z2 : s2.size ≤ 202 := by have := HE.out.realm; rw [hs2, str_size, cnt16_len]; omega
  have zz1 : (9223372036854775807 < s1.size + s2.size) = False := by simp; omega
  have HS1 := Aside0.mk hs1
  have HS2 := Aside0.mk hs2
  have H12 := Aside0.mk (show s1 ++ s2 = strOfNums (e16 e.f1.length ++ cnt16 e.f0) from by rw [hs1, hs2, str_app])
  clear hs1 hs2
  refine start_ (n := 10) (S := fun w' => w'.cell? ⟨gb, 0, none⟩ = some (.string e.f0) ∧ w'.cell? ⟨gb, 1, none⟩ = some (.slice A1 e.f1.length c1)) (ds := []) #[false, false, false, false, false, false, false, false, false, false] (by kernel_rfl) rfl rfl ⟨(hwx ▸ (show _ from (Box.cell QX.out 0 _ rfl))), (hwx ▸ (show _ from (Box.cell QX.out 1 _ rfl)))⟩ (fun hHeld => ?_)
  rw [← hwx] at hHeld ⊢
  clear hwx
  refine pure_ (i := 0) (N := some 8) (v := ?_) (a' := ?_) #[true, false, false, false, false, false, false, false, false, false] rfl rfl (by kernel_rfl) (fun _ _ _ h => h) (Or.inl ⟨by rfl, ?_⟩) ?_ ?_
  rotate_left
  · intro w'
    go_simp
    with_reducible rfl
  rotate_left
  · simp only [Act.put, List.setIfInBounds_toArray, List.set_cons_zero, List.set_cons_succ, i64_w, i32_w]
    rfl
  refine pure_ (i := 5) (N := some 13) (v := ?_) (a' := ?_) #[true, false, false, false, false, true, false, false, false, false] rfl rfl (by kernel_rfl) (fun _ _ _ h => h) (Or.inl ⟨by rfl, ?_⟩) ?_ ?_
  rotate_left
  · intro w'
    go_simp
    with_reducible rfl
  rotate_left
  · simp only [Act.put, List.setIfInBounds_toArray, List.set_cons_zero, List.set_cons_succ, i64_w, i32_w]
    rfl
  refine take_ (i := 1) (N := some 9) (v := ?_) (a' := ?_) #[true, true, false, false, false, true, false, false, false, false] rfl rfl (by kernel_rfl) (fun _ _ _ h => h) (Or.inl ⟨by rfl, ?_⟩) hHeld ?_ ?_
  rotate_left
  · rintro w' ⟨s0, s1⟩
    go_simp
    with_reducible rfl
  rotate_left
  · simp only [Act.put, List.setIfInBounds_toArray, List.set_cons_zero, List.set_cons_succ, i64_w, i32_w]
    rfl
  refine pure_ (i := 2) (N := some 10) (v := ?_) (a' := ?_) #[true, true, true, false, false, true, false, false, false, false] rfl rfl (by kernel_rfl) (fun _ _ _ h => h) (Or.inl ⟨by rfl, ?_⟩) ?_ ?_
  rotate_left
  · intro w'
    go_simp
    with_reducible rfl
  rotate_left
  · simp only [Act.put, List.setIfInBounds_toArray, List.set_cons_zero, List.set_cons_succ, i64_w, i32_w]
    rfl
  refine pure_ (i := 3) (N := some 11) (v := ?_) (a' := ?_) #[true, true, true, true, false, true, false, false, false, false] rfl rfl (by kernel_rfl) (fun _ _ _ h => h) (Or.inl ⟨by rfl, ?_⟩) ?_ ?_
  rotate_left
  · intro w'
    go_simp
    with_reducible rfl
  rotate_left
  · simp only [Act.put, List.setIfInBounds_toArray, List.set_cons_zero, List.set_cons_succ, i64_w, i32_w]
    rfl
  refine take_ (i := 6) (N := some 14) (v := ?_) (a' := ?_) #[true, true, true, true, false, true, true, false, false, false] rfl rfl (by kernel_rfl) (fun _ _ _ h => h) (Or.inl ⟨by rfl, ?_⟩) hHeld ?_ ?_
  rotate_left
  · rintro w' ⟨s0, s1⟩
    go_simp
    with_reducible rfl
  rotate_left
  · simp only [Act.put, List.setIfInBounds_toArray, List.set_cons_zero, List.set_cons_succ, i64_w, i32_w]
    rfl
  refine one_ (i := 4) (N := some 12) #[true, true, true, true, true, true, true, false, false, false] rfl rfl (by kernel_rfl) (by decide) (fun K hK => ?_)
  have h4_ := big2_any (e.f1.length : Int) wx (by omega)
  rw [← HS1.out] at h4_
  refine goes_ Try.func20 (by kernel_rfl) rfl #[.int .u64 e.f1.length, .int .i64 2] (by rfl) rfl rfl (by simp only [List.map_toArray, List.map_cons, List.map_nil]; rfl) ?_
  with_reducible refine (h4_).mono ?_
  rintro e_ wY ⟨rfl, hb_⟩
  refine ⟨_, rfl, ?_⟩
  have QY := Aside0.mk (QX.out.below hb_)
  have BY := Aside0.mk (below_step BX.out hb_)
  clear hb_
  refine hK.out _ _ ⟨(Box.cell QY.out 0 _ rfl), (Box.cell QY.out 1 _ rfl)⟩ (fun hHeld => ?_)
  clear hK K
  refine norm_ (a' := ?_) ?_ ?_
  rotate_left
  · show Act.put _ (some 12) _ = _
    simp only [Act.put, List.setIfInBounds_toArray, List.set_cons_zero, List.set_cons_succ, i64_w, i32_w]
    rfl
  refine one_ (i := 7) (N := some 15) #[true, true, true, true, true, true, true, true, false, false] rfl rfl (by kernel_rfl) (by decide) (fun K hK => ?_)
  have h7_ := counted2_any e.f0 wY (by have := HE.out.realm; omega)
  rw [← HS2.out] at h7_
  refine goes_ Try.func22 (by kernel_rfl) rfl #[.string e.f0, .int .i64 2] (by rfl) rfl rfl (by simp only [List.map_toArray, List.map_cons, List.map_nil]; rfl) ?_
  with_reducible refine (h7_).mono ?_
  rintro e_ wZ ⟨rfl, hb_⟩
  refine ⟨_, rfl, ?_⟩
  have QZ := Aside0.mk (QY.out.below hb_)
  have BZ := Aside0.mk (below_step BY.out hb_)
  clear hb_
  refine hK.out _ _ ⟨(Box.cell QZ.out 0 _ rfl), (Box.cell QZ.out 1 _ rfl)⟩ (fun hHeld => ?_)
  clear hK K
  refine norm_ (a' := ?_) ?_ ?_
  rotate_left
  · show Act.put _ (some 15) _ = _
    simp only [Act.put, List.setIfInBounds_toArray, List.set_cons_zero, List.set_cons_succ, i64_w, i32_w]
    rfl
  refine pure_ (i := 8) (N := some 16) (v := ?_) (a' := ?_) #[true, true, true, true, true, true, true, true, true, false] rfl rfl (by kernel_rfl) (fun _ _ _ h => h) (Or.inl ⟨by rfl, ?_⟩) ?_ ?_
  rotate_left
  · intro w'
    go_simp
    with_reducible rfl
  rotate_left
  · simp only [Act.put, List.setIfInBounds_toArray, List.set_cons_zero, List.set_cons_succ, i64_w, i32_w]
    rfl
  refine pure_ (i := 9) (N := some 5) (v := ?_) (a' := ?_) #[true, true, true, true, true, true, true, true, true, true] rfl rfl (by kernel_rfl) (fun _ _ _ h => h) (Or.inl ⟨by rfl, ?_⟩) ?_ ?_
  rotate_left
  · intro w'
    go_simp
    with_reducible rfl
  rotate_left
  · simp only [Act.put, List.setIfInBounds_toArray, List.set_cons_zero, List.set_cons_succ, i64_w, i32_w]
    rfl
  refine done_ (by kernel_rfl) ?_
  
  have hc1 := QZ.out.cell 1 (.slice A1 e.f1.length c1) rfl
  have H0 := Aside0.mk (show (s1 ++ s2).size ≤ 204 from by rw [ByteArray.size_append]; omega)
  obtain ⟨o0, ho0⟩ : ∃ z, z = s1 ++ s2 := ⟨_, rfl⟩
  have h12_ := H12.out
  rw [← ho0] at h12_ ⊢
  have O0 := Aside0.mk h12_
  have hz0 := H0.out
  rw [← ho0] at hz0
  have HZ0 := Aside0.mk hz0
  clear h12_ ho0 hz0 z1 z2 zz1 H12 HS1 HS2 hHeld h4_ h7_ QX BX QY BY
  go_wp2_with fail
  obtain ⟨pre, hpre⟩ : ∃ z, z = e16 e.f1.length ++ cnt16 e.f0 := ⟨_, rfl⟩
  have HPRE := Aside0.mk hpre
  have o0_ := O0.out
  rw [← hpre] at o0_
  have O1 := Aside0.mk o0_
  clear o0_ O0 hpre hc1
  go_loopw [5, 20] (fun v5 i wr => ∃ (j : Nat) (oj : ByteArray), j ≤ e.f1.length ∧ v5 = .string oj ∧ i = .int .i64 j ∧ Aside0 (oj = strOfNums (pre ++ (e.f1.take j).flatMap cnt16)) ∧ Aside0 (oj.size ≤ 204 + 202 * j) ∧ Aside0 (Box wr gb 25 #[.string e.f0, .slice A1 e.f1.length c1, .int .i32 e.f2, .int .i64 e.f3, .int .u8 e.f4, .int .u32 e.f5, .int .i32 e.f6, .string e.f7]) ∧ Aside0 (Below w.heap.size w wr)) (fun _ i _ => e.f1.length - (intOf i).toNat)
  case atStart => exact ⟨0, o0, Nat.zero_le _, rfl, rfl, ⟨by rw [O1.out]; simp⟩, HZ0, QZ, BZ⟩
  clear O1 HZ0 QZ BZ
  obtain ⟨j, oj, hj, rfl, rfl, OJ, ZJ, QJ, BJ⟩ := hrel
  by_cases hlt : j < e.f1.length
  case pos =>
    have hlt' : (j : Int) < (e.f1.length : Int) := by omega
    have hj0 : (0 : Int) ≤ (j : Int) := by omega
    obtain ⟨ad, rfl, hcell⟩ := Kd.at_string (Kd.C_below HN.out BJ.out) (j : Int) hj0 hlt'
    rw [Int.toNat_natCast] at hcell
    have hrd : rdOf ByteArray.empty e.f1 (j : Int) = e.f1[j] := by unfold rdOf; rw [Int.toNat_natCast, List.getD_eq_getElem?_getD, List.getElem?_eq_getElem hlt]; rfl
    rw [hrd] at hcell
    obtain ⟨nm, hnm⟩ : ∃ z, z = e.f1[j] := ⟨_, rfl⟩
    rw [← hnm] at hcell
    have HNM := Aside0.mk (HE.out.each nm (by rw [hnm]; exact List.getElem_mem hlt))
    have HTK := Aside0.mk (show e.f1.take (j + 1) = e.f1.take j ++ [nm] from by rw [List.take_add_one, List.getElem?_eq_getElem hlt, hnm]; rfl)
    have HLT := Aside0.mk hlt
    clear hnm hrd hlt
    go_wp2_with fail
    obtain ⟨s3, hs3⟩ : ∃ s, s = strOfNums (cnt16 nm) := ⟨_, rfl⟩
    have h3 := counted2_any nm wr (by have := HNM.out; omega)
    rw [← hs3] at h3
    have z3 : s3.size ≤ 202 := by have := HNM.out; rw [hs3, str_size, cnt16_len]; omega
    have zz3 : oj.size + s3.size ≤ 9223372036854775807 := by have := ZJ.out; have := HLT.out; omega
    have HS3 := Aside0.mk hs3
    clear hs3 hcell
    refine h3.mono ?_
    clear h3
    rintro x w3 ⟨rfl, hb⟩
    have Q3 := Aside0.mk (QJ.out.below hb)
    have B3 := Aside0.mk (below_step BJ.out hb)
    clear hb QJ BJ
    go_wp2_with fail
    go_roundw
    case rel =>
      refine ⟨j + 1, oj ++ s3, HLT.out, rfl, by go_num, ⟨?_⟩, ⟨by rw [ByteArray.size_append]; have := ZJ.out; omega⟩, Q3, B3⟩
      rw [OJ.out, HS3.out, str_app, HTK.out, List.flatMap_append, List.append_assoc]; simp
    case measure => have := HLT.out; simp [intOf]; omega
  obtain rfl : j = e.f1.length := by omega
  have hnl : ¬ ((e.f1.length : Int) < (e.f1.length : Int)) := by omega
  have oj_ := OJ.out
  rw [List.take_length] at oj_
  have OZ := Aside0.mk oj_
  have hzj : oj.size ≤ 2000 := by have := ZJ.out; omega
  clear oj_ OJ hj hlt ZJ
  go_upto_region 7 with fail
  obtain ⟨wx, hwx⟩ : ∃ z, z = wr.drew := ⟨_, rfl⟩
  have hbd : Below wr.heap.size wr wx := hwx ▸ below_drew (Below.refl _ _)
  have QX := Aside0.mk (QJ.out.below hbd)
  have BX := Aside0.mk (below_step BJ.out hbd)
  clear hbd QJ BJ
  obtain ⟨a1, ha1⟩ : ∃ s, s = strOfNums (e32 (IntKind.u32.wrap e.f2)) := ⟨_, rfl⟩
  obtain ⟨a2, ha2⟩ : ∃ s, s = strOfNums (e32 e.f3) := ⟨_, rfl⟩
  obtain ⟨a3, ha3⟩ : ∃ s, s = strOfNums [e.f4] := ⟨_, rfl⟩
  obtain ⟨a4, ha4⟩ : ∃ s, s = strOfNums (e16 (IntKind.u16.wrap e.f6)) := ⟨_, rfl⟩
  obtain ⟨a5, ha5⟩ : ∃ s, s = strOfNums (cnt16 e.f7) := ⟨_, rfl⟩
  have z1 : a1.size ≤ 4 := by rw [ha1, str_size]; exact Nat.le_refl _
  have z2 : a2.size ≤ 4 := by rw [ha2, str_size]; exact Nat.le_refl _
  have z3 : a3.size ≤ 1 := by rw [ha3, str_size]; exact Nat.le_refl _
  have z4 : a4.size ≤ 2 := by rw [ha4, str_size]; exact Nat.le_refl _
  have z5 : a5.size ≤ 202 := by have := HE.out.key; rw [ha5, str_size, cnt16_len]; omega
  have y1 : (9223372036854775807 < a1.size + a2.size) = False := by simp; omega
  have y2 : (9223372036854775807 < a1.size + a2.size + a3.size) = False := by simp; omega
  have y3 : (9223372036854775807 < a1.size + a2.size + a3.size + a4.size) = False := by simp; omega
  have y4 : (9223372036854775807 < a1.size + a2.size + a3.size + a4.size + a5.size) = False := by simp; omega
  have y5 : (9223372036854775807 < oj.size + (a1.size + a2.size + a3.size + a4.size + a5.size)) = False := by simp; omega
  have HA1 := Aside0.mk ha1
  have HA2 := Aside0.mk ha2
  have HA3 := Aside0.mk ha3
  have HA4 := Aside0.mk ha4
  have HA5 := Aside0.mk ha5
  have hzt : (oj ++ (a1 ++ a2 ++ a3 ++ a4 ++ a5)).size ≤ 3000 := by simp only [ByteArray.size_append]; omega
  have HZT := Aside0.mk hzt
  clear ha1 ha2 ha3 ha4 ha5 z1 z2 z3 z4 z5 hzt
  refine start_ (n := 28) (S := fun w' => w'.cell? ⟨gb, 2, none⟩ = some (.int .i32 e.f2) ∧ w'.cell? ⟨gb, 3, none⟩ = some (.int .i64 e.f3) ∧ w'.cell? ⟨gb, 4, none⟩ = some (.int .u8 e.f4) ∧ w'.cell? ⟨gb, 6, none⟩ = some (.int .i32 e.f6) ∧ w'.cell? ⟨gb, 7, none⟩ = some (.string e.f7)) (ds := []) #[false, false, false, false, false, false, false, false, false, false, false, false, false, false, false, false, false, false, false, false, false, false, false, false, false, false, false, false] (by kernel_rfl) rfl rfl ⟨(hwx ▸ (show _ from (Box.cell QX.out 2 _ rfl))), (hwx ▸ (show _ from (Box.cell QX.out 3 _ rfl))), (hwx ▸ (show _ from (Box.cell QX.out 4 _ rfl))), (hwx ▸ (show _ from (Box.cell QX.out 6 _ rfl))), (hwx ▸ (show _ from (Box.cell QX.out 7 _ rfl)))⟩ (fun hHeld => ?_)
  rw [← hwx] at hHeld ⊢
  clear hwx
  refine pure_ (i := 0) (N := some 29) (v := ?_) (a' := ?_) #[true, false, false, false, false, false, false, false, false, false, false, false, false, false, false, false, false, false, false, false, false, false, false, false, false, false, false, false] rfl rfl (by kernel_rfl) (fun _ _ _ h => h) (Or.inl ⟨by rfl, ?_⟩) ?_ ?_
  rotate_left
  · intro w'
    go_simp
    with_reducible rfl
  rotate_left
  · simp only [Act.put, List.setIfInBounds_toArray, List.set_cons_zero, List.set_cons_succ, i64_w, i32_w]
    rfl
  refine pure_ (i := 1) (N := some 30) (v := ?_) (a' := ?_) #[true, true, false, false, false, false, false, false, false, false, false, false, false, false, false, false, false, false, false, false, false, false, false, false, false, false, false, false] rfl rfl (by kernel_rfl) (fun _ _ _ h => h) (Or.inl ⟨by rfl, ?_⟩) ?_ ?_
  rotate_left
  · intro w'
    go_simp
    with_reducible rfl
  rotate_left
  · simp only [Act.put, List.setIfInBounds_toArray, List.set_cons_zero, List.set_cons_succ, i64_w, i32_w]
    rfl
  refine pure_ (i := 6) (N := some 35) (v := ?_) (a' := ?_) #[true, true, false, false, false, false, true, false, false, false, false, false, false, false, false, false, false, false, false, false, false, false, false, false, false, false, false, false] rfl rfl (by kernel_rfl) (fun _ _ _ h => h) (Or.inl ⟨by rfl, ?_⟩) ?_ ?_
  rotate_left
  · intro w'
    go_simp
    with_reducible rfl
  rotate_left
  · simp only [Act.put, List.setIfInBounds_toArray, List.set_cons_zero, List.set_cons_succ, i64_w, i32_w]
    rfl
  refine pure_ (i := 11) (N := some 40) (v := ?_) (a' := ?_) #[true, true, false, false, false, false, true, false, false, false, false, true, false, false, false, false, false, false, false, false, false, false, false, false, false, false, false, false] rfl rfl (by kernel_rfl) (fun _ _ _ h => h) (Or.inl ⟨by rfl, ?_⟩) ?_ ?_
  rotate_left
  · intro w'
    go_simp
    with_reducible rfl
  rotate_left
  · simp only [Act.put, List.setIfInBounds_toArray, List.set_cons_zero, List.set_cons_succ, i64_w, i32_w]
    rfl
  refine pure_ (i := 16) (N := some 45) (v := ?_) (a' := ?_) #[true, true, false, false, false, false, true, false, false, false, false, true, false, false, false, false, true, false, false, false, false, false, false, false, false, false, false, false] rfl rfl (by kernel_rfl) (fun _ _ _ h => h) (Or.inl ⟨by rfl, ?_⟩) ?_ ?_
  rotate_left
  · intro w'
    go_simp
    with_reducible rfl
  rotate_left
  · simp only [Act.put, List.setIfInBounds_toArray, List.set_cons_zero, List.set_cons_succ, i64_w, i32_w]
    rfl
  refine pure_ (i := 22) (N := some 51) (v := ?_) (a' := ?_) #[true, true, false, false, false, false, true, false, false, false, false, true, false, false, false, false, true, false, false, false, false, false, true, false, false, false, false, false] rfl rfl (by kernel_rfl) (fun _ _ _ h => h) (Or.inl ⟨by rfl, ?_⟩) ?_ ?_
  rotate_left
  · intro w'
    go_simp
    with_reducible rfl
  rotate_left
  · simp only [Act.put, List.setIfInBounds_toArray, List.set_cons_zero, List.set_cons_succ, i64_w, i32_w]
    rfl
  refine take_ (i := 2) (N := some 31) (v := ?_) (a' := ?_) #[true, true, true, false, false, false, true, false, false, false, false, true, false, false, false, false, true, false, false, false, false, false, true, false, false, false, false, false] rfl rfl (by kernel_rfl) (fun _ _ _ h => h) (Or.inl ⟨by rfl, ?_⟩) hHeld ?_ ?_
  rotate_left
  · rintro w' ⟨s0, s1, s2, s3, s4⟩
    go_simp
    with_reducible rfl
  rotate_left
  · simp only [Act.put, List.setIfInBounds_toArray, List.set_cons_zero, List.set_cons_succ, i64_w, i32_w]
    rfl
  refine pure_ (i := 3) (N := some 32) (v := ?_) (a' := ?_) #[true, true, true, true, false, false, true, false, false, false, false, true, false, false, false, false, true, false, false, false, false, false, true, false, false, false, false, false] rfl rfl (by kernel_rfl) (fun _ _ _ h => h) (Or.inl ⟨by rfl, ?_⟩) ?_ ?_
  rotate_left
  · intro w'
    go_simp
    with_reducible rfl
  rotate_left
  · simp only [Act.put, List.setIfInBounds_toArray, List.set_cons_zero, List.set_cons_succ, i64_w, i32_w]
    rfl
  refine pure_ (i := 4) (N := some 33) (v := ?_) (a' := ?_) #[true, true, true, true, true, false, true, false, false, false, false, true, false, false, false, false, true, false, false, false, false, false, true, false, false, false, false, false] rfl rfl (by kernel_rfl) (fun _ _ _ h => h) (Or.inl ⟨by rfl, ?_⟩) ?_ ?_
  rotate_left
  · intro w'
    go_simp
    with_reducible rfl
  rotate_left
  · simp only [Act.put, List.setIfInBounds_toArray, List.set_cons_zero, List.set_cons_succ, i64_w, i32_w]
    rfl
  refine take_ (i := 7) (N := some 36) (v := ?_) (a' := ?_) #[true, true, true, true, true, false, true, true, false, false, false, true, false, false, false, false, true, false, false, false, false, false, true, false, false, false, false, false] rfl rfl (by kernel_rfl) (fun _ _ _ h => h) (Or.inl ⟨by rfl, ?_⟩) hHeld ?_ ?_
  rotate_left
  · rintro w' ⟨s0, s1, s2, s3, s4⟩
    go_simp
    with_reducible rfl
  rotate_left
  · simp only [Act.put, List.setIfInBounds_toArray, List.set_cons_zero, List.set_cons_succ, i64_w, i32_w]
    rfl
  refine pure_ (i := 8) (N := some 37) (v := ?_) (a' := ?_) #[true, true, true, true, true, false, true, true, true, false, false, true, false, false, false, false, true, false, false, false, false, false, true, false, false, false, false, false] rfl rfl (by kernel_rfl) (fun _ _ _ h => h) (Or.inl ⟨by rfl, ?_⟩) ?_ ?_
  rotate_left
  · intro w'
    go_simp
    with_reducible rfl
  rotate_left
  · simp only [Act.put, List.setIfInBounds_toArray, List.set_cons_zero, List.set_cons_succ, i64_w, i32_w]
    rfl
  refine take_ (i := 12) (N := some 41) (v := ?_) (a' := ?_) #[true, true, true, true, true, false, true, true, true, false, false, true, true, false, false, false, true, false, false, false, false, false, true, false, false, false, false, false] rfl rfl (by kernel_rfl) (fun _ _ _ h => h) (Or.inl ⟨by rfl, ?_⟩) hHeld ?_ ?_
  rotate_left
  · rintro w' ⟨s0, s1, s2, s3, s4⟩
    go_simp
    with_reducible rfl
  rotate_left
  · simp only [Act.put, List.setIfInBounds_toArray, List.set_cons_zero, List.set_cons_succ, i64_w, i32_w]
    rfl
  refine pure_ (i := 13) (N := some 42) (v := ?_) (a' := ?_) #[true, true, true, true, true, false, true, true, true, false, false, true, true, true, false, false, true, false, false, false, false, false, true, false, false, false, false, false] rfl rfl (by kernel_rfl) (fun _ _ _ h => h) (Or.inl ⟨by rfl, ?_⟩) ?_ ?_
  rotate_left
  · intro w'
    go_simp
    with_reducible rfl
  rotate_left
  · simp only [Act.put, List.setIfInBounds_toArray, List.set_cons_zero, List.set_cons_succ, i64_w, i32_w]
    rfl
  refine take_ (i := 17) (N := some 46) (v := ?_) (a' := ?_) #[true, true, true, true, true, false, true, true, true, false, false, true, true, true, false, false, true, true, false, false, false, false, true, false, false, false, false, false] rfl rfl (by kernel_rfl) (fun _ _ _ h => h) (Or.inl ⟨by rfl, ?_⟩) hHeld ?_ ?_
  rotate_left
  · rintro w' ⟨s0, s1, s2, s3, s4⟩
    go_simp
    with_reducible rfl
  rotate_left
  · simp only [Act.put, List.setIfInBounds_toArray, List.set_cons_zero, List.set_cons_succ, i64_w, i32_w]
    rfl
  refine pure_ (i := 18) (N := some 47) (v := ?_) (a' := ?_) #[true, true, true, true, true, false, true, true, true, false, false, true, true, true, false, false, true, true, true, false, false, false, true, false, false, false, false, false] rfl rfl (by kernel_rfl) (fun _ _ _ h => h) (Or.inl ⟨by rfl, ?_⟩) ?_ ?_
  rotate_left
  · intro w'
    go_simp
    with_reducible rfl
  rotate_left
  · simp only [Act.put, List.setIfInBounds_toArray, List.set_cons_zero, List.set_cons_succ, i64_w, i32_w]
    rfl
  refine pure_ (i := 19) (N := some 48) (v := ?_) (a' := ?_) #[true, true, true, true, true, false, true, true, true, false, false, true, true, true, false, false, true, true, true, true, false, false, true, false, false, false, false, false] rfl rfl (by kernel_rfl) (fun _ _ _ h => h) (Or.inl ⟨by rfl, ?_⟩) ?_ ?_
  rotate_left
  · intro w'
    go_simp
    with_reducible rfl
  rotate_left
  · simp only [Act.put, List.setIfInBounds_toArray, List.set_cons_zero, List.set_cons_succ, i64_w, i32_w]
    rfl
  refine take_ (i := 23) (N := some 52) (v := ?_) (a' := ?_) #[true, true, true, true, true, false, true, true, true, false, false, true, true, true, false, false, true, true, true, true, false, false, true, true, false, false, false, false] rfl rfl (by kernel_rfl) (fun _ _ _ h => h) (Or.inl ⟨by rfl, ?_⟩) hHeld ?_ ?_
  rotate_left
  · rintro w' ⟨s0, s1, s2, s3, s4⟩
    go_simp
    with_reducible rfl
  rotate_left
  · simp only [Act.put, List.setIfInBounds_toArray, List.set_cons_zero, List.set_cons_succ, i64_w, i32_w]
    rfl
  refine one_ (i := 5) (N := some 34) #[true, true, true, true, true, true, true, true, true, false, false, true, true, true, false, false, true, true, true, true, false, false, true, true, false, false, false, false] rfl rfl (by kernel_rfl) (by decide) (fun K hK => ?_)
  have h5_ := big4_any (IntKind.u32.wrap e.f2) wx (u32_range _).1
  rw [← HA1.out, ← u64_nat (x := IntKind.u32.wrap e.f2) (u32_range _).1 (by have := (u32_range e.f2).2; omega)] at h5_
  refine goes_ Try.func20 (by kernel_rfl) rfl #[.int .u64 (IntKind.u64.wrap (IntKind.u32.wrap e.f2)), .int .i64 4] (by rfl) rfl rfl (by simp only [List.map_toArray, List.map_cons, List.map_nil]; rfl) ?_
  with_reducible refine (h5_).mono ?_
  rintro e_ w1 ⟨rfl, hb_⟩
  refine ⟨_, rfl, ?_⟩
  have Q1 := Aside0.mk (QX.out.below hb_)
  have B1 := Aside0.mk (below_step BX.out hb_)
  clear hb_
  refine hK.out _ _ ⟨(Box.cell Q1.out 2 _ rfl), (Box.cell Q1.out 3 _ rfl), (Box.cell Q1.out 4 _ rfl), (Box.cell Q1.out 6 _ rfl), (Box.cell Q1.out 7 _ rfl)⟩ (fun hHeld => ?_)
  clear hK K
  refine norm_ (a' := ?_) ?_ ?_
  rotate_left
  · show Act.put _ (some 34) _ = _
    simp only [Act.put, List.setIfInBounds_toArray, List.set_cons_zero, List.set_cons_succ, i64_w, i32_w]
    rfl
  refine one_ (i := 9) (N := some 38) #[true, true, true, true, true, true, true, true, true, true, false, true, true, true, false, false, true, true, true, true, false, false, true, true, false, false, false, false] rfl rfl (by kernel_rfl) (by decide) (fun K hK => ?_)
  have h9_ := big4_any e.f3 w1 HE.out.time.1
  rw [← HA2.out, show Value.int .u64 e.f3 = .int .u64 (IntKind.u64.wrap e.f3) from by rw [u64_nat HE.out.time.1 (by have := HE.out.time.2; omega)]] at h9_
  refine goes_ Try.func20 (by kernel_rfl) rfl #[.int .u64 (IntKind.u64.wrap e.f3), .int .i64 4] (by rfl) rfl rfl (by simp only [List.map_toArray, List.map_cons, List.map_nil]; rfl) ?_
  with_reducible refine (h9_).mono ?_
  rintro e_ w2 ⟨rfl, hb_⟩
  refine ⟨_, rfl, ?_⟩
  have Q2 := Aside0.mk (Q1.out.below hb_)
  have B2 := Aside0.mk (below_step B1.out hb_)
  clear hb_
  refine hK.out _ _ ⟨(Box.cell Q2.out 2 _ rfl), (Box.cell Q2.out 3 _ rfl), (Box.cell Q2.out 4 _ rfl), (Box.cell Q2.out 6 _ rfl), (Box.cell Q2.out 7 _ rfl)⟩ (fun hHeld => ?_)
  clear hK K
  refine norm_ (a' := ?_) ?_ ?_
  rotate_left
  · show Act.put _ (some 38) _ = _
    simp only [Act.put, List.setIfInBounds_toArray, List.set_cons_zero, List.set_cons_succ, i64_w, i32_w]
    rfl
  refine pure_ (i := 10) (N := some 39) (v := ?_) (a' := ?_) #[true, true, true, true, true, true, true, true, true, true, true, true, true, true, false, false, true, true, true, true, false, false, true, true, false, false, false, false] rfl rfl (by kernel_rfl) (fun _ _ _ h => h) (Or.inl ⟨by rfl, ?_⟩) ?_ ?_
  rotate_left
  · intro w'
    go_simp
    with_reducible rfl
  rotate_left
  · simp only [Act.put, List.setIfInBounds_toArray, List.set_cons_zero, List.set_cons_succ, i64_w, i32_w]
    rfl
  refine one_ (i := 14) (N := some 43) #[true, true, true, true, true, true, true, true, true, true, true, true, true, true, true, false, true, true, true, true, false, false, true, true, false, false, false, false] rfl rfl (by kernel_rfl) (by decide) (fun K hK => ?_)
  have h14_ := big1_any e.f4 w2 HE.out.short.1 HE.out.short.2
  rw [← HA3.out, show Value.int .u64 e.f4 = .int .u64 (IntKind.u64.wrap e.f4) from by rw [u64_nat HE.out.short.1 (by have := HE.out.short.2; omega)]] at h14_
  refine goes_ Try.func20 (by kernel_rfl) rfl #[.int .u64 (IntKind.u64.wrap e.f4), .int .i64 1] (by rfl) rfl rfl (by simp only [List.map_toArray, List.map_cons, List.map_nil]; rfl) ?_
  with_reducible refine (h14_).mono ?_
  rintro e_ w3 ⟨rfl, hb_⟩
  refine ⟨_, rfl, ?_⟩
  have Q3 := Aside0.mk (Q2.out.below hb_)
  have B3 := Aside0.mk (below_step B2.out hb_)
  clear hb_
  refine hK.out _ _ ⟨(Box.cell Q3.out 2 _ rfl), (Box.cell Q3.out 3 _ rfl), (Box.cell Q3.out 4 _ rfl), (Box.cell Q3.out 6 _ rfl), (Box.cell Q3.out 7 _ rfl)⟩ (fun hHeld => ?_)
  clear hK K
  refine norm_ (a' := ?_) ?_ ?_
  rotate_left
  · show Act.put _ (some 43) _ = _
    simp only [Act.put, List.setIfInBounds_toArray, List.set_cons_zero, List.set_cons_succ, i64_w, i32_w]
    rfl
  refine pure_ (i := 15) (N := some 44) (v := ?_) (a' := ?_) #[true, true, true, true, true, true, true, true, true, true, true, true, true, true, true, true, true, true, true, true, false, false, true, true, false, false, false, false] rfl rfl (by kernel_rfl) (fun _ _ _ h => h) (Or.inl ⟨by rfl, ?_⟩) ?_ ?_
  rotate_left
  · intro w'
    go_simp
    with_reducible rfl
  rotate_left
  · simp only [Act.put, List.setIfInBounds_toArray, List.set_cons_zero, List.set_cons_succ, i64_w, i32_w]
    rfl
  refine one_ (i := 20) (N := some 49) #[true, true, true, true, true, true, true, true, true, true, true, true, true, true, true, true, true, true, true, true, true, false, true, true, false, false, false, false] rfl rfl (by kernel_rfl) (by decide) (fun K hK => ?_)
  have h20_ := big2_any (IntKind.u16.wrap e.f6) w3 (u16_range _).1
  rw [← HA4.out, show Value.int .u64 (IntKind.u16.wrap e.f6) = .int .u64 (IntKind.u64.wrap (IntKind.u16.wrap e.f6)) from by rw [u64_nat (u16_range _).1 (by have := (u16_range e.f6).2; omega)]] at h20_
  refine goes_ Try.func20 (by kernel_rfl) rfl #[.int .u64 (IntKind.u64.wrap (IntKind.u16.wrap e.f6)), .int .i64 2] (by rfl) rfl rfl (by simp only [List.map_toArray, List.map_cons, List.map_nil]; rfl) ?_
  with_reducible refine (h20_).mono ?_
  rintro e_ w4 ⟨rfl, hb_⟩
  refine ⟨_, rfl, ?_⟩
  have Q4 := Aside0.mk (Q3.out.below hb_)
  have B4 := Aside0.mk (below_step B3.out hb_)
  clear hb_
  refine hK.out _ _ ⟨(Box.cell Q4.out 2 _ rfl), (Box.cell Q4.out 3 _ rfl), (Box.cell Q4.out 4 _ rfl), (Box.cell Q4.out 6 _ rfl), (Box.cell Q4.out 7 _ rfl)⟩ (fun hHeld => ?_)
  clear hK K
  refine norm_ (a' := ?_) ?_ ?_
  rotate_left
  · show Act.put _ (some 49) _ = _
    simp only [Act.put, List.setIfInBounds_toArray, List.set_cons_zero, List.set_cons_succ, i64_w, i32_w]
    rfl
  refine pure_ (i := 21) (N := some 50) (v := ?_) (a' := ?_) #[true, true, true, true, true, true, true, true, true, true, true, true, true, true, true, true, true, true, true, true, true, true, true, true, false, false, false, false] rfl rfl (by kernel_rfl) (fun _ _ _ h => h) (Or.inl ⟨by rfl, ?_⟩) ?_ ?_
  rotate_left
  · intro w'
    go_simp
    with_reducible rfl
  rotate_left
  · simp only [Act.put, List.setIfInBounds_toArray, List.set_cons_zero, List.set_cons_succ, i64_w, i32_w]
    rfl
  refine one_ (i := 24) (N := some 53) #[true, true, true, true, true, true, true, true, true, true, true, true, true, true, true, true, true, true, true, true, true, true, true, true, true, false, false, false] rfl rfl (by kernel_rfl) (by decide) (fun K hK => ?_)
  have h24_ := counted2_any e.f7 w4 (by have := HE.out.key; omega)
  rw [← HA5.out] at h24_
  refine goes_ Try.func22 (by kernel_rfl) rfl #[.string e.f7, .int .i64 2] (by rfl) rfl rfl (by simp only [List.map_toArray, List.map_cons, List.map_nil]; rfl) ?_
  with_reducible refine (h24_).mono ?_
  rintro e_ w5 ⟨rfl, hb_⟩
  refine ⟨_, rfl, ?_⟩
  have Q5 := Aside0.mk (Q4.out.below hb_)
  have B5 := Aside0.mk (below_step B4.out hb_)
  clear hb_
  refine hK.out _ _ ⟨(Box.cell Q5.out 2 _ rfl), (Box.cell Q5.out 3 _ rfl), (Box.cell Q5.out 4 _ rfl), (Box.cell Q5.out 6 _ rfl), (Box.cell Q5.out 7 _ rfl)⟩ (fun hHeld => ?_)
  clear hK K
  refine norm_ (a' := ?_) ?_ ?_
  rotate_left
  · show Act.put _ (some 53) _ = _
    simp only [Act.put, List.setIfInBounds_toArray, List.set_cons_zero, List.set_cons_succ, i64_w, i32_w]
    rfl
  refine pure_ (i := 25) (N := some 54) (v := ?_) (a' := ?_) #[true, true, true, true, true, true, true, true, true, true, true, true, true, true, true, true, true, true, true, true, true, true, true, true, true, true, false, false] rfl rfl (by kernel_rfl) (fun _ _ _ h => h) (Or.inl ⟨by rfl, ?_⟩) ?_ ?_
  rotate_left
  · intro w'
    go_simp
    with_reducible rfl
  rotate_left
  · simp only [Act.put, List.setIfInBounds_toArray, List.set_cons_zero, List.set_cons_succ, i64_w, i32_w]
    rfl
  refine pure_ (i := 26) (N := some 55) (v := ?_) (a' := ?_) #[true, true, true, true, true, true, true, true, true, true, true, true, true, true, true, true, true, true, true, true, true, true, true, true, true, true, true, false] rfl rfl (by kernel_rfl) (fun _ _ _ h => h) (Or.inl ⟨by rfl, ?_⟩) ?_ ?_
  rotate_left
  · intro w'
    go_simp
    with_reducible rfl
  rotate_left
  · simp only [Act.put, List.setIfInBounds_toArray, List.set_cons_zero, List.set_cons_succ, i64_w, i32_w]
    rfl
  refine pure_ (i := 27) (N := some 5) (v := ?_) (a' := ?_) #[true, true, true, true, true, true, true, true, true, true, true, true, true, true, true, true, true, true, true, true, true, true, true, true, true, true, true, true] rfl rfl (by kernel_rfl) (fun _ _ _ h => h) (Or.inl ⟨by rfl, ?_⟩) ?_ ?_
  rotate_left
  · intro w'
    go_simp
    with_reducible rfl
  rotate_left
  · simp only [Act.put, List.setIfInBounds_toArray, List.set_cons_zero, List.set_cons_succ, i64_w, i32_w]
    rfl
  refine done_ (by kernel_rfl) ?_
  
  have HOT := Aside0.mk (show oj ++ (a1 ++ a2 ++ a3 ++ a4 ++ a5) = strOfNums (entB e false) from by
    rw [OZ.out, HA1.out, HA2.out, HA3.out, HA4.out, HA5.out, str_app, str_app, str_app, str_app, str_app, HPRE.out]
    simp [entB, prinB])
  have Q9 := Q5
  have B9 := B5
  have hq5 := Q9.out.cell 5 (.int .u32 e.f5) rfl
  clear hHeld h5_ h9_ h14_ h20_ h24_ Q5 B5 Q1 B1 Q2 B2 Q3 B3 Q4 B4 QX BX HA1 HA2 HA3 HA4 HA5 OZ HPRE y1 y2 y3 y4 y5 hzj
  generalize oj ++ (a1 ++ a2 ++ a3 ++ a4 ++ a5) = ot at *
  cases wh with
  | false =>
    go_wp2
    go_ret
    exact ⟨by rw [HOT.out]; rfl, B9.out⟩
  | true =>
    have hz6 := HZT.out
    obtain ⟨a6, ha6⟩ : ∃ s, s = strOfNums (e32 e.f5) := ⟨_, rfl⟩
    have z6 : a6.size ≤ 4 := by rw [ha6, str_size]; exact Nat.le_refl _
    have zz6 : ot.size + a6.size ≤ 9223372036854775807 := by omega
    have hw5 : IntKind.u64.wrap e.f5 = e.f5 := u64_nat (by have := HE.out.ver; omega) (by have := HE.out.ver; omega)
    have HA6 := Aside0.mk ha6
    clear ha6
    go_wp2_with fail
    have h6 := big4_any e.f5 w5 (by have := HE.out.ver; omega)
    rw [← HA6.out] at h6
    refine h6.mono ?_
    clear h6
    rintro x w6 ⟨rfl, hb⟩
    have B6 := Aside0.mk (below_step B9.out hb)
    clear hb
    go_wp2
    go_ret
    refine ⟨?_, B6.out⟩
    rw [HOT.out, HA6.out, str_app]
    simp [entB]
end Go.Proofs.Ytcbbipdiahmelaa.B

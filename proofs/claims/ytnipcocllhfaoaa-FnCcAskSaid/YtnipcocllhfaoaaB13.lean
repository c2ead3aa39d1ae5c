/- CacheRead tells what it has read; under what each theorem states. Written by a program of this session. -/
import Derived.Test.YtnipcocllhfaoaaB12
namespace Go.Proofs.Ytnipcocllhfaoaa.B
open Go.RowKit Go.Proofs.YtnipcocllhfaoaaW.PrintWords Go.Proofs.YtnipcocllhfaoaaW.PrintLast
open Go.Proofs.Ytnipcocllhfaoaa.A (S37 S47 S101 k101 k47 k47_mkM k101_mkM)
set_option linter.unusedVariables false
set_option linter.unusedSimpArgs false
set_option maxRecDepth 100000
def cacheRead26.T26 : Bool × List (List Nat × List Nat) := (true, [([], []), ([0], [0]), ([1], [1]), ([2], [2]), ([], []), ([4], [4]), ([5], [5]), ([6], [6]), ([7], [7]), ([], []), ([9], [9]), ([10], [10]), ([11], [11]), ([12], [12]), ([8, 13], [8, 13]), ([], []), ([3, 14, 0, 1, 2, 3], [3]), ([14, 16, 0, 1, 2, 3, 4, 5, 6, 7, 8, 9, 10, 11, 12, 13, 14, 16], [14]), ([15, 17, 0, 1, 2, 3, 4, 5, 6, 7, 8, 9, 10, 11, 12, 13, 14, 15, 16, 17], [15]), ([18, 0, 1, 2, 3, 4, 5, 6, 7, 8, 9, 10, 11, 12, 13, 14, 15, 16, 17, 18], [])])
def cacheRead26.B26 : List Nat := [0, 1, 3, 7, 0, 16, 48, 112, 240, 0, 512, 1536, 3584, 7680, 16368, 0, 32767, 98303, 262143, 524287]
theorem cacheRead26.tab26 : rtab .any (opsOf Try.f15 26) = cacheRead26.T26 := by kernel_rfl
theorem cacheRead26.bits26 : waitsOk cacheRead26.T26.2 cacheRead26.B26 = true := by kernel_rfl
set_option maxHeartbeats 40000000 in
theorem cacheRead_reads (s : ByteArray) (w : World) (hs4 : s.size ≤ 4294967296) (ver q : Nat) (a : Prin) (r : List PCred) (hh : readHead (bytesOf s) = some (ver, q)) (hr : rCache ver (bytesOf s) q = some (a, r)) :
    Calls Try.prog 15 #[.string s] w (Told w ver a r) := by
  have hmf : ∀ (fn : Fn) (first cap : Array Value) (w : World), (Instr.makeFunc fn first cap).run Try.prog w = .ok (.func fn first cap) w := fun _ _ _ _ => rfl
  have hs : s.size ≤ 1099511627776 := by omega
  have HS := Aside0.mk hs
  have HS4 := Aside0.mk hs4
  have HH := Aside0.mk (readHead_some hh)
  have HR := Aside0.mk hr
  clear hs hs4 hh hr
  have hu79 := Try.underlying79
  have hu37 := Try.underlying37
  have hu74 := Try.underlying74
  have hu76 := Try.underlying76
  have hu88 := Try.underlying88
  have hu90 := Try.underlying90
  have hu92 := Try.underlying92
  have hu96 := Try.underlying96
  have hu47 := Try.underlying47
  have hu100 := Try.underlying100
  have hu103 := Try.underlying103
  have hu101 := Try.underlying101
  go_enter_defers Try.func15, Try.ntmps15
  go_wp2_with fail
  obtain ⟨w1, hw1, hF, hC⟩ := front_new w
  rw [← hw1]
  have n4 : w.heap.size ≤ w.heap.size + 1 + 1 + 1 + 1 := by omega
  clear hw1
  generalize w.heap.size + 1 + 1 + 1 + 1 = gc at *
  generalize w.heap.size + 1 + 1 + 1 = h3 at *
  generalize w.heap.size + 1 + 1 = h2 at *
  generalize w.heap.size + 1 = h1 at *
  have N4 := Aside0.mk n4
  have HF := Aside0.mk hF
  have HC := Aside0.mk hC
  clear n4 hF hC
  with_reducible refine (exact_any s _ HS.out).mono ?_
  rintro e w2 ⟨gb, rfl, hb, hge, hbl⟩
  have HF2 := Aside0.mk (HF.out.step hbl)
  have HC2 := Aside0.mk (HC.out.below hbl)
  have HB2 := Aside0.mk hb
  clear hb hge hbl HF HC
  go_wp2_with fail
  with_reducible refine (unmarshal_any gb gc ver q (bytesOf s) w2 (okBytes_of HS.out) HB2.out HC2.out HH.out.1 HH.out.2.1 HH.out.2.2.1 HH.out.2.2.2).mono ?_
  rintro e w3 ⟨hg, hm⟩
  rw [HR.out] at hm
  obtain ⟨rfl, y1, y2, A5, A6, c5, c6, gs, hb79, hnm, hpt, hcr⟩ := hm
  have hle : w.heap.size ≤ w2.heap.size := HF2.out.below.size
  have HF3 := Aside0.mk (HF2.out.grown HC2.out N4.out hg)
  obtain ⟨cs, hcs⟩ : ∃ cs : Array Value, cs = #[.int .u8 (ver : Int), y1, y2, .string a.realm, .int .i32 a.kind, .slice A5 a.names.length c5, .slice A6 gs.length c6, .string ⟨#[]⟩] := ⟨_, rfl⟩
  have x6 : w3.cell? ⟨gc, 6, none⟩ = some (.slice A6 gs.length c6) := hb79.cell 6 _ rfl
  rw [← hcs] at hb79
  have HCS := Aside0.mk hcs
  have ST := Aside0.mk (show Still w.heap.size gc w.heap.size h1 h3 cs (.slice A5 a.names.length c5) (.slice A6 gs.length c6) a.names gs r w3 from
    ⟨HF3.out.b0, HF3.out.b1, HF3.out.b3, hb79, Kd.R_lower hnm hle, Kd.R_lower hpt hle, hcr.lower hle⟩)
  have B2 := Aside0.mk HF3.out.b2
  have BL := Aside0.mk HF3.out.below
  have HN := Aside0.mk (show w.heap.size ≤ h1 ∧ w.heap.size ≤ h2 ∧ w.heap.size ≤ h3 ∧ w.heap.size ≤ gc from ⟨HF3.out.n1, HF3.out.n2, HF3.out.n3, N4.out⟩)
  have HGL := Aside0.mk hcr.1
  clear hg hcs hb79 hnm hpt hcr hle HF2 HF3 HC2 HB2
  have hgl : gs.length ≤ 4294967297 := by have := (rCache_small HR.out).1; have := HGL.out; have := bytesOf_length s; have := HS4.out; omega
  have HGL4 := Aside0.mk hgl
  go_wp2_with fail
  go_loopw [29] (fun i wr => ∃ (k : Nat) (Ac : Option Addr) (cc : Nat), k ≤ gs.length ∧ i = .int .i64 k ∧ Aside0 (Still w.heap.size gc w.heap.size h1 h3 cs (.slice A5 a.names.length c5) (.slice A6 gs.length c6) a.names gs r wr) ∧ Aside0 (Box wr h2 38 #[.slice Ac k cc]) ∧
      Aside0 (k47.R 47 wr w.heap.size (fun _ => True) (.slice Ac k cc) ((r.take k).map toCred)) ∧ Aside0 (Below w.heap.size w wr))
    (fun i _ => gs.length - (intOf i).toNat)
  case atStart => exact ⟨0, none, 0, Nat.zero_le _, rfl, ST, B2, ⟨Kd.R_nil _ _ _ _ _⟩, BL⟩
  clear ST B2 BL x6
  obtain ⟨k, Ac, cc, hk, rfl, ST, B2, RC, BL⟩ := hrel
  by_cases hlt : k < gs.length
  case neg =>
    have hke : k = gs.length := by omega
    have hnl : ¬ ((k : Int) < (gs.length : Int)) := by omega
    have hrt : r.take k = r := by rw [hke, HGL.out]; exact List.take_length
    have RC2 := Aside0.mk (hrt ▸ RC.out)
    clear RC hrt hke hlt hk
    go_upto_region 26 with fail
    obtain ⟨wx, hwx⟩ : ∃ wx, wx = wr.drew := ⟨_, rfl⟩
    have hbd : Below wr.heap.size wr wx := hwx ▸ below_drew (Below.refl _ _)
    have hcc := (ST.out.kp (Kp.below _ hbd)).cache
    rw [HCS.out] at hcc
    have GC := Aside0.mk hcc
    have P0 := Aside0.mk (ST.out.b0.below hbd)
    obtain ⟨ba, bb, hb1⟩ := ST.out.b1
    have P1 := Aside0.mk (hb1.below hbd)
    have P2 := Aside0.mk (B2.out.below hbd)
    have P3 := Aside0.mk (ST.out.b3.below hbd)
    have RN := Aside0.mk (Kd.R_below ST.out.names hbd)
    have RC := Aside0.mk (Kd.R_below RC2.out hbd)
    have BLx := Aside0.mk (below_step BL.out hbd)
    clear hcc hb1 ST B2 RC2 BL
    refine wp_region_noPanic ?_
    refine start_ (n := 20) (S := fun w' => w'.cell? ⟨gc, 0, none⟩ = some (.int .u8 (ver : Int)) ∧ w'.cell? ⟨gc, 3, none⟩ = some (.string a.realm) ∧ w'.cell? ⟨gc, 4, none⟩ = some (.int .i32 a.kind) ∧ w'.cell? ⟨gc, 5, none⟩ = some (.slice A5 a.names.length c5) ∧ w'.cell? ⟨h2, 0, none⟩ = some (.slice Ac k cc)) (ds := [18, 19]) #[false, false, false, false, false, false, false, false, false, false, false, false, false, false, false, false, false, false, false, false] (by kernel_rfl) rfl rfl ⟨(hwx ▸ (show _ from (GC.out.cell 0 _ rfl))), (hwx ▸ (show _ from (GC.out.cell 3 _ rfl))), (hwx ▸ (show _ from (GC.out.cell 4 _ rfl))), (hwx ▸ (show _ from (GC.out.cell 5 _ rfl))), (hwx ▸ (show _ from (P2.out.cell 0 _ rfl)))⟩ (fun hHeld => ?_)
    refine with_tabW cacheRead26.tab26 cacheRead26.bits26 (fun HT_ HW_ => ?_)
    rw [← hwx] at hHeld ⊢
    clear hwx hbd
    refine pure_ (i := 0) (N := some 166) (v := ?_) (a' := ?_) #[true, false, false, false, false, false, false, false, false, false, false, false, false, false, false, false, false, false, false, false] rfl rfl (any_of HT_.out (by kernel_rfl)) (fun _ _ _ h => h) (Or.inl ⟨by rfl, ?_⟩) ?_ ?_
    rotate_left
    · intro w'
      go_simp
      with_reducible rfl
    rotate_left
    · simp only [Act.put, List.setIfInBounds_toArray, List.set_cons_zero, List.set_cons_succ, i64_w, i32_w]
      rfl
    refine pure_ (i := 1) (N := some 167) (v := ?_) (a' := ?_) #[true, true, false, false, false, false, false, false, false, false, false, false, false, false, false, false, false, false, false, false] rfl rfl (any_of HT_.out (by kernel_rfl)) (fun _ _ _ h => h) (Or.inl ⟨by rfl, ?_⟩) ?_ ?_
    rotate_left
    · intro w'
      go_simp
      with_reducible rfl
    rotate_left
    · simp only [Act.put, List.setIfInBounds_toArray, List.set_cons_zero, List.set_cons_succ, i64_w, i32_w]
      rfl
    refine pure_ (i := 2) (N := some 168) (v := ?_) (a' := ?_) #[true, true, true, false, false, false, false, false, false, false, false, false, false, false, false, false, false, false, false, false] rfl rfl (any_of HT_.out (by kernel_rfl)) (fun _ _ _ h => h) (Or.inl ⟨by rfl, ?_⟩) ?_ ?_
    rotate_left
    · intro w'
      go_simp
      with_reducible rfl
    rotate_left
    · simp only [Act.put, List.setIfInBounds_toArray, List.set_cons_zero, List.set_cons_succ, i64_w, i32_w]
      rfl
    refine pure_ (i := 4) (N := some 170) (v := ?_) (a' := ?_) #[true, true, true, false, true, false, false, false, false, false, false, false, false, false, false, false, false, false, false, false] rfl rfl (any_of HT_.out (by kernel_rfl)) (fun _ _ _ h => h) (Or.inl ⟨by rfl, ?_⟩) ?_ ?_
    rotate_left
    · intro w'
      go_simp
      with_reducible rfl
    rotate_left
    · simp only [Act.put, List.setIfInBounds_toArray, List.set_cons_zero, List.set_cons_succ, i64_w, i32_w]
      rfl
    refine pure_ (i := 5) (N := some 171) (v := ?_) (a' := ?_) #[true, true, true, false, true, true, false, false, false, false, false, false, false, false, false, false, false, false, false, false] rfl rfl (any_of HT_.out (by kernel_rfl)) (fun _ _ _ h => h) (Or.inl ⟨by rfl, ?_⟩) ?_ ?_
    rotate_left
    · intro w'
      go_simp
      with_reducible rfl
    rotate_left
    · simp only [Act.put, List.setIfInBounds_toArray, List.set_cons_zero, List.set_cons_succ, i64_w, i32_w]
      rfl
    refine pure_ (i := 6) (N := some 172) (v := ?_) (a' := ?_) #[true, true, true, false, true, true, true, false, false, false, false, false, false, false, false, false, false, false, false, false] rfl rfl (any_of HT_.out (by kernel_rfl)) (fun _ _ _ h => h) (Or.inl ⟨by rfl, ?_⟩) ?_ ?_
    rotate_left
    · intro w'
      go_simp
      with_reducible rfl
    rotate_left
    · simp only [Act.put, List.setIfInBounds_toArray, List.set_cons_zero, List.set_cons_succ, i64_w, i32_w]
      rfl
    refine pure_ (i := 7) (N := some 173) (v := ?_) (a' := ?_) #[true, true, true, false, true, true, true, true, false, false, false, false, false, false, false, false, false, false, false, false] rfl rfl (any_of HT_.out (by kernel_rfl)) (fun _ _ _ h => h) (Or.inl ⟨by rfl, ?_⟩) ?_ ?_
    rotate_left
    · intro w'
      go_simp
      with_reducible rfl
    rotate_left
    · simp only [Act.put, List.setIfInBounds_toArray, List.set_cons_zero, List.set_cons_succ, i64_w, i32_w]
      rfl
    refine pure_ (i := 9) (N := some 175) (v := ?_) (a' := ?_) #[true, true, true, false, true, true, true, true, false, true, false, false, false, false, false, false, false, false, false, false] rfl rfl (any_of HT_.out (by kernel_rfl)) (fun _ _ _ h => h) (Or.inl ⟨by rfl, ?_⟩) ?_ ?_
    rotate_left
    · intro w'
      go_simp
      with_reducible rfl
    rotate_left
    · simp only [Act.put, List.setIfInBounds_toArray, List.set_cons_zero, List.set_cons_succ, i64_w, i32_w]
      rfl
    refine pure_ (i := 10) (N := some 176) (v := ?_) (a' := ?_) #[true, true, true, false, true, true, true, true, false, true, true, false, false, false, false, false, false, false, false, false] rfl rfl (any_of HT_.out (by kernel_rfl)) (fun _ _ _ h => h) (Or.inl ⟨by rfl, ?_⟩) ?_ ?_
    rotate_left
    · intro w'
      go_simp
      with_reducible rfl
    rotate_left
    · simp only [Act.put, List.setIfInBounds_toArray, List.set_cons_zero, List.set_cons_succ, i64_w, i32_w]
      rfl
    refine pure_ (i := 11) (N := some 177) (v := ?_) (a' := ?_) #[true, true, true, false, true, true, true, true, false, true, true, true, false, false, false, false, false, false, false, false] rfl rfl (any_of HT_.out (by kernel_rfl)) (fun _ _ _ h => h) (Or.inl ⟨by rfl, ?_⟩) ?_ ?_
    rotate_left
    · intro w'
      go_simp
      with_reducible rfl
    rotate_left
    · simp only [Act.put, List.setIfInBounds_toArray, List.set_cons_zero, List.set_cons_succ, i64_w, i32_w]
      rfl
    refine pure_ (i := 12) (N := some 178) (v := ?_) (a' := ?_) #[true, true, true, false, true, true, true, true, false, true, true, true, true, false, false, false, false, false, false, false] rfl rfl (any_of HT_.out (by kernel_rfl)) (fun _ _ _ h => h) (Or.inl ⟨by rfl, ?_⟩) ?_ ?_
    rotate_left
    · intro w'
      go_simp
      with_reducible rfl
    rotate_left
    · simp only [Act.put, List.setIfInBounds_toArray, List.set_cons_zero, List.set_cons_succ, i64_w, i32_w]
      rfl
    refine take_ (i := 3) (N := some 169) (v := ?_) (a' := ?_) #[true, true, true, true, true, true, true, true, false, true, true, true, true, false, false, false, false, false, false, false] rfl rfl (take_ofW HT_.out HW_.out (by kernel_rfl)) (fun _ _ _ h => h) (Or.inl ⟨by rfl, ?_⟩) hHeld ?_ ?_
    rotate_left
    · rintro w' ⟨s0, s1, s2, s3, s4⟩
      go_simp
      with_reducible rfl
    rotate_left
    · simp only [Act.put, List.setIfInBounds_toArray, List.set_cons_zero, List.set_cons_succ, i64_w, i32_w]
      rfl
    refine take_ (i := 8) (N := some 174) (v := ?_) (a' := ?_) #[true, true, true, true, true, true, true, true, true, true, true, true, true, false, false, false, false, false, false, false] rfl rfl (take_ofW HT_.out HW_.out (by kernel_rfl)) (fun _ _ _ h => h) (Or.inl ⟨by rfl, ?_⟩) hHeld ?_ ?_
    rotate_left
    · rintro w' ⟨s0, s1, s2, s3, s4⟩
      go_simp
      with_reducible rfl
    rotate_left
    · simp only [Act.put, List.setIfInBounds_toArray, List.set_cons_zero, List.set_cons_succ, i64_w, i32_w]
      rfl
    refine take_ (i := 13) (N := some 179) (v := ?_) (a' := ?_) #[true, true, true, true, true, true, true, true, true, true, true, true, true, true, false, false, false, false, false, false] rfl rfl (take_ofW HT_.out HW_.out (by kernel_rfl)) (fun _ _ _ h => h) (Or.inl ⟨by rfl, ?_⟩) hHeld ?_ ?_
    rotate_left
    · rintro w' ⟨s0, s1, s2, s3, s4⟩
      go_simp
      with_reducible rfl
    rotate_left
    · simp only [Act.put, List.setIfInBounds_toArray, List.set_cons_zero, List.set_cons_succ, i64_w, i32_w]
      rfl
    refine take_ (i := 15) (N := some 181) (v := ?_) (a' := ?_) #[true, true, true, true, true, true, true, true, true, true, true, true, true, true, false, true, false, false, false, false] rfl rfl (take_ofW HT_.out HW_.out (by kernel_rfl)) (fun _ _ _ h => h) (Or.inl ⟨by rfl, ?_⟩) hHeld ?_ ?_
    rotate_left
    · rintro w' ⟨s0, s1, s2, s3, s4⟩
      go_simp
      with_reducible rfl
    rotate_left
    · simp only [Act.put, List.setIfInBounds_toArray, List.set_cons_zero, List.set_cons_succ, i64_w, i32_w]
      rfl
    refine one_ (i := 14) (N := some 180) #[true, true, true, true, true, true, true, true, true, true, true, true, true, true, true, true, false, false, false, false] rfl rfl (one_of HT_.out (by kernel_rfl)) (by decide) (fun K hK => ?_)
    refine goes_ Try.func34 (by kernel_rfl) rfl #[.string a.realm, .agg #[.int .i32 a.kind, .slice A5 a.names.length c5]] (by rfl) rfl rfl (by simp only [List.map_toArray, List.map_cons, List.map_nil]; rfl) ?_
    with_reducible refine (ccName_any a.realm a.kind A5 a.names.length c5 _).mono ?_
    rintro e wy ⟨rfl, hb_⟩
    refine ⟨_, rfl, ?_⟩
    have GC4 := Aside0.mk (GC.out.below hb_)
    have P04 := Aside0.mk (P0.out.below hb_)
    have P14 := Aside0.mk (P1.out.below hb_)
    have P24 := Aside0.mk (P2.out.below hb_)
    have P34 := Aside0.mk (P3.out.below hb_)
    have RN4 := Aside0.mk (Kd.R_below RN.out hb_)
    have RC4 := Aside0.mk (Kd.R_below RC.out hb_)
    have BL4 := Aside0.mk (below_step BLx.out hb_)
    clear hb_
    have n01_ := P04.out.ne P14.out (by decide)
    have n02_ := P04.out.ne P24.out (by decide)
    have n03_ := P04.out.ne P34.out (by decide)
    have n12_ := P14.out.ne P24.out (by decide)
    have n13_ := P14.out.ne P34.out (by decide)
    have n23_ := P24.out.ne P34.out (by decide)
    have m01_ := n01_.symm
    have m02_ := n02_.symm
    have m03_ := n03_.symm
    have m12_ := n12_.symm
    have m13_ := n13_.symm
    have m23_ := n23_.symm
    have ng0_ := GC4.out.ne P04.out (by decide)
    have ng1_ := GC4.out.ne P14.out (by decide)
    have c0_ : wy.cell? ⟨w.heap.size, 0, none⟩ = some (.int .u8 0) := P04.out.cell 0 _ rfl
    have c1_ : wy.cell? ⟨h1, 0, none⟩ = some (.string ⟨#[]⟩) := P14.out.cell 0 _ rfl
    have c2_ : wy.cell? ⟨h1, 1, none⟩ = some ba := P14.out.cell 1 _ rfl
    have c3_ : wy.cell? ⟨h1, 2, none⟩ = some bb := P14.out.cell 2 _ rfl
    have c4_ : wy.cell? ⟨h2, 0, none⟩ = some (.slice Ac k cc) := P24.out.cell 0 _ rfl
    have c5_ : wy.cell? ⟨h3, 0, none⟩ = some (.bool false) := P34.out.cell 0 _ rfl
    have g0_ := P04.out.free 0
    have g1_ := P14.out.free 0
    have g2_ := P14.out.free 1
    have g3_ := P14.out.free 2
    have g4_ := P24.out.free 0
    have g5_ := P34.out.free 0
    refine hK.out _ _ ⟨(GC4.out.cell 0 _ rfl), (GC4.out.cell 3 _ rfl), (GC4.out.cell 4 _ rfl), (GC4.out.cell 5 _ rfl), (P24.out.cell 0 _ rfl)⟩ (fun hHeld => ?_)
    clear hK K
    refine norm_ (a' := ?_) ?_ ?_
    rotate_left
    · show Act.put _ (some 180) _ = _
      simp only [Act.put, List.setIfInBounds_toArray, List.set_cons_zero, List.set_cons_succ, i64_w, i32_w]
      rfl
    refine one_ (i := 16) (N := none) #[true, true, true, true, true, true, true, true, true, true, true, true, true, true, true, true, true, false, false, false] rfl rfl (one_of HT_.out (by kernel_rfl)) (by decide) (fun K hK => ?_)
    refine skip_ (w1 := ?_) (by rfl) rfl ?_ ?_
    rotate_left
    · go_simp
      rfl
    refine hK.out _ _ ⟨((GC4.out.far ng0_ 0 _).cell 0 _ rfl), ((GC4.out.far ng0_ 0 _).cell 3 _ rfl), ((GC4.out.far ng0_ 0 _).cell 4 _ rfl), ((GC4.out.far ng0_ 0 _).cell 5 _ rfl), ((P24.out.far m02_ 0 _).cell 0 _ rfl)⟩ (fun hHeld => ?_)
    clear hK K
    refine one_ (i := 17) (N := none) #[true, true, true, true, true, true, true, true, true, true, true, true, true, true, true, true, true, true, false, false] rfl rfl (one_of HT_.out (by kernel_rfl)) (by decide) (fun K hK => ?_)
    refine skip_ (w1 := ?_) (by rfl) rfl ?_ ?_
    rotate_left
    · go_simp
      rfl
    refine hK.out _ _ ⟨(((((GC4.out.far ng0_ 0 _).far ng1_ 0 _).far ng1_ 1 _).far ng1_ 2 _).cell 0 _ rfl), (((((GC4.out.far ng0_ 0 _).far ng1_ 0 _).far ng1_ 1 _).far ng1_ 2 _).cell 3 _ rfl), (((((GC4.out.far ng0_ 0 _).far ng1_ 0 _).far ng1_ 1 _).far ng1_ 2 _).cell 4 _ rfl), (((((GC4.out.far ng0_ 0 _).far ng1_ 0 _).far ng1_ 1 _).far ng1_ 2 _).cell 5 _ rfl), (((((P24.out.far m02_ 0 _).far m12_ 0 _).far m12_ 1 _).far m12_ 2 _).cell 0 _ rfl)⟩ (fun hHeld => ?_)
    clear hK K
    refine last_ (i := 18) (N := none) #[true, true, true, true, true, true, true, true, true, true, true, true, true, true, true, true, true, true, true, false] rfl rfl (one_of HT_.out (by kernel_rfl)) (by decide) (fun K hK => ?_)
    refine skip_ (w1 := ?_) (by rfl) rfl ?_ ?_
    rotate_left
    · go_simp
      rfl
    refine hK.out _ _ ?_
    clear hK K
    refine last_ (i := 19) (N := none) #[true, true, true, true, true, true, true, true, true, true, true, true, true, true, true, true, true, true, true, true] rfl rfl (one_of HT_.out (by kernel_rfl)) (by decide) (fun K hK => ?_)
    refine skip_ (w1 := ?_) (by rfl) rfl ?_ ?_
    rotate_left
    · go_simp
      rfl
    refine hK.out _ _ ?_
    clear hK K
    refine done_ (done_of HT_.out (by kernel_rfl)) ?_
    refine NoPanic.normal ?_
    clear c0_ c1_ c2_ c3_ c4_ c5_ g0_ g1_ g2_ g3_ g4_ g5_ n01_ n02_ n03_ n12_ n13_ n23_ m01_ m02_ m03_ m12_ m13_ m23_ ng0_ ng1_
    have FR := Aside0.mk (show Front w wy w.heap.size h1 h2 h3 (.int .u8 0) (.string ⟨#[]⟩) (.slice Ac k cc) (.bool false) from ⟨P04.out, ⟨_, _, P14.out⟩, P24.out, P34.out, BL4.out, Nat.le_refl _, HN.out.1, HN.out.2.1, HN.out.2.2.1⟩)
    obtain ⟨w4, e4, f0, f1, f2, f3, hbl, hkp⟩ := FR.out.zeroed P14.out (.int .u8 (ver : Int)) (.string a.realm) (.slice A5 a.names.length c5) (.int .i32 a.kind) (.slice Ac k cc) (.bool true)
    rw [← e4]
    have k0 := f0.cell 0 _ rfl
    have k1 := f1.cell 0 _ rfl
    have k2 := f1.cell 1 _ rfl
    have k3 := f1.cell 2 _ rfl
    have k4 := f2.cell 0 _ rfl
    have k5 := f3.cell 0 _ rfl
    have hRN := Aside0.mk (Stable.row _ _ _ _ _ _ (by decide) _ _ RN4.out hkp)
    have hRC := Aside0.mk (Stable.row _ _ _ _ _ _ (by decide) _ _ RC4.out hkp)
    have HBL := Aside0.mk hbl
    clear e4 f0 f1 f2 f3 hbl hkp FR P04 P14 P24 P34 RN4 RC4 BL4 GC4
    go_wp2_with fail
    refine leaves_cons (f := 31) (args := #[.pointer (some ⟨w.heap.size, 0, none⟩), .pointer (some ⟨h1, 0, none⟩), .pointer (some ⟨h2, 0, none⟩), .pointer (some ⟨h3, 0, none⟩)]) (by simp) (by simp [go_sem]) ?_
    refine (idle31 _ _ _ _ _).mono ?_
    rintro e u' w'' ⟨rfl, rfl, rfl⟩
    simp [Leaves, settle, results, Try.results15, go_sem, hu37] at *
    simp [k0, k1, k2, k3, k4, k5]
    exact ⟨_, _, rfl, hRN.out, hRC.out, HBL.out⟩

  have hlt' : (k : Int) < (gs.length : Int) := by omega
  have hk0 : (0 : Int) ≤ (k : Int) := by omega
  have HLT := Aside0.mk hlt
  obtain ⟨gq, eA, e7⟩ := ptr_at ST.out.ptrs k hlt rfl
  subst eA
  obtain ⟨c, hc⟩ : ∃ c, r[k]? = some c := ⟨_, List.getElem?_eq_getElem (by rw [← HGL.out]; exact hlt)⟩
  obtain ⟨g, hg⟩ : ∃ g, gs[k]? = some g := ⟨_, List.getElem?_eq_getElem hlt⟩
  have e8 : gs.getD k 0 = g := by simp [List.getD_eq_getElem?_getD, hg]
  rw [e8] at e7
  obtain ⟨X2, X5, X7, X17, X19, X20, X21, X22, z2, z5, z7, z17, z19, z20, z21, z22, hbx, q1, q2, q3, q4, q5, q6, q7, q8⟩ := ST.out.creds.2 k g c hg hc
  have HCr := Aside0.mk hc
  have HGk := Aside0.mk hg
  obtain ⟨ik, hik⟩ : ∃ b_, b_ = decide (c.ik ≠ 0) := ⟨_, rfl⟩
  rw [← hik] at hbx
  have HIK := Aside0.mk hik
  clear hik
  clear hg e8 hlt hk hc
  go_upto_region 8 with fail
  go_cut [9] from 30 to 100 (fun v9 wz => ∃ s_, v9 = .pointer (some ⟨s_, 0, none⟩) ∧ Aside0 (Going w gc h1 h2 h3 cs (.slice A5 a.names.length c5) (.slice (some ⟨gq, 0, none⟩) gs.length c6) (.slice Ac k cc) (.slice X2 c.client.names.length z2) (.slice X5 c.server.names.length z5) a.names gs r ((r.take k).map toCred) c g s_ wz) ∧
      Aside0 (Box wz s_ 47 (cred47 c X2 z2 X5 z5 0 (.slice none 0 0) (.slice none 0 0))))
  case first =>
    refine region_by (ops' := opsOf Try.f15 8) (by kernel_rfl) ?_
    refine region8 w.heap.size g c ik X2 X5 X7 X17 X19 X20 X21 X22 z2 z5 z7 z17 z19 z20 z21 z22 wr _ _ _ _ _ _ _ _ _ _ _ _ _ _ _ _ _ _ _ _ _ _ _ _ _ _ _ _ _ _ _ _ _ _ _ _ _ _ _ _ _ _ _ _ _ _ _ _ _ _ _ _ _ _ _ _ _ _ _ _ _ _ _ _ _ _ _ _ _ _ _ _ _ _ _ _ _ _ _ _ _ _ _ _ _ _ _ _ _ _ _ _ _ _ _ _ _ _ _ _ _ _ _ _ _ _ _ _ _ _ _ _ _ _ _ _ _ _ _ _ _ _ _ _ _ _ _ _ _ _ _ _ _ _ _ _ _ _ _ _ _ _ _ _ _ _ _ _ _ _ _ _ _ _ _ _ _ _ _ _ _ _ _ _ _ _ _ _ _ _ _ _ _ _ _ _ _ _ _ _ _ _ _ hbx q3 q7 q8 ?_
    intro s_ wz x33 x34 x35 x36 x37 x38 x39 x40 x41 x42 x43 x44 x45 x46 x47 x48 x49 x50 x51 x52 x53 x54 x55 x56 x57 x58 x59 x60 x61 x62 x63 x64 x65 x66 x67 x68 x69 x70 x71 x72 x73 x74 x75 x76 x77 x78 x79 x80 x81 x82 x83 x84 x85 x86 x87 x88 x89 x90 x91 x92 x93 x94 x95 x96 x97 x98 x99 x100 hbw hfill hgn
    have hik := HIK.out
    subst hik
    have HFL := Aside0.mk hfill
    have HBW := Aside0.mk hbw
    have HGN := Aside0.mk hgn
    have HQ12 := Aside0.mk (And.intro q1 q2)
    have HCA := Aside0.mk (ST.out.creds.2 k g c HGk.out HCr.out)
    clear hfill hbw hgn q1 q2 q3 q4 q5 q6 q7 q8 hbx e7
    go_wp2_with fail
    go_meet
    exact ⟨s_, rfl, ⟨⟨ST.out.kp (Kp.below _ HBW.out), B2.out.below HBW.out, Kd.R_mono (Kd.R_old RC.out HBW.out) (fun k_ hk_ => Nat.lt_of_lt_of_le hk_.2 HGN.out), below_step BL.out HBW.out, CredAt.stable [47] _ _ _ (by decide) _ _ HCA.out (Kp.below _ HBW.out), Kd.R_below HQ12.out.1 HBW.out, Kd.R_below HQ12.out.2 HBW.out, Nat.le_trans BL.out.size HGN.out⟩⟩, ⟨HFL.out⟩⟩

  obtain ⟨s_, hv9, GO, B9⟩ := hcut
  subst hv9
  generalize wc = wr at *
  have HSM := Aside0.mk ((rCache_small HR.out).2 c (List.mem_of_getElem? HCr.out))
  obtain ⟨Y2, Y5, Y7, X17, Y19, Y20, Y21, Y22, t2, t5, t7, z17, t19, t20, t21, t22, hbx, -, -, -, q4, -, -, -, -⟩ := GO.out.ca
  have e17 := hbx.cell 17 _ rfl
  have Q4 := Aside0.mk q4
  clear hbx q4
  go_upto_block 2 with fail
  go_cut [] from 101 to 118 (fun wz => Aside0 (Going w gc h1 h2 h3 cs (.slice A5 a.names.length c5) (.slice (some ⟨gq, 0, none⟩) gs.length c6) (.slice Ac k cc) (.slice X2 c.client.names.length z2) (.slice X5 c.server.names.length z5) a.names gs r ((r.take k).map toCred) c g s_ wz) ∧
      Aside0 (Box wz s_ 47 (cred47 c X2 z2 X5 z5 (flagsOf c.fl) (.slice none 0 0) (.slice none 0 0))))
  case first =>
    go_wp2_with fail
    have hfl4 : c.fl.length ≤ 4 := HSM.out.2.2
    go_loopw [107] (fun i wq => ∃ (j : Nat), j ≤ c.fl.length ∧ i = .int .i64 j ∧ Aside0 (Going w gc h1 h2 h3 cs (.slice A5 a.names.length c5) (.slice (some ⟨gq, 0, none⟩) gs.length c6) (.slice Ac k cc) (.slice X2 c.client.names.length z2) (.slice X5 c.server.names.length z5) a.names gs r ((r.take k).map toCred) c g s_ wq) ∧
      Aside0 ((Kd.int .u8).R 5 wq w.heap.size (fun _ => True) (.slice X17 c.fl.length z17) c.fl) ∧
      Aside0 (Box wq s_ 47 (cred47 c X2 z2 X5 z5 (flagsOf (c.fl.take j)) (.slice none 0 0) (.slice none 0 0)))) (fun i _ => c.fl.length - (intOf i).toNat)
    case atStart => exact ⟨0, Nat.zero_le _, rfl, GO, Q4, B9⟩
    clear GO Q4 B9 e17
    obtain ⟨j, hj, rfl, GO, Q4, B9⟩ := hrel
    by_cases hlt : j < c.fl.length
    case neg =>
      obtain rfl : j = c.fl.length := by omega
      have hnl : ¬ (((c.fl.length : Nat) : Int) < ((c.fl.length : Nat) : Int)) := by omega
      have B9' := Aside0.mk (List.take_length (l := c.fl) ▸ B9.out)
      clear B9 hj hlt
      go_wp2_with fail
      go_meet
      exact ⟨GO, B9'⟩
    have hlt' : (j : Int) < (c.fl.length : Int) := by omega
    have hj0 : (0 : Int) ≤ (j : Int) := by omega
    obtain ⟨gf, ef, eb⟩ := byte_at Q4.out j hlt rfl
    obtain ⟨b, hb⟩ : ∃ b, c.fl[j]? = some b := ⟨_, List.getElem?_eq_getElem hlt⟩
    rw [List.getD_eq_getElem?_getD, hb, Option.getD_some] at eb
    have HBy := Aside0.mk hb
    subst ef
    have e13 : wr.cell? ⟨s_, 13, none⟩ = some (.int .u32 (flagsOf (c.fl.take j))) := B9.out.cell 13 _ rfl
    have f13 := B9.out.free 13
    have HJ := Aside0.mk hlt
    clear hj hlt hb
    go_wp2
    go_roundw
    case rel =>
      have hj := HJ.out
      have ef : flagsOf (c.fl.take (j + 1)) = flagStep (flagsOf (c.fl.take j)) b := by rw [List.take_add_one, HBy.out]; simp [flagsOf, List.foldl_append]
      refine ⟨j + 1, by omega, by go_num, ⟨GO.out.set B9.out 13 _⟩, ⟨row_set Q4.out B9.out (by decide) 13 _⟩, ⟨?_⟩⟩
      rw [ef]
      exact B9.out.puts 13 _ rfl
    case measure => have := HJ.out; simp [intOf]; omega
  clear GO B9 Q4 e17
  obtain ⟨GO, B9⟩ := hcut
  clear wr
  generalize wc = wr at *
  obtain ⟨Y2, Y5, Y7, Y17, X19, X20, Y21, Y22, t2, t5, t7, t17, z19, z20, t21, t22, hbx, -, -, -, -, q5, q6, -, -⟩ := GO.out.ca
  have ef := hbx.cell 19 _ rfl
  have Q5 := Aside0.mk q5
  have hsm : c.ad.length ≤ 2147483648 := HSM.out.1
  clear hbx q5 q6
  go_upto_block 4 with fail
  go_cut [] from 119 to 141 (fun wz => ∃ (Aq : Option Addr) (cq : Nat), Aside0 (Going w gc h1 h2 h3 cs (.slice A5 a.names.length c5) (.slice (some ⟨gq, 0, none⟩) gs.length c6) (.slice Ac k cc) (.slice X2 c.client.names.length z2) (.slice X5 c.server.names.length z5) a.names gs r ((r.take k).map toCred) c g s_ wz) ∧ Aside0 (k101.R 101 wz s_ (fun _ => True) (.slice Aq c.ad.length cq) (c.ad.map toPart)) ∧ Aside0 (Box wz s_ 47 (cred47 c X2 z2 X5 z5 (flagsOf c.fl) (.slice Aq c.ad.length cq) (.slice none 0 0))))
  case first =>
    go_wp2_with fail
    go_loopw [124] (fun i wq => ∃ (j : Nat) (Aq : Option Addr) (cq : Nat), j ≤ c.ad.length ∧ i = .int .i64 j ∧ Aside0 (Going w gc h1 h2 h3 cs (.slice A5 a.names.length c5) (.slice (some ⟨gq, 0, none⟩) gs.length c6) (.slice Ac k cc) (.slice X2 c.client.names.length z2) (.slice X5 c.server.names.length z5) a.names gs r ((r.take k).map toCred) c g s_ wq) ∧ Aside0 (k101.R 101 wq s_ (fun _ => True) (.slice Aq j cq) ((c.ad.take j).map toPart)) ∧
      Aside0 (kPart.Q 100 wq w.heap.size (fun _ => True) (.slice X19 c.ad.length z19) c.ad) ∧ Aside0 (Box wq s_ 47 (cred47 c X2 z2 X5 z5 (flagsOf c.fl) (.slice Aq j cq) (.slice none 0 0)))) (fun i _ => c.ad.length - (intOf i).toNat)
    case atStart => exact ⟨0, none, 0, Nat.zero_le _, rfl, GO, ⟨Kd.R_nil _ _ _ _ _⟩, Q5, B9⟩
    clear GO Q5 B9 ef
    obtain ⟨j, Aq, cq, hj, rfl, GO, RQ, Q5, B9⟩ := hrel
    by_cases hlt : j < c.ad.length
    case neg =>
      obtain rfl : j = c.ad.length := by omega
      have hnl : ¬ (((c.ad.length : Nat) : Int) < ((c.ad.length : Nat) : Int)) := by omega
      have RQ' := Aside0.mk (List.take_length (l := c.ad) ▸ RQ.out)
      clear RQ hj hlt
      go_wp2_with fail
      go_meet
      exact ⟨Aq, cq, GO, RQ', B9⟩
    have hlt' : (j : Int) < (c.ad.length : Int) := by omega
    have hj0 : (0 : Int) ≤ (j : Int) := by omega
    obtain ⟨ga, o_, x_, y_, part, ep, hpart, ea, eb, hu⟩ := part_at Q5.out j hlt rfl
    have hga : ga < wr.heap.size := World.block_lt_of_cell? wr _ ea
    have HP := Aside0.mk hpart
    have HJ := Aside0.mk hlt
    subst ep
    clear hj hlt hpart
    go_upto_region 17 with fail
    have HNX := Aside0.mk (show (c.ad.take j).map toPart ++ [toPart part] = (c.ad.take (j + 1)).map toPart from by rw [List.take_add_one, HP.out]; simp)
    have HLN := Aside0.mk (show ((c.ad.take (j + 1)).map toPart).length = j + 1 from by have := HJ.out; simp; omega)
    have HZZ := Aside0.mk (show (((c.ad.take j).map toPart).length + 1) * 24 ≤ 140737488355328 from by have := HJ.out; simp; omega)
    have hbw := below_alloc (Below.refl wr.heap.size wr) (.cells #[.int .i32 part.1, .slice x_ part.2.length y_] 100)
    have BP := Aside0.mk (Box.new wr #[.int .i32 part.1, .slice x_ part.2.length y_] 100)
    have GO5 := Aside0.mk (GO.out.below hbw)
    have RQ5 := Aside0.mk (Kd.R_below RQ.out hbw)
    have Q55 := Aside0.mk (Kd.Q_below Q5.out hbw)
    have B95 := Aside0.mk (B9.out.below hbw)
    have HU5 := Aside0.mk (Kd.R_below hu hbw)
    clear GO RQ Q5 B9 hu hbw ea eb hga
    generalize wr.alloc (.cells #[.int .i32 part.1, .slice x_ part.2.length y_] 100) = w5 at *
    generalize wr.heap.size = gp0 at *
    clear wr
    have hcv := own_string (P := Try.prog) Try.underlying83 Try.underlying5 Try.underlying9 (Kd.own_of_R HU5.out)
    have ea : w5.cell? ⟨gp0, 0, none⟩ = some (.int .i32 part.1) := BP.out.cell 0 _ rfl
    have eb : w5.cell? ⟨gp0, 1, none⟩ = some (.slice x_ part.2.length y_) := BP.out.cell 1 _ rfl
    have ed : w5.cell? ⟨s_, 14, none⟩ = some (.slice Aq j cq) := B95.out.cell 14 _ rfl
    have HSL := Aside0.mk (show s_ ≤ w5.heap.size from Nat.le_of_lt B95.out.lt)
    have HSB := Aside0.mk (below_low (Below.refl _ w5) HSL.out)
    go_wp2_with ((with_reducible refine gate_builtin (b := .append) (xs := #[.tmp 129, .tmp 136]) rfl ?_); at_builtin; refine Kd.R_append k101 (w0 := w5) s_ rfl (.tmp 129) (.tmp 136) 45 101 (.agg #[.int .i32 0, .string ⟨#[]⟩]) 24 rfl Try.underlying45 info101 rfl (by decide) (by decide) (.slice Aq j cq) ((c.ad.take j).map toPart) (toPart part) [.int .i32 part.1, .string (strOfNums part.2)] (fun _ => True) (fun k_ => True ∧ some k_ ≠ (Value.slice Aq j cq).ownBlock) rfl rfl (k101_mkM _ _ _ _) (fun _ h => h) (fun _ _ => trivial) RQ5.out HSB.out HSL.out HZZ.out ?_; intro v6 w6 hv6 hb6 hg6 hat6; rw [HNX.out] at hv6; obtain ⟨Aq6, cq6, ev6⟩ := Kd.R_slice hv6; rw [HLN.out] at ev6; subst ev6; have RQ6 := Aside0.mk hv6; have GO6 := Aside0.mk (GO5.out.row RQ5.out hg6); have B96 := Aside0.mk (B95.out.row RQ5.out (by decide) hg6); have Q56 := Aside0.mk ((Stable.rowQ [101] kPart 100 w.heap.size _ _ (by decide)) _ _ Q55.out (Kp.row RQ5.out (by decide) hg6)); have e6 := B96.out.cell 14 (.slice Aq j cq) rfl; have f6 := B96.out.free 14; clear hv6 hb6 hg6 hat6 ed hcv ea eb)
    have HR7 := Aside0.mk (row_set RQ6.out B96.out (by decide) 14 (.slice Aq6 (j + 1) cq6))
    have GO7 := Aside0.mk (GO6.out.set B96.out 14 (.slice Aq6 (j + 1) cq6))
    have Q57 := Aside0.mk ((Stable.rowQ [47] kPart 100 w.heap.size _ _ (by decide)) _ _ Q56.out (Kp.set B96.out (by decide) 14 (.slice Aq6 (j + 1) cq6)))
    have B97 := Aside0.mk (B96.out.puts (cs' := cred47 c X2 z2 X5 z5 (flagsOf c.fl) (.slice Aq6 (j + 1) cq6) (.slice none 0 0)) 14 (.slice Aq6 (j + 1) cq6) rfl)
    clear GO6 RQ6 Q56 B96 e6 f6
    go_roundw
    case rel =>
      have hj := HJ.out
      exact ⟨j + 1, Aq6, cq6, by omega, by go_num, GO7, HR7, Q57, B97⟩
    case measure => have := HJ.out; simp [intOf]; omega
  clear GO B9 Q5 ef
  obtain ⟨Ap, cp, GO, RA, B9⟩ := hcut
  clear wr
  generalize wc = wr at *
  obtain ⟨T_, hT⟩ : ∃ T_, T_ = wr.heap.size := ⟨_, rfl⟩
  have HTS := Aside0.mk (show s_ < T_ from hT ▸ B9.out.lt)
  have HTW := Aside0.mk (show T_ ≤ wr.heap.size from Nat.le_of_eq hT)
  have RA0 := Aside0.mk (show k101.R 101 wr s_ (fun b => b < T_) (.slice Ap c.ad.length cp) (c.ad.map toPart) from Kd.R_mono (Kd.R_old RA.out (Below.refl _ _)) (fun k_ hk_ => hT ▸ hk_.2))
  clear RA hT
  have RA := RA0
  clear RA0
  obtain ⟨Y2, Y5, Y7, Y17, X19, X20, Y21, Y22, t2, t5, t7, t17, z19, z20, t21, t22, hbx, -, -, -, -, q5, q6, -, -⟩ := GO.out.ca
  have ef := hbx.cell 20 _ rfl
  have Q5 := Aside0.mk q6
  have hsm : c.au.length ≤ 2147483648 := HSM.out.2.1
  clear hbx q5 q6
  go_upto_block 6 with fail
  go_cut [] from 140 to 160 (fun wz => ∃ (Aq : Option Addr) (cq : Nat), Aside0 (Going w gc h1 h2 h3 cs (.slice A5 a.names.length c5) (.slice (some ⟨gq, 0, none⟩) gs.length c6) (.slice Ac k cc) (.slice X2 c.client.names.length z2) (.slice X5 c.server.names.length z5) a.names gs r ((r.take k).map toCred) c g s_ wz) ∧ Aside0 (k101.R 101 wz T_ (fun _ => True) (.slice Aq c.au.length cq) (c.au.map toPart)) ∧ Aside0 (Box wz s_ 47 (cred47 c X2 z2 X5 z5 (flagsOf c.fl) (.slice Ap c.ad.length cp) (.slice Aq c.au.length cq))) ∧ Aside0 (k101.R 101 wz s_ (fun b => b < T_) (.slice Ap c.ad.length cp) (c.ad.map toPart)) ∧ Aside0 (T_ ≤ wz.heap.size))
  case first =>
    go_wp2_with fail
    go_loopw [145] (fun i wq => ∃ (j : Nat) (Aq : Option Addr) (cq : Nat), j ≤ c.au.length ∧ i = .int .i64 j ∧ Aside0 (Going w gc h1 h2 h3 cs (.slice A5 a.names.length c5) (.slice (some ⟨gq, 0, none⟩) gs.length c6) (.slice Ac k cc) (.slice X2 c.client.names.length z2) (.slice X5 c.server.names.length z5) a.names gs r ((r.take k).map toCred) c g s_ wq) ∧ Aside0 (k101.R 101 wq T_ (fun _ => True) (.slice Aq j cq) ((c.au.take j).map toPart)) ∧
      Aside0 (kPart.Q 103 wq w.heap.size (fun _ => True) (.slice X20 c.au.length z20) c.au) ∧ Aside0 (Box wq s_ 47 (cred47 c X2 z2 X5 z5 (flagsOf c.fl) (.slice Ap c.ad.length cp) (.slice Aq j cq))) ∧ Aside0 (k101.R 101 wq s_ (fun b => b < T_) (.slice Ap c.ad.length cp) (c.ad.map toPart)) ∧ Aside0 (T_ ≤ wq.heap.size)) (fun i _ => c.au.length - (intOf i).toNat)
    case atStart => exact ⟨0, none, 0, Nat.zero_le _, rfl, GO, ⟨Kd.R_nil _ _ _ _ _⟩, Q5, B9, RA, HTW⟩
    clear GO Q5 B9 ef RA HTW
    obtain ⟨j, Aq, cq, hj, rfl, GO, RQ, Q5, B9, RA, HTW⟩ := hrel
    by_cases hlt : j < c.au.length
    case neg =>
      obtain rfl : j = c.au.length := by omega
      have hnl : ¬ (((c.au.length : Nat) : Int) < ((c.au.length : Nat) : Int)) := by omega
      have RQ' := Aside0.mk (List.take_length (l := c.au) ▸ RQ.out)
      clear RQ hj hlt
      go_wp2_with fail
      go_meet
      exact ⟨Aq, cq, GO, RQ', B9, RA, HTW⟩
    have hlt' : (j : Int) < (c.au.length : Int) := by omega
    have hj0 : (0 : Int) ≤ (j : Int) := by omega
    obtain ⟨ga, o_, x_, y_, part, ep, hpart, ea, eb, hu⟩ := part_at Q5.out j hlt rfl
    have hga : ga < wr.heap.size := World.block_lt_of_cell? wr _ ea
    have HP := Aside0.mk hpart
    have HJ := Aside0.mk hlt
    subst ep
    clear hj hlt hpart
    go_upto_region 22 with fail
    have HNX := Aside0.mk (show (c.au.take j).map toPart ++ [toPart part] = (c.au.take (j + 1)).map toPart from by rw [List.take_add_one, HP.out]; simp)
    have HLN := Aside0.mk (show ((c.au.take (j + 1)).map toPart).length = j + 1 from by have := HJ.out; simp; omega)
    have HZZ := Aside0.mk (show (((c.au.take j).map toPart).length + 1) * 24 ≤ 140737488355328 from by have := HJ.out; simp; omega)
    have hbw := below_alloc (Below.refl wr.heap.size wr) (.cells #[.int .i32 part.1, .slice x_ part.2.length y_] 103)
    have BP := Aside0.mk (Box.new wr #[.int .i32 part.1, .slice x_ part.2.length y_] 103)
    have GO5 := Aside0.mk (GO.out.below hbw)
    have RQ5 := Aside0.mk (Kd.R_below RQ.out hbw)
    have Q55 := Aside0.mk (Kd.Q_below Q5.out hbw)
    have B95 := Aside0.mk (B9.out.below hbw)
    have HU5 := Aside0.mk (Kd.R_below hu hbw)
    have RA5 := Aside0.mk (Kd.R_below RA.out hbw)
    have HT5 := Aside0.mk (Nat.le_trans HTW.out hbw.size)
    clear GO RQ Q5 B9 RA HTW hu hbw ea eb hga
    generalize wr.alloc (.cells #[.int .i32 part.1, .slice x_ part.2.length y_] 103) = w5 at *
    generalize wr.heap.size = gp0 at *
    clear wr
    have hcv := own_string (P := Try.prog) Try.underlying83 Try.underlying5 Try.underlying9 (Kd.own_of_R HU5.out)
    have ea : w5.cell? ⟨gp0, 0, none⟩ = some (.int .i32 part.1) := BP.out.cell 0 _ rfl
    have eb : w5.cell? ⟨gp0, 1, none⟩ = some (.slice x_ part.2.length y_) := BP.out.cell 1 _ rfl
    have ed : w5.cell? ⟨s_, 15, none⟩ = some (.slice Aq j cq) := B95.out.cell 15 _ rfl
    have HSL := Aside0.mk (show T_ ≤ w5.heap.size from HT5.out)
    have HSB := Aside0.mk (below_low (Below.refl _ w5) HSL.out)
    go_wp2_with ((with_reducible refine gate_builtin (b := .append) (xs := #[.tmp 150, .tmp 157]) rfl ?_); at_builtin; refine Kd.R_append k101 (w0 := w5) T_ rfl (.tmp 150) (.tmp 157) 45 101 (.agg #[.int .i32 0, .string ⟨#[]⟩]) 24 rfl Try.underlying45 info101 rfl (by decide) (by decide) (.slice Aq j cq) ((c.au.take j).map toPart) (toPart part) [.int .i32 part.1, .string (strOfNums part.2)] (fun _ => True) (fun k_ => True ∧ some k_ ≠ (Value.slice Aq j cq).ownBlock) rfl rfl (k101_mkM _ _ _ _) (fun _ h => h) (fun _ _ => trivial) RQ5.out HSB.out HSL.out HZZ.out ?_; intro v6 w6 hv6 hb6 hg6 hat6; rw [HNX.out] at hv6; obtain ⟨Aq6, cq6, ev6⟩ := Kd.R_slice hv6; rw [HLN.out] at ev6; subst ev6; have RQ6 := Aside0.mk hv6; have GO6 := Aside0.mk (GO5.out.row (Kd.R_lower RQ5.out (Nat.le_of_lt HTS.out)) hg6); have B96 := Aside0.mk (B95.out.row RQ5.out (by decide) hg6); have Q56 := Aside0.mk ((Stable.rowQ [101] kPart 103 w.heap.size _ _ (by decide)) _ _ Q55.out (Kp.row RQ5.out (by decide) hg6)); have RA6 := Aside0.mk (Kd.R_grown RA5.out hg6 (fun k_ hk_ e_ => by have := Kd.R_base RQ5.out k_ e_.symm; omega)); have HT6 := Aside0.mk (Nat.le_trans HT5.out hg6.size); have e6 := B96.out.cell 15 (.slice Aq j cq) rfl; have f6 := B96.out.free 15; clear hv6 hb6 hg6 hat6 ed hcv ea eb)
    have HR7 := Aside0.mk (row_set RQ6.out B96.out (by decide) 15 (.slice Aq6 (j + 1) cq6))
    have GO7 := Aside0.mk (GO6.out.set B96.out 15 (.slice Aq6 (j + 1) cq6))
    have Q57 := Aside0.mk ((Stable.rowQ [47] kPart 103 w.heap.size _ _ (by decide)) _ _ Q56.out (Kp.set B96.out (by decide) 15 (.slice Aq6 (j + 1) cq6)))
    have B97 := Aside0.mk (B96.out.puts (cs' := cred47 c X2 z2 X5 z5 (flagsOf c.fl) (.slice Ap c.ad.length cp) (.slice Aq6 (j + 1) cq6)) 15 (.slice Aq6 (j + 1) cq6) rfl)
    have RA7 := Aside0.mk (Kd.R_set RA6.out B96.out (by decide) 15 (.slice Aq6 (j + 1) cq6))
    have HT7 := Aside0.mk (show T_ ≤ (w6.setCell ⟨s_, 15, none⟩ (.slice Aq6 (j + 1) cq6)).heap.size from by simpa using HT6.out)
    clear RA6 RA5
    clear GO6 RQ6 Q56 B96 e6 f6
    go_roundw
    case rel =>
      have hj := HJ.out
      exact ⟨j + 1, Aq6, cq6, by omega, by go_num, GO7, HR7, Q57, B97, RA7, HT7⟩
    case measure => have := HJ.out; simp [intOf]; omega
  clear GO B9 Q5 ef RA HTW
  obtain ⟨Aq, cq, GO, RU, B9, RA, HTW⟩ := hcut
  clear wr
  generalize wc = wr at *
  have hM : k47.M wr w.heap.size (fun k_ => True ∧ some k_ ≠ (Value.slice Ac k cc).ownBlock) (toCred c) [.string c.client.realm, .slice X2 c.client.names.length z2, .int .i32 c.client.kind, .string c.server.realm, .slice X5 c.server.names.length z5, .int .i32 c.server.kind, .int .i32 c.kt, .string (strOfNums c.key), .int .i64 c.t1, .int .i64 c.t2, .int .i64 c.t3, .int .i64 c.t4, .bool ik, .int .u32 (flagsOf c.fl), .slice Ap c.ad.length cp, .slice Aq c.au.length cq, .string (strOfNums c.tk), .string (strOfNums c.sc)] := by
    rw [HIK.out]
    exact k47_mkM wr w.heap.size _ (toCred c) (Kd.R_apart' GO.out.q2 (Kd.R_typed GO.out.rc) (by decide)) (Kd.R_apart' GO.out.q5 (Kd.R_typed GO.out.rc) (by decide))
      (v14 := .slice Ap c.ad.length cp) (Kd.R_apart' (Kd.R_mono (Kd.R_lower RA.out GO.out.ge) (fun _ _ => trivial)) (Kd.R_typed GO.out.rc) (by decide)) (v15 := .slice Aq c.au.length cq) (Kd.R_apart' (Kd.R_lower RU.out (Nat.le_trans GO.out.ge (Nat.le_of_lt HTS.out))) (Kd.R_typed GO.out.rc) (by decide))
  have HM := Aside0.mk hM
  have RC0 := Aside0.mk (Kd.R_mono GO.out.rc (ok' := fun _ => True) (fun _ _ => trivial))
  have b9 := B9.out
  unfold cred47 at b9
  rw [← HIK.out] at b9
  have B99 := Aside0.mk (show Box wr s_ 47 #[.string c.client.realm, .slice X2 c.client.names.length z2, .int .i32 c.client.kind, .string c.server.realm, .slice X5 c.server.names.length z5, .int .i32 c.server.kind, .int .i32 c.kt, .string (strOfNums c.key), .int .i64 c.t1, .int .i64 c.t2, .int .i64 c.t3, .int .i64 c.t4, .bool ik, .int .u32 (flagsOf c.fl), .slice Ap c.ad.length cp, .slice Aq c.au.length cq, .string (strOfNums c.tk), .string (strOfNums c.sc)] from b9)
  have ec : wr.cell? ⟨h2, 0, none⟩ = some (.slice Ac k cc) := GO.out.b2.cell 0 _ rfl
  have HNX := Aside0.mk (show (r.take k).map toCred ++ [toCred c] = (r.take (k + 1)).map toCred from by rw [List.take_add_one, HCr.out]; simp)
  have HLN := Aside0.mk (show ((r.take (k + 1)).map toCred).length = k + 1 from by have := HLT.out; have := HGL.out; simp; omega)
  have HZZ := Aside0.mk (show (((r.take k).map toCred).length + 1) * 240 ≤ 140737488355328 from by have := HLT.out; have := HGL4.out; simp; omega)
  have HSZ := Aside0.mk GO.out.bl.size
  have HSB := Aside0.mk (below_low (Below.refl _ wr) HSZ.out)
  clear hM b9
  go_upto_region 24 with fail
  clear hu47
  go_wp2_with (first | (((with_reducible refine gate_dst (N := 162) rfl ?_); refine load_row_event rfl (N := 162) rfl 47 (.tmp 9) s_ 47 _ _ rfl rfl B99.out Try.underlying47 rfl size47 ?_)) | ((with_reducible refine gate_builtin (b := .append) (xs := #[.tmp 161, .tmp 163]) rfl ?_); at_builtin; refine Kd.R_append k47 (w0 := wr) w.heap.size rfl (.tmp 161) (.tmp 163) 38 47 (.agg #[.string ⟨#[]⟩, .slice none 0 0, .int .i32 0, .string ⟨#[]⟩, .slice none 0 0, .int .i32 0, .int .i32 0, .string ⟨#[]⟩, .int .i64 0, .int .i64 0, .int .i64 0, .int .i64 0, .bool false, .int .u32 0, .slice none 0 0, .slice none 0 0, .string ⟨#[]⟩, .string ⟨#[]⟩]) 240 rfl Try.underlying38 info47 rfl (by decide) (by decide) (.slice Ac k cc) ((r.take k).map toCred) (toCred c) [.string c.client.realm, .slice X2 c.client.names.length z2, .int .i32 c.client.kind, .string c.server.realm, .slice X5 c.server.names.length z5, .int .i32 c.server.kind, .int .i32 c.kt, .string (strOfNums c.key), .int .i64 c.t1, .int .i64 c.t2, .int .i64 c.t3, .int .i64 c.t4, .bool ik, .int .u32 (flagsOf c.fl), .slice Ap c.ad.length cp, .slice Aq c.au.length cq, .string (strOfNums c.tk), .string (strOfNums c.sc)] (fun _ => True) (fun k_ => True ∧ some k_ ≠ (Value.slice Ac k cc).ownBlock) rfl rfl HM.out (fun _ h => h) (fun _ _ => trivial) RC0.out HSB.out HSZ.out HZZ.out ?_; intro v6 w6 hv6 hb6 hg6 hat6; rw [HNX.out] at hv6; obtain ⟨Ac6, cc6, ev6⟩ := Kd.R_slice hv6; rw [HLN.out] at ev6; subst ev6; have RC6 := Aside0.mk hv6; have ST6 := Aside0.mk (GO.out.st.kp (Kp.row RC0.out (by decide) hg6)); have B26 := Aside0.mk (GO.out.b2.row RC0.out (by decide) hg6); have BL6 := Aside0.mk (below_row GO.out.bl RC0.out hg6); have ec6 := B26.out.cell 0 (.slice Ac k cc) rfl; have fc6 := B26.out.free 0; clear hv6 hb6 hg6 hat6 ec))
  have ST7 := Aside0.mk (ST6.out.kp (Kp.set B26.out (by decide) 0 (.slice Ac6 (k + 1) cc6)))
  have B27 := Aside0.mk (B26.out.puts (cs' := #[.slice Ac6 (k + 1) cc6]) 0 (.slice Ac6 (k + 1) cc6) rfl)
  have RC7 := Aside0.mk (row_set RC6.out B26.out (by decide) 0 (.slice Ac6 (k + 1) cc6))
  have BL7 := Aside0.mk (show Below w.heap.size w (w6.setCell ⟨h2, 0, none⟩ (.slice Ac6 (k + 1) cc6)) from below_set BL6.out HN.out.2.1)
  clear ST6 B26 RC6 BL6 ec6 fc6 HM RC0 GO RA RU B9 B99
  go_roundw
  case rel =>
    have hj := HLT.out
    exact ⟨k + 1, Ac6, cc6, by omega, by go_num, ST7, B27, RC7, BL7⟩
  case measure => have := HLT.out; simp [intOf]; omega
end Go.Proofs.Ytnipcocllhfaoaa.B

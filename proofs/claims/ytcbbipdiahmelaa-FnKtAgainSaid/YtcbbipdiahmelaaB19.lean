/- A keytab is read and written again; under what each theorem states. Written by a program of this session. -/
import Derived.Test.YtcbbipdiahmelaaB18
namespace Go.Proofs.Ytcbbipdiahmelaa.B
open Go.RowKit Go.Proofs.YtcbbipdiahmelaaW.PrintWords Go.Proofs.YtcbbipdiahmelaaW.PrintLast
open Go.Proofs.Ytcbbipdiahmelaa.A (S25 S91 k91)
set_option linter.unusedVariables false
set_option linter.unusedSimpArgs false
set_option maxRecDepth 100000
theorem front9 (w : World) : ∃ w1, w1 = (w.alloc (.cells #[.string ⟨#[]⟩] 9)).alloc (.cells #[.bool false] 4) ∧ Box w1 w.heap.size 9 #[.string ⟨#[]⟩] ∧ Box w1 (w.heap.size + 1) 4 #[.bool false] ∧ Below w.heap.size w w1 :=
  ⟨_, rfl, (Box.new _ _ _).alloc _, Box.next _ _ _ _, below_alloc (below_alloc (Below.refl _ _) _) _⟩
set_option maxHeartbeats 4000000 in
theorem keytabAgain_reads (s : ByteArray) (C : List Chunk) (es : List S25) (w : World) (hs : s.size ≤ 1099511627776) (hD : bytesOf s = 5 :: 2 :: C.flatMap Chunk.bytes) (hC : C ≠ []) (hok : ∀ c ∈ C, c.Ok) (hcl : C.length ≤ 1000) (hes : C.flatMap Chunk.out = es.map pe) (hoe : ∀ e ∈ es, OkE e) (hle : es.length ≤ 1000) :
    Calls Try.prog 19 #[.string s] w fun x w' => x = .returned (.tuple #[.string (strOfNums (5 :: 2 :: es.flatMap entC)), .bool true]) ∧ Below w.heap.size w w' := by
  have hmf : ∀ (fn : Fn) (first cap : Array Value) (w : World), (Instr.makeFunc fn first cap).run Try.prog w = .ok (.func fn first cap) w := fun _ _ _ _ => rfl
  have HS := Aside0.mk hs
  have HU := Aside0.mk (show ∀ (gb gt B : Nat) (w1 : World), Box w1 gb 5 (nums .u8 (bytesOf s)).toArray → Box w1 gt 74 #[.int .u8 2, .slice none 0 0] → B ≤ gt → B ≤ w1.heap.size → Calls Try.prog 25 #[.pointer (some ⟨gt, 0, none⟩), .slice (some ⟨gb, 0, none⟩) (bytesOf s).length (bytesOf s).length] w1 fun e w' => ∃ A c, e = .returned .nilIface ∧ Box w' gt 74 #[.int .u8 2, .slice A es.length c] ∧ k91.R 91 w' w1.heap.size (fun _ => True) (.slice A es.length c) (es.map pe) ∧ Below B w1 w' from fun gb gt B w1 hb ht hB hBs => (unmarshal_reads gt gb B C (bytesOf s) w1 (okBytes_of hs) hD hC hok hcl hb ht hB hBs).mono (by
    rintro x w' ⟨A, n, c, rfl, h1, h2, h3⟩
    rw [hes] at h2
    have hn := (Kd.R_reads' h2).1
    rw [List.length_map] at hn
    subst hn
    exact ⟨A, c, rfl, h1, h2, h3⟩))
  have HOE := Aside0.mk (And.intro hoe hle)
  obtain ⟨res, hres⟩ : ∃ r, r = 5 :: 2 :: es.flatMap entC := ⟨_, rfl⟩
  have HRES := Aside0.mk hres
  rw [← hres]
  obtain ⟨rs, hrs⟩ : ∃ r, r = strOfNums res := ⟨_, rfl⟩
  have HRS := Aside0.mk hrs
  rw [← hrs]
  clear hrs
  clear hs hD hC hok hcl hes hoe hle hres
  go_enter_defers Try.func19, Try.ntmps19
  go_wp2_with fail
  obtain ⟨w1, hw1, b0, b1, hbl⟩ := front9 w
  rw [← hw1]
  have B0 := Aside0.mk b0
  have B1 := Aside0.mk b1
  have BL := Aside0.mk hbl
  clear hw1 b0 b1 hbl
  with_reducible refine (new_any _).mono ?_
  rintro e w2 ⟨gt, rfl, ht, hgt, hb⟩
  have B02 := Aside0.mk (B0.out.below hb)
  have B12 := Aside0.mk (B1.out.below hb)
  have T2 := Aside0.mk ht
  have BL2 := Aside0.mk (below_step BL.out hb)
  have GT := Aside0.mk (show w1.heap.size ≤ gt ∧ w1.heap.size ≤ w2.heap.size from ⟨by omega, hb.size⟩)
  clear ht hgt hb
  go_wp2_with fail
  with_reducible refine (exact_any s _ HS.out).mono ?_
  rintro e w3 ⟨gb, rfl, hx, hge, hb⟩
  have B03 := Aside0.mk (B02.out.below hb)
  have B13 := Aside0.mk (B12.out.below hb)
  have T3 := Aside0.mk (T2.out.below hb)
  have X3 := Aside0.mk hx
  have BL3 := Aside0.mk (below_step BL2.out hb)
  have GT3 := Aside0.mk (show w1.heap.size ≤ gt ∧ w1.heap.size ≤ w3.heap.size from ⟨GT.out.1, Nat.le_trans GT.out.2 hb.size⟩)
  have H1 := Aside0.mk (show w.heap.size < w1.heap.size ∧ w.heap.size + 1 < w1.heap.size from ⟨B0.out.lt, B1.out.lt⟩)
  clear hx hge hb B02 B12 T2 BL2 GT B0 B1
  go_wp2_with fail
  with_reducible refine (HU.out gb gt w1.heap.size w3 X3.out T3.out GT3.out.1 GT3.out.2).mono ?_
  rintro e w4 ⟨Ae, ce, rfl, ht, hv, hb⟩
  have B04 := Aside0.mk (B03.out.low hb H1.out.1)
  have B14 := Aside0.mk (B13.out.low hb H1.out.2)
  have T4 := Aside0.mk ht
  have V4 := Aside0.mk hv
  have HS4 := Aside0.mk (show w.heap.size ≤ w4.heap.size from Nat.le_trans (Nat.le_of_lt H1.out.1) (Nat.le_trans GT3.out.2 hb.size))
  have BL4 := Aside0.mk (low_trans BL3.out (low_weaken hb (Nat.le_of_lt H1.out.1) BL3.out.size))
  clear hb ht hv B03 B13 T3 X3 BL3 GT3
  go_wp2_with fail
  refine (marshal_any gt w3.heap.size Ae ce es w4 T4.out V4.out HOE.out.1 HOE.out.2).mono ?_
  rw [← HRES.out]
  rintro e w5 ⟨A5, n5, c5, rfl, hv, hb⟩
  have B05 := Aside0.mk (B04.out.below hb)
  have B15 := Aside0.mk (B14.out.below hb)
  have V5 := Aside0.mk hv
  have BL5 := Aside0.mk (low_below BL4.out HS4.out hb)
  clear hb hv B04 B14 T4 V4 BL4 HS4 H1
  go_upto_region 6 with fail
  obtain ⟨wx, hwx⟩ : ∃ z, z = w5.drew := ⟨_, rfl⟩
  have hbd : Below w5.heap.size w5 wx := hwx ▸ below_drew (Below.refl _ _)
  have B06 := Aside0.mk (B05.out.below hbd)
  have B16 := Aside0.mk (B15.out.below hbd)
  have BL6 := Aside0.mk (below_step BL5.out hbd)
  have hcv := Aside0.mk (show (convert 35 9 (.slice A5 n5 c5)).run Try.prog wx = .ok (.string rs) wx from by
    rw [HRS.out]
    exact own_string (P := Try.prog) Try.underlying35 Try.underlying5 Try.underlying9 (Kd.own_of_R (Kd.R_below V5.out hbd)))
  have HNE := Aside0.mk (B05.out.ne B15.out (by decide))
  clear hbd B05 B15 BL5 V5
  refine wp_region_noPanic ?_
  refine start_ (n := 6) (S := fun w' => True) (ds := []) #[false, false, false, false, false, false] (by kernel_rfl) rfl rfl trivial (fun hHeld => ?_)
  rw [← hwx]
  clear hwx
  refine pure_ (i := 0) (N := some 19) (v := ?_) (a' := ?_) #[true, false, false, false, false, false] rfl rfl (by kernel_rfl) (fun _ _ _ h => h) (Or.inl ⟨by rfl, ?_⟩) ?_ ?_
  rotate_left
  · intro w'
    go_simp
    with_reducible rfl
  rotate_left
  · simp only [Act.put, List.setIfInBounds_toArray, List.set_cons_zero, List.set_cons_succ, i64_w, i32_w]
    rfl
  refine pure_ (i := 2) (N := some 21) (v := ?_) (a' := ?_) #[true, false, true, false, false, false] rfl rfl (by kernel_rfl) (fun _ _ _ h => h) (Or.inl ⟨by rfl, ?_⟩) ?_ ?_
  rotate_left
  · intro w'
    go_simp
    with_reducible rfl
  rotate_left
  · simp only [Act.put, List.setIfInBounds_toArray, List.set_cons_zero, List.set_cons_succ, i64_w, i32_w]
    rfl
  refine pure_ (i := 3) (N := some 22) (v := ?_) (a' := ?_) #[true, false, true, true, false, false] rfl rfl (by kernel_rfl) (fun _ _ _ h => h) (Or.inl ⟨by rfl, ?_⟩) ?_ ?_
  rotate_left
  · intro w'
    go_simp
    with_reducible rfl
  rotate_left
  · simp only [Act.put, List.setIfInBounds_toArray, List.set_cons_zero, List.set_cons_succ, i64_w, i32_w]
    rfl
  refine one_ (i := 1) (N := some 20) #[true, true, true, true, false, false] rfl rfl (by kernel_rfl) (by decide) (fun K hK => ?_)
  have hcv_ := hcv.out
  refine value_ (w1 := ?_) (v := ?_) (by rfl) rfl ?_ ?_
  rotate_left 2
  · go_simp
    constructor
    · rfl
    · rfl
  clear hcv_ hcv
  refine hK.out _ _ trivial (fun hHeld => ?_)
  clear hK K
  refine norm_ (a' := ?_) ?_ ?_
  rotate_left
  · show Act.put _ (some 20) _ = _
    simp only [Act.put, List.setIfInBounds_toArray, List.set_cons_zero, List.set_cons_succ, i64_w, i32_w]
    rfl
  refine one_ (i := 4) (N := none) #[true, true, true, true, true, false] rfl rfl (by kernel_rfl) (by decide) (fun K hK => ?_)
  have c0_ := B06.out.cell 0 _ rfl
  have f0_ := B06.out.free 0
  refine skip_ (w1 := ?_) (by rfl) rfl ?_ ?_
  rotate_left
  · go_simp
    rfl
  clear c0_ f0_
  refine hK.out _ _ trivial (fun hHeld => ?_)
  clear hK K
  refine one_ (i := 5) (N := none) #[true, true, true, true, true, true] rfl rfl (by kernel_rfl) (by decide) (fun K hK => ?_)
  have c1_ := (B16.out.far HNE.out.symm 0 (.string rs)).cell 0 _ rfl
  have f1_ := (B16.out.far HNE.out.symm 0 (.string rs)).free 0
  refine skip_ (w1 := ?_) (by rfl) rfl ?_ ?_
  rotate_left
  · go_simp
    rfl
  clear c1_ f1_
  refine hK.out _ _ trivial (fun hHeld => ?_)
  clear hK K
  refine done_ (by kernel_rfl) ?_
  
  refine NoPanic.normal ?_
  have k0 := ((B06.out.puts 0 (.string rs) rfl).far HNE.out 0 (.bool true)).cell 0 (.string rs) rfl
  have k1 := ((B16.out.far HNE.out.symm 0 (.string rs)).puts 0 (.bool true) rfl).cell 0 (.bool true) rfl
  have HBL := Aside0.mk (low_set (low_set BL6.out (Nat.le_refl _) 0 (.string rs)) (Nat.le_succ _) 0 (.bool true))
  go_wp2_with fail
  refine leaves_cons (f := 33) (args := #[.pointer (some ⟨w.heap.size, 0, none⟩), .pointer (some ⟨w.heap.size + 1, 0, none⟩)]) (by simp) (by simp [go_sem]) ?_
  refine (idle33 _ _ _).mono ?_
  rintro e u' w'' ⟨rfl, rfl, rfl⟩
  clear B06 B16 BL6 hHeld
  generalize (wx.setCell ⟨w.heap.size, 0, none⟩ (.string rs)).setCell ⟨w.heap.size + 1, 0, none⟩ (.bool true) = wz at *
  simp [Leaves, settle, results, Try.results19, go_sem] at *
  simp [k0, k1]
  exact HBL.out
end Go.Proofs.Ytcbbipdiahmelaa.B

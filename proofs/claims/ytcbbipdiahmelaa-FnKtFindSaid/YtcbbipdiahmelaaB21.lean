/- Times are compared; under what each theorem states. Written by a program of this session. -/
import Derived.Test.YtcbbipdiahmelaaB7
namespace Go.Proofs.Ytcbbipdiahmelaa.B
open Go.RowKit Go.Proofs.YtcbbipdiahmelaaW.PrintWords Go.Proofs.YtcbbipdiahmelaaW.PrintLast
set_option linter.unusedVariables false
set_option linter.unusedSimpArgs false
set_option maxRecDepth 100000
/-- The seconds of a time; one that has not been set is that of the year 1. -/
def unixOf (n : Int) (b : Bool) : Int := if b = true then n else -62135596800
set_option maxHeartbeats 800000 in
theorem unixB_any (n : Int) (b : Bool) (w : World) : Calls Try.prog 49 #[.agg #[.int .i64 n, .bool b]] w fun e w' => e = .returned (.int .i64 (unixOf n b)) ∧ Below w.heap.size w w' := by
  cases b
  · go_enter Try.func49, Try.ntmps49
    go_wp2_with fail
    go_ret
    exact ⟨rfl, below_alloc (Below.refl _ _) _⟩
  · go_enter Try.func49, Try.ntmps49
    go_wp2_with fail
    go_ret
    exact ⟨rfl, below_alloc (Below.refl _ _) _⟩
theorem two89 (w : World) (n m : Int) (b c : Bool) : ∃ w1, w1 = (w.alloc (.cells #[.int .i64 n, .bool b] 89)).alloc (.cells #[.int .i64 m, .bool c] 89) ∧ Box w1 w.heap.size 89 #[.int .i64 n, .bool b] ∧ Box w1 (w.heap.size + 1) 89 #[.int .i64 m, .bool c] ∧ Below w.heap.size w w1 :=
  ⟨_, rfl, (Box.new _ _ _).alloc _, Box.next _ _ _ _, below_alloc (below_alloc (Below.refl _ _) _) _⟩
set_option maxHeartbeats 4000000 in
theorem after_any (n m : Int) (b c : Bool) (w : World) : Calls Try.prog 45 #[.agg #[.int .i64 n, .bool b], .agg #[.int .i64 m, .bool c]] w fun e w' => e = .returned (.bool (decide (unixOf m c < unixOf n b))) ∧ Below w.heap.size w w' := by
  have hu89 := Try.underlying89
  go_enter Try.func45, Try.ntmps45
  go_upto_region 1 with fail
  obtain ⟨w1, hw1, b0, b1, hbl⟩ := two89 w n m b c
  rw [← hw1]
  obtain ⟨wx, hwx⟩ : ∃ z, z = w1.drew := ⟨_, rfl⟩
  have hbd : Below w1.heap.size w1 wx := hwx ▸ below_drew (Below.refl _ _)
  have P0 := Aside0.mk (b0.below hbd)
  have P1 := Aside0.mk (b1.below hbd)
  have BL := Aside0.mk (below_step hbl hbd)
  clear hw1 b0 b1 hbl hbd
  refine start_ (n := 6) (S := fun w' => w'.cell? ⟨w.heap.size, 0, none⟩ = some (.int .i64 n) ∧ w'.cell? ⟨w.heap.size, 1, none⟩ = some (.bool b) ∧ w'.cell? ⟨w.heap.size + 1, 0, none⟩ = some (.int .i64 m) ∧ w'.cell? ⟨w.heap.size + 1, 1, none⟩ = some (.bool c)) (ds := []) #[false, false, false, false, false, false] (by kernel_rfl) rfl rfl ⟨(hwx ▸ (show _ from (Box.cell P0.out 0 _ rfl))), (hwx ▸ (show _ from (Box.cell P0.out 1 _ rfl))), (hwx ▸ (show _ from (Box.cell P1.out 0 _ rfl))), (hwx ▸ (show _ from (Box.cell P1.out 1 _ rfl)))⟩ (fun hHeld => ?_)
  rw [← hwx] at hHeld ⊢
  clear hwx
  refine take_ (i := 0) (N := some 5) (v := ?_) (a' := ?_) #[true, false, false, false, false, false] rfl rfl (by kernel_rfl) (fun _ _ _ h => h) (Or.inl ⟨by rfl, ?_⟩) hHeld ?_ ?_
  rotate_left
  · rintro w' ⟨s0, s1, s2, s3⟩
    go_simp
    with_reducible rfl
  rotate_left
  · simp only [Act.put, List.setIfInBounds_toArray, List.set_cons_zero, List.set_cons_succ, i64_w, i32_w]
    rfl
  refine take_ (i := 2) (N := some 7) (v := ?_) (a' := ?_) #[true, false, true, false, false, false] rfl rfl (by kernel_rfl) (fun _ _ _ h => h) (Or.inl ⟨by rfl, ?_⟩) hHeld ?_ ?_
  rotate_left
  · rintro w' ⟨s0, s1, s2, s3⟩
    go_simp
    with_reducible rfl
  rotate_left
  · simp only [Act.put, List.setIfInBounds_toArray, List.set_cons_zero, List.set_cons_succ, i64_w, i32_w]
    rfl
  refine one_ (i := 1) (N := some 6) #[true, true, true, false, false, false] rfl rfl (by kernel_rfl) (by decide) (fun K hK => ?_)
  refine goes_ Try.func49 (by kernel_rfl) rfl #[.agg #[.int .i64 n, .bool b]] (by rfl) rfl rfl (by simp only [List.map_toArray, List.map_cons, List.map_nil]; rfl) ?_
  with_reducible refine (unixB_any n b _).mono ?_
  rintro e_ wY1 ⟨rfl, hb_⟩
  refine ⟨_, rfl, ?_⟩
  have P01 := Aside0.mk (P0.out.below hb_)
  have P11 := Aside0.mk (P1.out.below hb_)
  have BL1 := Aside0.mk (below_step BL.out hb_)
  clear hb_ P0 P1 BL
  refine hK.out _ _ ⟨(Box.cell P01.out 0 _ rfl), (Box.cell P01.out 1 _ rfl), (Box.cell P11.out 0 _ rfl), (Box.cell P11.out 1 _ rfl)⟩ (fun hHeld => ?_)
  clear hK K
  refine norm_ (a' := ?_) ?_ ?_
  rotate_left
  · show Act.put _ (some 6) _ = _
    simp only [Act.put, List.setIfInBounds_toArray, List.set_cons_zero, List.set_cons_succ, i64_w, i32_w]
    rfl
  refine one_ (i := 3) (N := some 8) #[true, true, true, true, false, false] rfl rfl (by kernel_rfl) (by decide) (fun K hK => ?_)
  refine goes_ Try.func49 (by kernel_rfl) rfl #[.agg #[.int .i64 m, .bool c]] (by rfl) rfl rfl (by simp only [List.map_toArray, List.map_cons, List.map_nil]; rfl) ?_
  with_reducible refine (unixB_any m c _).mono ?_
  rintro e_ wY2 ⟨rfl, hb_⟩
  refine ⟨_, rfl, ?_⟩
  have P02 := Aside0.mk (P01.out.below hb_)
  have P12 := Aside0.mk (P11.out.below hb_)
  have BL2 := Aside0.mk (below_step BL1.out hb_)
  clear hb_ P01 P11 BL1
  refine hK.out _ _ ⟨(Box.cell P02.out 0 _ rfl), (Box.cell P02.out 1 _ rfl), (Box.cell P12.out 0 _ rfl), (Box.cell P12.out 1 _ rfl)⟩ (fun hHeld => ?_)
  clear hK K
  refine norm_ (a' := ?_) ?_ ?_
  rotate_left
  · show Act.put _ (some 8) _ = _
    simp only [Act.put, List.setIfInBounds_toArray, List.set_cons_zero, List.set_cons_succ, i64_w, i32_w]
    rfl
  refine pure_ (i := 4) (N := some 9) (v := ?_) (a' := ?_) #[true, true, true, true, true, false] rfl rfl (by kernel_rfl) (fun _ _ _ h => h) (Or.inl ⟨by rfl, ?_⟩) ?_ ?_
  rotate_left
  · intro w'
    go_simp
    with_reducible rfl
  rotate_left
  · simp only [Act.put, List.setIfInBounds_toArray, List.set_cons_zero, List.set_cons_succ, i64_w, i32_w]
    rfl
  refine pure_ (i := 5) (N := some 4) (v := ?_) (a' := ?_) #[true, true, true, true, true, true] rfl rfl (by kernel_rfl) (fun _ _ _ h => h) (Or.inl ⟨by rfl, ?_⟩) ?_ ?_
  rotate_left
  · intro w'
    go_simp
    with_reducible rfl
  rotate_left
  · simp only [Act.put, List.setIfInBounds_toArray, List.set_cons_zero, List.set_cons_succ, i64_w, i32_w]
    rfl
  refine done_ (by kernel_rfl) ?_
  
  clear hHeld
  go_wp2_with fail
  go_ret
  exact ⟨rfl, BL2.out⟩
end Go.Proofs.Ytcbbipdiahmelaa.B

/- Readers of one and four bytes and of so many; under what each theorem states. -/
import Derived.Test.YtnipcocllhfaoaaB1
namespace Go.Proofs.Ytnipcocllhfaoaa.B
open Go.RowKit Go.Proofs.YtnipcocllhfaoaaW.PrintWords Go.Proofs.YtnipcocllhfaoaaW.PrintLast
set_option linter.unusedVariables false
set_option linter.unusedSimpArgs false
set_option maxRecDepth 100000
theorem r16_le {l : List Int} {p p' : Nat} {a : Int} (h : r16 l p = some (a, p')) : p' ≤ l.length ∧ p ≤ p' := by
  unfold r16 at h; split at h
  · obtain ⟨rfl, rfl⟩ := Prod.mk.inj (Option.some.inj h); omega
  · cases h
theorem r32_le {l : List Int} {p p' : Nat} {a : Int} (h : r32 l p = some (a, p')) : p' ≤ l.length ∧ p ≤ p' ∧ -2147483648 ≤ a ∧ a < 2147483648 := by
  unfold r32 at h; split at h
  · obtain ⟨rfl, rfl⟩ := Prod.mk.inj (Option.some.inj h); unfold wrap32; omega
  · cases h
theorem r8_le {l : List Int} {p p' : Nat} {a : Int} (h : r8 l p = some (a, p')) : p' ≤ l.length ∧ p ≤ p' := by
  unfold r8 at h; split at h
  · obtain ⟨rfl, rfl⟩ := Prod.mk.inj (Option.some.inj h); omega
  · cases h
theorem rBytes_le {l : List Int} {p p' : Nat} {s : Int} {a : List Int} (h : rBytes l p s = some (a, p')) : p' ≤ l.length ∧ p ≤ p' := by
  unfold rBytes at h; split at h
  · obtain ⟨rfl, rfl⟩ := Prod.mk.inj (Option.some.inj h); omega
  · cases h
set_option maxHeartbeats 1600000 in
theorem readInt32_any (gb gp ge p : Nat) (l : List Int) (w : World) (hl : okBytes l) (hs : Src w gb ge l) (hp : Pos w gp p) (hpl : p ≤ l.length) :
    Calls Try.prog 56 #[.slice (some ⟨gb, 0, none⟩) l.length l.length, .pointer (some ⟨gp, 0, none⟩), .pointer (some ⟨ge, 0, none⟩)] w (Ret (fun a v _ => v = .int .i32 a) w gp (r32 l p)) := by
  have hl1 := hl.1
  have c1 := hp.cell
  have c2 := hs.end_
  have f1 := hp.free
  have hgp : gp < w.heap.size := blk_lt hp
  have hw : IntKind.i64.wrap ((p : Int) + 4) = (p : Int) + 4 := wrap_i64 (by omega) (by omega)
  have nA : ∀ w : World, (nilAhead 267 119 (.agg #[]) "Uint32").run Try.prog w = .ok (some false) w := fun w => by kernel_rfl
  have nM : ∀ w : World, (method 267 119 (.agg #[]) "Uint32").run Try.prog w = .ok (88, .agg #[]) w := fun w => by kernel_rfl
  unfold r32
  by_cases h : p + 4 ≤ l.length
  · rw [if_pos h]
    obtain ⟨i0, hi0, _, hsz, _⟩ := info_parts info5
    obtain ⟨A', hsl, hA'⟩ := cut_ok (P := Try.prog) 83 5 Try.underlying83 hi0 hsz gb l.length p (p + 4) (by omega) (by omega) (by omega)
    obtain rfl := hA' (by omega)
    rw [show ((p : Int) + 4 - p).toNat = 4 from by omega, Int.toNat_natCast] at hsl
    have k0 := hs.cell p (by omega)
    have k1 := hs.cell (p + 1) (by omega)
    have k2 := hs.cell (p + 2) (by omega)
    have k3 := hs.cell (p + 3) (by omega)
    obtain ⟨b0, b0'⟩ := hl.at_ p
    obtain ⟨b1, b1'⟩ := hl.at_ (p + 1)
    obtain ⟨b2, b2'⟩ := hl.at_ (p + 2)
    obtain ⟨b3, b3'⟩ := hl.at_ (p + 3)
    have HP := Aside0.mk hp
    have HB0 := Aside0.mk b0
    have HB1 := Aside0.mk b1
    have HB2 := Aside0.mk b2
    have HB3 := Aside0.mk b3
    have HC0 := Aside0.mk b0'
    have HC1 := Aside0.mk b1'
    have HC2 := Aside0.mk b2'
    have HC3 := Aside0.mk b3'
    have HK := Aside0.mk k0
    have HK1 := Aside0.mk k1
    have HK2 := Aside0.mk k2
    have HK3 := Aside0.mk k3
    have HU := Aside0.mk (show u32 l p = l.getD p 0 * 16777216 + (l.getD (p + 1) 0 * 65536 + (l.getD (p + 2) 0 * 256 + l.getD (p + 3) 0)) from rfl)
    generalize l.getD p 0 = x0 at *
    generalize l.getD (p + 1) 0 = x1 at *
    generalize l.getD (p + 2) 0 = x2 at *
    generalize l.getD (p + 3) 0 = x3 at *
    clear hs hp hl hA' hi0 k0 k1 k2 k3 b0 b1 b2 b3 b0' b1' b2' b3'
    go_enter Try.func56, Try.ntmps56
    go_wp2
    go_still_tail 14, (by kernel_rfl)
    change wpList _ _ _ _ _ w.drew
    go_wp2_with (go_at_call 88; refine (be32_any gb p _ x0 x1 x2 x3 w.drew HK.out HK1.out HK2.out HK3.out HB0.out HC0.out HB1.out HC1.out HB2.out HC2.out HB3.out HC3.out).mono ?_; rintro e w1 ⟨rfl, hb⟩; have HP1 := Aside0.mk (HP.out.below (below_step (below_drew (Below.refl _ _)) hb)); have d1 := HP1.out.cell; have d2 := HP1.out.free; have HB := Aside0.mk hb; clear hb)
    go_ret
    refine ⟨⟨_, rfl, ?_⟩, grown_set (grown_below (grown_drew (World.grownBy.refl w _)) HB.out) (.inr rfl), ?_⟩
    · show Value.int .i32 (wrap32 (x0 * 16777216 + (x1 * 65536 + (x2 * 256 + x3)))) = _; rw [HU.out]
    · exact HP1.out.put (p + 4)
  · rw [if_neg h]
    obtain ⟨v, k, hsl⟩ := cut_dies (P := Try.prog) 83 5 Try.underlying83 (some ⟨gb, 0, none⟩) l.length p (p + 4) (by omega)
    go_enter Try.func56, Try.ntmps56
    go_wp2
    go_region_dies
    all_goals exact ⟨rfl, ⟨_, _⟩, grown_drewN (World.grownBy.refl _ _) _⟩
set_option maxHeartbeats 1600000 in
theorem readInt8_any (gb gp ge p : Nat) (l : List Int) (w : World) (hl : okBytes l) (hs : Src w gb ge l) (hp : Pos w gp p) (hpl : p ≤ l.length) :
    Calls Try.prog 60 #[.slice (some ⟨gb, 0, none⟩) l.length l.length, .pointer (some ⟨gp, 0, none⟩), .pointer (some ⟨ge, 0, none⟩)] w (Ret (fun a v _ => v = .int .i8 a) w gp (r8 l p)) := by
  have hl1 := hl.1
  have c1 := hp.cell
  have f1 := hp.free
  have hgp : gp < w.heap.size := blk_lt hp
  have hw : IntKind.i64.wrap ((p : Int) + 1) = (p : Int) + 1 := wrap_i64 (by omega) (by omega)
  unfold r8
  by_cases h : p + 1 ≤ l.length
  · rw [if_pos h]
    have k0 := hs.cell p (by omega)
    have hp0 : (0 : Int) ≤ (p : Int) := by omega
    have hp1 : (p : Int) < (l.length : Int) := by omega
    have HP := Aside0.mk hp
    generalize l.getD p 0 = x0 at *
    clear hs hp hl
    go_enter Try.func60, Try.ntmps60
    go_wp2
    go_ret
    exact ⟨⟨_, rfl, rfl⟩, grown_set (World.grownBy.refl w _) (.inr rfl), HP.out.put (p + 1)⟩
  · rw [if_neg h]
    have hh : ¬ ((p : Int) < (l.length : Int)) := by omega
    obtain ⟨v, k, hb⟩ := run_bounds (α := Value) Try.prog .i64 (p : Int) (l.length : Int) .index
    go_enter Try.func60, Try.ntmps60
    go_wp2
    exact ⟨rfl, ⟨_, _⟩, grown_drewN (World.grownBy.refl _ _) _⟩
set_option maxHeartbeats 1600000 in
theorem readBytes_any (gb gp ge p : Nat) (s : Int) (l : List Int) (w : World) (hl : okBytes l) (hs : Src w gb ge l) (hp : Pos w gp p) (hpl : p ≤ l.length) (h31 : -4294967296 ≤ s ∧ s ≤ 4294967296) :
    Calls Try.prog 57 #[.slice (some ⟨gb, 0, none⟩) l.length l.length, .pointer (some ⟨gp, 0, none⟩), .int .i64 s, .pointer (some ⟨ge, 0, none⟩)] w (Ret (fun a v w' => (Kd.int .u8).R 5 w' w.heap.size (fun _ => True) v a) w gp (rBytes l p s)) := by
  have hl1 := hl.1
  have c1 := hp.cell
  have f1 := hp.free
  have hgp : gp < w.heap.size := blk_lt hp
  have hw : IntKind.i64.wrap ((p : Int) + s) = (p : Int) + s := wrap_i64 (by omega) (by omega)
  unfold rBytes
  by_cases h : 0 ≤ s ∧ p + s ≤ l.length
  · rw [if_pos h]
    obtain ⟨h0, h1⟩ := h
    obtain ⟨i0, hi0, _, hsz, _⟩ := info_parts info5
    obtain ⟨A', hsl, hA'⟩ := cut_ok (P := Try.prog) 83 5 Try.underlying83 hi0 hsz gb l.length p (p + s) (by omega) (by omega) (by omega)
    rw [show ((p : Int) + s - p).toNat = s.toNat from by omega, Int.toNat_natCast] at hsl
    have HRow : Aside0 (ReadsRow (fun (x : Int) (cs : List Value) => cs = [.int .u8 x]) 1 w A' s.toNat ((l.drop p).take s.toNat)) := by
      refine ⟨Kd.C_of_reads (d := (0 : Int)) (h1 := fun _ => rfl) ⟨by rw [List.length_take, List.length_drop]; omega, by omega, fun hm => ⟨_, hA' (by omega), fun j hj => ?_⟩⟩⟩
      rw [Int.toNat_natCast, add_at, hs.cell (p + j) (by omega)]
      simp [List.getD_eq_getElem?_getD, List.getElem?_take, List.getElem?_drop, hj]
    have HP := Aside0.mk hp
    have HS := Aside0.mk hs
    have HL : ((l.drop p).take s.toNat).length = s.toNat := by rw [List.length_take, List.length_drop]; omega
    have hsn : s.toNat ≤ 140737488355328 := by omega
    clear hp hs hA' hl
    generalize hys : (l.drop p).take s.toNat = ys at *
    generalize hm : s.toNat = m at *
    have HYS := Aside0.mk hys
    have HM := Aside0.mk hm
    have HLL := Aside0.mk HL
    have H0 := Aside0.mk h0
    have H1 := Aside0.mk h1
    have HO0 := Aside0.mk (show (Kd.int .u8).R 5 (w.alloc (Obj.cells #[] 5)).drew w.heap.size (fun _ => True) (.slice (some ⟨w.heap.size, 0, none⟩) 0 0) ([] : List Int) from Kd.R_drew (Kd.R_of_own (own_lit w w.heap.size 5 .u8 [] (Nat.le_refl _) (by simp)) (fun _ _ => trivial)))
    have HZ := Aside0.mk (show w.heap.size ≤ (w.alloc (Obj.cells #[] 5)).drew.heap.size from below_size (below_drew (below_alloc (Below.refl _ _) _)))
    clear hys hm HL h0 h1
    go_enter Try.func57, Try.ntmps57
    go_wp2
    go_region_held3 (fun W => W.cell? ⟨gp, 0, none⟩ = some (.int .i64 p)) (go_keep)
      (((with_reducible refine gate_step (N := 21) rfl ?_); refine Kd.R_append_rows_step (Kd.int .u8) (Rr := fun (x : Int) (cs : List Value) => cs = [.int .u8 x]) (w0 := w) w.heap.size (by rfl) (.tmp 10) (.tmp 20) 83 5 (.int .u8 0) 1 (by rfl) Try.underlying83 info5 rfl (by decide) (by decide) (.slice (some ⟨w.heap.size, 0, none⟩) 0 0) ([] : List Int) ys A' m _ (fun _ => True) (fun _ => False) (by rfl) (by rfl) HO0.out (ReadsRow.imp_ HRow.out (below_drew (below_alloc (Below.refl _ _) _)) (fun _ _ h => h)) (fun _ _ h => h) (fun _ h => h.elim) (fun _ _ => trivial) (below_drew (below_alloc (Below.refl _ _) _)) HZ.out (by simp; omega) ?_; intro v1 w1 ho hb hg hat; have HO := Aside0.mk ho; have HB := Aside0.mk hb; have hcc : w1.cell? ⟨gp, 0, none⟩ = some (.int .i64 p) := (hb.cell hgp).trans c1; clear ho hb hg hat))
    have HF := Aside0.mk (show w1.frozen? ⟨gp, 0, none⟩ = false from (HB.out.frozen hgp).trans f1)
    have hff := HF.out
    go_wp2
    go_ret
    refine ⟨⟨_, rfl, ?_⟩, grown_set (grown_below (World.grownBy.refl w _) HB.out) (.inr rfl), ?_⟩
    · have h2 := HO.out
      rw [List.nil_append] at h2
      exact Kd.R_set h2 (HP.out.below HB.out) (by decide) 0 _
    · have h2 := (HP.out.below HB.out).put (p + m)
      rwa [show (((p + m : Nat) : Int)) = (p : Int) + s from by have := HM.out; have := H0.out; omega] at h2
  · rw [if_neg h]
    obtain ⟨v, k, hsl⟩ := cut_dies (P := Try.prog) 83 5 Try.underlying83 (some ⟨gb, 0, none⟩) l.length p (p + s) (by omega)
    go_enter Try.func57, Try.ntmps57
    go_wp2
    go_region_dies
    all_goals exact ⟨rfl, ⟨_, _⟩, by with_reducible repeat (first | exact World.grownBy.refl _ _ | apply grown_drewN | apply grown_drew | apply grown_alloc)⟩
end Go.Proofs.Ytnipcocllhfaoaa.B

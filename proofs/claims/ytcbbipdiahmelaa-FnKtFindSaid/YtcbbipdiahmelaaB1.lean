/- Readers of bytes, the highest first, where these stand; under what each theorem states. -/
import Derived.Test.YtcbbipdiahmelaaB0
import Derived.RegionDies
namespace Go.Proofs.Ytcbbipdiahmelaa.B
open Go.RowKit Go.Proofs.YtcbbipdiahmelaaW.PrintWords Go.Proofs.YtcbbipdiahmelaaW.PrintLast
set_option linter.unusedVariables false
set_option linter.unusedSimpArgs false
set_option maxRecDepth 100000
set_option maxHeartbeats 800000 in
theorem be16_any (b o c : Nat) (x0 x1 : Int) (w : World) (k0 : w.cell? ⟨b, o, none⟩ = some (.int .u8 x0)) (k1 : w.cell? ⟨b, o + 1, none⟩ = some (.int .u8 x1))
    (h0 : 0 ≤ x0) (h0' : x0 < 256) (h1 : 0 ≤ x1) (h1' : x1 < 256) :
    Calls Try.prog 73 #[.agg #[], .slice (some ⟨b, o, none⟩) 2 c] w fun e w' => e = .returned (.int .u16 (x0 * 256 + x1)) ∧ Below w.heap.size w w' := by
  have hb : b < w.heap.size := World.block_lt_of_cell? w _ k0
  have j := Aside0.mk (join16 x1 x0 h1 h1' h0 h0')
  go_enter Try.func73, Try.ntmps73
  go_wp2
  go_quiet (fail)
  go_wp2
  go_ret
  refine ⟨?_, pw_below_drewN (below_alloc (Below.refl _ _) _) _⟩
  show Ending.returned (.int .u16 (bits BinOp.or IntKind.u16 x1 (x0 * 256))) = _
  rw [j.out]
set_option maxHeartbeats 1600000 in
theorem be32_any (b o c : Nat) (x0 x1 x2 x3 : Int) (w : World) (k0 : w.cell? ⟨b, o, none⟩ = some (.int .u8 x0)) (k1 : w.cell? ⟨b, o + 1, none⟩ = some (.int .u8 x1)) (k2 : w.cell? ⟨b, o + 2, none⟩ = some (.int .u8 x2)) (k3 : w.cell? ⟨b, o + 3, none⟩ = some (.int .u8 x3))
    (h0 : 0 ≤ x0) (h0' : x0 < 256) (h1 : 0 ≤ x1) (h1' : x1 < 256) (h2 : 0 ≤ x2) (h2' : x2 < 256) (h3 : 0 ≤ x3) (h3' : x3 < 256) :
    Calls Try.prog 74 #[.agg #[], .slice (some ⟨b, o, none⟩) 4 c] w fun e w' => e = .returned (.int .u32 (x0 * 16777216 + (x1 * 65536 + (x2 * 256 + x3)))) ∧ Below w.heap.size w w' := by
  have hb : b < w.heap.size := World.block_lt_of_cell? w _ k0
  have j := Aside0.mk (join8 x3 x2 h3 h3' h2 h2')
  have j2 := Aside0.mk (join2 (x2 * 256 + x3) x1 (by omega) (by omega) h1 h1')
  have j3 := Aside0.mk (join3 (x1 * 65536 + (x2 * 256 + x3)) x0 (by omega) (by omega) h0 h0')
  go_enter Try.func74, Try.ntmps74
  go_wp2
  go_quiet (fail)
  go_wp2
  go_ret
  refine ⟨?_, pw_below_drewN (below_alloc (Below.refl _ _) _) _⟩
  show Ending.returned (.int .u32 (bits BinOp.or IntKind.u32 (bits BinOp.or IntKind.u32 (bits BinOp.or IntKind.u32 x3 (x2 * 256)) (x1 * 65536)) (x0 * 16777216))) = _
  rw [j.out, j2.out, j3.out]
theorem info5 : (Try.prog.info? 5).map (fun i => (i.zero, i.size, i.bytes)) = some (some (.int .u8 0), 1, 1) := by kernel_rfl
/-- What stands behind a place. -/
theorem drop_getD {D : List Int} {q : Nat} {a : Int} {rest : List Int} (h : D.drop q = a :: rest) : D.getD q 0 = a ∧ D.drop (q + 1) = rest ∧ q < D.length := by
  have hl : q < D.length := by rcases Nat.lt_or_ge q D.length with h1 | h1; exact h1; rw [List.drop_eq_nil_of_le h1] at h; cases h
  rw [List.drop_eq_getElem_cons hl] at h
  injection h with h1 h2
  exact ⟨by rw [List.getD_eq_getElem?_getD, List.getElem?_eq_getElem hl]; exact h1, h2, hl⟩

set_option maxHeartbeats 1600000 in
theorem readInt16_at (gb gp ge o m c p : Nat) (D rest : List Int) (x0 x1 : Int) (w : World) (hl : okBytes D) (hs : Src w gb ge D) (hp : Pos w gp p) (hom : o + m ≤ D.length) (hpm : p + 2 ≤ m) (hmc : m ≤ c) (hD : D.drop (o + p) = x0 :: x1 :: rest) :
    Calls Try.prog 42 #[.slice (some ⟨gb, o, none⟩) m c, .pointer (some ⟨gp, 0, none⟩), .pointer (some ⟨ge, 0, none⟩)] w fun e w' => e = .returned (.tuple #[.int .i16 (IntKind.i16.wrap (x0 * 256 + x1)), .nilIface]) ∧ w.grownBy w' (some gp) ∧ Pos w' gp (p + 2) := by
  have hl1 := hl.1
  have c1 := hp.cell
  have c2 := hs.end_
  have f1 := hp.free
  have hgp : gp < w.heap.size := blk_lt hp
  have hw : IntKind.i64.wrap ((p : Int) + 2) = (p : Int) + 2 := wrap_i64 (by omega) (by omega)
  obtain ⟨e0, hD0, q0⟩ := drop_getD hD
  obtain ⟨e1, hD1, q1⟩ := drop_getD hD0
  have k0 := hs.cell (o + p) (by omega)
  obtain ⟨b0, b0'⟩ := hl.at_ (o + p)
  rw [e0] at k0 b0 b0'
  have k1 := hs.cell (o + p + 1) (by omega)
  obtain ⟨b1, b1'⟩ := hl.at_ (o + p + 1)
  rw [show o + p + 1 = o + p + 1 from by omega, e1] at b1 b1'
  rw [show D.getD (o + p + 1) 0 = x1 from e1] at k1
  have nA : ∀ w : World, (nilAhead 239 79 (.agg #[]) "Uint16").run Try.prog w = .ok (some false) w := fun w => by kernel_rfl
  have nM : ∀ w : World, (method 239 79 (.agg #[]) "Uint16").run Try.prog w = .ok (73, .agg #[]) w := fun w => by kernel_rfl
  obtain ⟨i0, hi0, _, hsz, _⟩ := info_parts info5
  have hsl := cut_at (P := Try.prog) 35 5 Try.underlying35 hi0 hsz gb o m c p (p + 2) (by omega) (by omega) (by omega)
  rw [show ((p : Int) + 2 - p).toNat = 2 from by omega, Int.toNat_natCast] at hsl
  have HP := Aside0.mk hp
  have HB0 := Aside0.mk (And.intro b0 b0')
  have HK0 := Aside0.mk k0
  have HB1 := Aside0.mk (And.intro b1 b1')
  have HK1 := Aside0.mk k1
  have hp0 : (0 : Int) ≤ (p : Int) := by omega
  have hp1 : (p : Int) < (m : Int) := by omega
  have hp2 : ¬ ((p : Int) < 0) := by omega
  have hp3 : ¬ ((m : Int) < (p : Int) + 2) := by omega
  clear hs hp hl hD hD0 e0 b0 b0' hD1 e1 b1 b1' hi0 k0 k1
  go_enter Try.func42, Try.ntmps42
  go_wp2
  go_still_tail 14, (by kernel_rfl)
  change wpList _ _ _ _ _ w.drew
  go_wp2_with (go_at_call 73; refine (be16_any gb (o + p) _ x0 x1 w.drew HK0.out HK1.out HB0.out.1 HB0.out.2 HB1.out.1 HB1.out.2).mono ?_; rintro e w1 ⟨rfl, hb⟩; have HP1 := Aside0.mk (HP.out.below (below_step (below_drew (Below.refl _ _)) hb)); have d1 := HP1.out.cell; have d2 := HP1.out.free; have HB := Aside0.mk hb; clear hb)
  go_ret2
  exact ⟨rfl, grown_set (grown_below (grown_drew (World.grownBy.refl w _)) HB.out) (.inr rfl), HP1.out.put (p + 2)⟩
set_option maxHeartbeats 1600000 in
theorem readInt32_at (gb gp ge o m c p : Nat) (D rest : List Int) (x0 x1 x2 x3 : Int) (w : World) (hl : okBytes D) (hs : Src w gb ge D) (hp : Pos w gp p) (hom : o + m ≤ D.length) (hpm : p + 4 ≤ m) (hmc : m ≤ c) (hD : D.drop (o + p) = x0 :: x1 :: x2 :: x3 :: rest) :
    Calls Try.prog 37 #[.slice (some ⟨gb, o, none⟩) m c, .pointer (some ⟨gp, 0, none⟩), .pointer (some ⟨ge, 0, none⟩)] w fun e w' => e = .returned (.tuple #[.int .i32 (wrap32 (x0 * 16777216 + (x1 * 65536 + (x2 * 256 + x3)))), .nilIface]) ∧ w.grownBy w' (some gp) ∧ Pos w' gp (p + 4) := by
  have hl1 := hl.1
  have c1 := hp.cell
  have c2 := hs.end_
  have f1 := hp.free
  have hgp : gp < w.heap.size := blk_lt hp
  have hw : IntKind.i64.wrap ((p : Int) + 4) = (p : Int) + 4 := wrap_i64 (by omega) (by omega)
  obtain ⟨e0, hD0, q0⟩ := drop_getD hD
  obtain ⟨e1, hD1, q1⟩ := drop_getD hD0
  obtain ⟨e2, hD2, q2⟩ := drop_getD hD1
  obtain ⟨e3, hD3, q3⟩ := drop_getD hD2
  have k0 := hs.cell (o + p) (by omega)
  obtain ⟨b0, b0'⟩ := hl.at_ (o + p)
  rw [e0] at k0 b0 b0'
  have k1 := hs.cell (o + p + 1) (by omega)
  obtain ⟨b1, b1'⟩ := hl.at_ (o + p + 1)
  rw [show o + p + 1 = o + p + 1 from by omega, e1] at b1 b1'
  rw [show D.getD (o + p + 1) 0 = x1 from e1] at k1
  have k2 := hs.cell (o + p + 2) (by omega)
  obtain ⟨b2, b2'⟩ := hl.at_ (o + p + 2)
  rw [show o + p + 2 = o + p + 1 + 1 from by omega, e2] at b2 b2'
  rw [show D.getD (o + p + 2) 0 = x2 from e2] at k2
  have k3 := hs.cell (o + p + 3) (by omega)
  obtain ⟨b3, b3'⟩ := hl.at_ (o + p + 3)
  rw [show o + p + 3 = o + p + 1 + 1 + 1 from by omega, e3] at b3 b3'
  rw [show D.getD (o + p + 3) 0 = x3 from e3] at k3
  have nA : ∀ w : World, (nilAhead 239 79 (.agg #[]) "Uint32").run Try.prog w = .ok (some false) w := fun w => by kernel_rfl
  have nM : ∀ w : World, (method 239 79 (.agg #[]) "Uint32").run Try.prog w = .ok (74, .agg #[]) w := fun w => by kernel_rfl
  obtain ⟨i0, hi0, _, hsz, _⟩ := info_parts info5
  have hsl := cut_at (P := Try.prog) 35 5 Try.underlying35 hi0 hsz gb o m c p (p + 4) (by omega) (by omega) (by omega)
  rw [show ((p : Int) + 4 - p).toNat = 4 from by omega, Int.toNat_natCast] at hsl
  have HP := Aside0.mk hp
  have HB0 := Aside0.mk (And.intro b0 b0')
  have HK0 := Aside0.mk k0
  have HB1 := Aside0.mk (And.intro b1 b1')
  have HK1 := Aside0.mk k1
  have HB2 := Aside0.mk (And.intro b2 b2')
  have HK2 := Aside0.mk k2
  have HB3 := Aside0.mk (And.intro b3 b3')
  have HK3 := Aside0.mk k3
  have hp0 : (0 : Int) ≤ (p : Int) := by omega
  have hp1 : (p : Int) < (m : Int) := by omega
  have hp2 : ¬ ((p : Int) < 0) := by omega
  have hp3 : ¬ ((m : Int) < (p : Int) + 4) := by omega
  clear hs hp hl hD hD0 e0 b0 b0' hD1 e1 b1 b1' hD2 e2 b2 b2' hD3 e3 b3 b3' hi0 k0 k1 k2 k3
  go_enter Try.func37, Try.ntmps37
  go_wp2
  go_still_tail 14, (by kernel_rfl)
  change wpList _ _ _ _ _ w.drew
  go_wp2_with (go_at_call 74; refine (be32_any gb (o + p) _ x0 x1 x2 x3 w.drew HK0.out HK1.out HK2.out HK3.out HB0.out.1 HB0.out.2 HB1.out.1 HB1.out.2 HB2.out.1 HB2.out.2 HB3.out.1 HB3.out.2).mono ?_; rintro e w1 ⟨rfl, hb⟩; have HP1 := Aside0.mk (HP.out.below (below_step (below_drew (Below.refl _ _)) hb)); have d1 := HP1.out.cell; have d2 := HP1.out.free; have HB := Aside0.mk hb; clear hb)
  go_ret2
  exact ⟨rfl, grown_set (grown_below (grown_drew (World.grownBy.refl w _)) HB.out) (.inr rfl), HP1.out.put (p + 4)⟩
set_option maxHeartbeats 1600000 in
theorem readInt8_at (gb gp ge o m c p : Nat) (D rest : List Int) (x0 : Int) (w : World) (hl : okBytes D) (hs : Src w gb ge D) (hp : Pos w gp p) (hom : o + m ≤ D.length) (hpm : p + 1 ≤ m) (hmc : m ≤ c) (hD : D.drop (o + p) = x0 :: rest) :
    Calls Try.prog 41 #[.slice (some ⟨gb, o, none⟩) m c, .pointer (some ⟨gp, 0, none⟩), .pointer (some ⟨ge, 0, none⟩)] w fun e w' => e = .returned (.tuple #[.int .i8 (IntKind.i8.wrap x0), .nilIface]) ∧ w.grownBy w' (some gp) ∧ Pos w' gp (p + 1) := by
  have hl1 := hl.1
  have c1 := hp.cell
  have c2 := hs.end_
  have f1 := hp.free
  have hgp : gp < w.heap.size := blk_lt hp
  have hw : IntKind.i64.wrap ((p : Int) + 1) = (p : Int) + 1 := wrap_i64 (by omega) (by omega)
  obtain ⟨e0, hD0, q0⟩ := drop_getD hD
  have k0 := hs.cell (o + p) (by omega)
  obtain ⟨b0, b0'⟩ := hl.at_ (o + p)
  rw [e0] at k0 b0 b0'
  have HP := Aside0.mk hp
  have HB0 := Aside0.mk (And.intro b0 b0')
  have HK0 := Aside0.mk k0
  have hp0 : (0 : Int) ≤ (p : Int) := by omega
  have hp1 : (p : Int) < (m : Int) := by omega
  have hp2 : ¬ ((p : Int) < 0) := by omega
  have hp3 : ¬ ((m : Int) < (p : Int) + 1) := by omega
  have hb1 : gb < w.heap.size := World.block_lt_of_cell? w _ k0
  clear hs hp hl hD hD0 e0 b0 b0'
  go_enter Try.func41, Try.ntmps41
  go_wp2
  go_ret2
  exact ⟨rfl, grown_set (World.grownBy.refl w _) (.inr rfl), HP.out.put (p + 1)⟩
end Go.Proofs.Ytcbbipdiahmelaa.B

/- Readers of two bytes: the value of the highest first, or a panic where fewer are left; under what each theorem states. -/
import Derived.Test.YtnipcocllhfaoaaB0
import Derived.RegionDies
namespace Go.Proofs.Ytnipcocllhfaoaa.B
open Go.RowKit Go.Proofs.YtnipcocllhfaoaaW.PrintWords Go.Proofs.YtnipcocllhfaoaaW.PrintLast
set_option linter.unusedVariables false
set_option linter.unusedSimpArgs false
set_option maxRecDepth 100000
set_option maxHeartbeats 800000 in
theorem be16_any (b o c : Nat) (x0 x1 : Int) (w : World) (k0 : w.cell? ⟨b, o, none⟩ = some (.int .u8 x0)) (k1 : w.cell? ⟨b, o + 1, none⟩ = some (.int .u8 x1))
    (h0 : 0 ≤ x0) (h0' : x0 < 256) (h1 : 0 ≤ x1) (h1' : x1 < 256) :
    Calls Try.prog 87 #[.agg #[], .slice (some ⟨b, o, none⟩) 2 c] w fun e w' => e = .returned (.int .u16 (x0 * 256 + x1)) ∧ Below w.heap.size w w' := by
  have hb : b < w.heap.size := World.block_lt_of_cell? w _ k0
  have j := Aside0.mk (join16 x1 x0 h1 h1' h0 h0')
  go_enter Try.func87, Try.ntmps87
  go_wp2
  go_quiet (fail)
  go_wp2
  go_ret
  refine ⟨?_, pw_below_drewN (below_alloc (Below.refl _ _) _) _⟩
  show Ending.returned (.int .u16 (bits BinOp.or IntKind.u16 x1 (x0 * 256))) = _
  rw [j.out]
set_option maxHeartbeats 1600000 in
theorem be32_any (b o c : Nat) (x0 x1 x2 x3 : Int) (w : World) (k0 : w.cell? ⟨b, o, none⟩ = some (.int .u8 x0)) (k1 : w.cell? ⟨b, o + 1, none⟩ = some (.int .u8 x1)) (k2 : w.cell? ⟨b, o + 2, none⟩ = some (.int .u8 x2)) (k3 : w.cell? ⟨b, o + 3, none⟩ = some (.int .u8 x3))
    (h0 : 0 ≤ x0) (h0' : x0 < 256) (h1 : 0 ≤ x1) (h1' : x1 < 256) (h2 : 0 ≤ x2) (h2' : x2 < 256) (h3 : 0 ≤ x3) (h3' : x3 < 256) :
    Calls Try.prog 88 #[.agg #[], .slice (some ⟨b, o, none⟩) 4 c] w fun e w' => e = .returned (.int .u32 (x0 * 16777216 + (x1 * 65536 + (x2 * 256 + x3)))) ∧ Below w.heap.size w w' := by
  have hb : b < w.heap.size := World.block_lt_of_cell? w _ k0
  have j := Aside0.mk (join8 x3 x2 h3 h3' h2 h2')
  have j2 := Aside0.mk (join2 (x2 * 256 + x3) x1 (by omega) (by omega) h1 h1')
  have j3 := Aside0.mk (join3 (x1 * 65536 + (x2 * 256 + x3)) x0 (by omega) (by omega) h0 h0')
  go_enter Try.func88, Try.ntmps88
  go_wp2
  go_quiet (fail)
  go_wp2
  go_ret
  refine ⟨?_, pw_below_drewN (below_alloc (Below.refl _ _) _) _⟩
  show Ending.returned (.int .u32 (bits BinOp.or IntKind.u32 (bits BinOp.or IntKind.u32 (bits BinOp.or IntKind.u32 x3 (x2 * 256)) (x1 * 65536)) (x0 * 16777216))) = _
  rw [j.out, j2.out, j3.out]
def u16 (l : List Int) (p : Nat) : Int := l.getD p 0 * 256 + l.getD (p + 1) 0
def u32 (l : List Int) (p : Nat) : Int := l.getD p 0 * 16777216 + (l.getD (p + 1) 0 * 65536 + (l.getD (p + 2) 0 * 256 + l.getD (p + 3) 0))
/-- Sixteen bits, signed. -/
def r16 (l : List Int) (p : Nat) : Option (Int × Nat) := if p + 2 ≤ l.length then some (IntKind.i16.wrap (u16 l p), p + 2) else none
def r32 (l : List Int) (p : Nat) : Option (Int × Nat) := if p + 4 ≤ l.length then some (wrap32 (u32 l p), p + 4) else none
def r8 (l : List Int) (p : Nat) : Option (Int × Nat) := if p + 1 ≤ l.length then some (IntKind.i8.wrap (l.getD p 0), p + 1) else none
def rBytes (l : List Int) (p : Nat) (s : Int) : Option (List Int × Nat) := if 0 ≤ s ∧ p + s ≤ l.length then some ((l.drop p).take s.toNat, p + s.toNat) else none
theorem info5 : (Try.prog.info? 5).map (fun i => (i.zero, i.size, i.bytes)) = some (some (.int .u8 0), 1, 1) := by kernel_rfl
set_option maxHeartbeats 1600000 in
theorem readInt16_any (gb gp ge p : Nat) (l : List Int) (w : World) (hl : okBytes l) (hs : Src w gb ge l) (hp : Pos w gp p) (hpl : p ≤ l.length) :
    Calls Try.prog 54 #[.slice (some ⟨gb, 0, none⟩) l.length l.length, .pointer (some ⟨gp, 0, none⟩), .pointer (some ⟨ge, 0, none⟩)] w (Ret (fun a v _ => v = .int .i16 a) w gp (r16 l p)) := by
  have hl1 := hl.1
  have c1 := hp.cell
  have c2 := hs.end_
  have f1 := hp.free
  have hgp : gp < w.heap.size := blk_lt hp
  have hw : IntKind.i64.wrap ((p : Int) + 2) = (p : Int) + 2 := wrap_i64 (by omega) (by omega)
  have nA : ∀ w : World, (nilAhead 267 119 (.agg #[]) "Uint16").run Try.prog w = .ok (some false) w := fun w => by kernel_rfl
  have nM : ∀ w : World, (method 267 119 (.agg #[]) "Uint16").run Try.prog w = .ok (87, .agg #[]) w := fun w => by kernel_rfl
  unfold r16
  by_cases h : p + 2 ≤ l.length
  · rw [if_pos h]
    obtain ⟨i0, hi0, _, hsz, _⟩ := info_parts info5
    obtain ⟨A', hsl, hA'⟩ := cut_ok (P := Try.prog) 83 5 Try.underlying83 hi0 hsz gb l.length p (p + 2) (by omega) (by omega) (by omega)
    obtain rfl := hA' (by omega)
    rw [show ((p : Int) + 2 - p).toNat = 2 from by omega, Int.toNat_natCast] at hsl
    have k0 := hs.cell p (by omega)
    have k1 := hs.cell (p + 1) (by omega)
    obtain ⟨b0, b0'⟩ := hl.at_ p
    obtain ⟨b1, b1'⟩ := hl.at_ (p + 1)
    have HP := Aside0.mk hp
    have HB0 := Aside0.mk b0
    have HB1 := Aside0.mk b1
    have HK := Aside0.mk k0
    have HK1 := Aside0.mk k1
    have HU := Aside0.mk (show u16 l p = l.getD p 0 * 256 + l.getD (p + 1) 0 from rfl)
    generalize l.getD p 0 = x0 at *
    generalize l.getD (p + 1) 0 = x1 at *
    clear hs hp hl hA' hi0 k0 k1 b0 b1
    go_enter Try.func54, Try.ntmps54
    go_wp2
    go_still_tail 14, (by kernel_rfl)
    change wpList _ _ _ _ _ w.drew
    go_wp2_with (go_at_call 87; refine (be16_any gb p _ x0 x1 w.drew HK.out HK1.out HB0.out b0' HB1.out b1').mono ?_; rintro e w1 ⟨rfl, hb⟩; have HP1 := Aside0.mk (HP.out.below (below_step (below_drew (Below.refl _ _)) hb)); have d1 := HP1.out.cell; have d2 := HP1.out.free; have HB := Aside0.mk hb; clear hb)
    go_ret
    refine ⟨⟨_, rfl, ?_⟩, grown_set (grown_below (grown_drew (World.grownBy.refl w _)) HB.out) (.inr rfl), ?_⟩
    · show Value.int .i16 (IntKind.i16.wrap (x0 * 256 + x1)) = _; rw [HU.out]
    · exact HP1.out.put (p + 2)
  · rw [if_neg h]
    obtain ⟨v, k, hsl⟩ := cut_dies (P := Try.prog) 83 5 Try.underlying83 (some ⟨gb, 0, none⟩) l.length p (p + 2) (by omega)
    go_enter Try.func54, Try.ntmps54
    go_wp2
    go_region_dies
    all_goals exact ⟨rfl, ⟨_, _⟩, grown_drewN (World.grownBy.refl _ _) _⟩
end Go.Proofs.Ytnipcocllhfaoaa.B

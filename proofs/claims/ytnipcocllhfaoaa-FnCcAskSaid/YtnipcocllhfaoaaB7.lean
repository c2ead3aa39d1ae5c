/- The header of a cache is read, where its fields are right; under what each theorem states. -/
import Derived.Test.YtnipcocllhfaoaaB6
namespace Go.Proofs.Ytnipcocllhfaoaa.B
open Go.RowKit Go.Proofs.YtnipcocllhfaoaaW.PrintWords Go.Proofs.YtnipcocllhfaoaaW.PrintLast
set_option linter.unusedVariables false
set_option linter.unusedSimpArgs false
set_option maxRecDepth 100000
set_option maxHeartbeats 800000 in
theorem valid_any (g c : Nat) (A : Option Addr) (w : World) (h : Box w g 135 #[.int .u16 1, .int .u16 8, .slice A 8 c]) :
    Calls Try.prog 55 #[.pointer (some ⟨g, 0, none⟩)] w fun e w' => e = .returned (.bool true) ∧ w = w' := by
  have c0 := h.cell 0 (.int .u16 1) rfl
  have c1 := h.cell 1 (.int .u16 8) rfl
  have c2 := h.cell 2 (.slice A 8 c) rfl
  have hu := Try.underlying135
  clear h
  go_enter Try.func55, Try.ntmps55
  go_wp2
  go_ret
  exact ⟨rfl, rfl⟩
/-- The fields of a header: each of the kind 1, with eight bytes. -/
def rFields (l : List Int) (h : Int) : Nat → Nat → Option Nat
  | 0, _ => none
  | n + 1, p => if (p : Int) ≤ h then (if p + 12 ≤ l.length ∧ u16 l p = 1 ∧ u16 l (p + 2) = 8 then rFields l h n (p + 12) else none) else some p
def rHeader (l : List Int) (p : Nat) : Option Nat := if p + 2 ≤ l.length then rFields l (u16 l p) l.length (p + 2) else none
theorem u16_range {l : List Int} (h : okBytes l) (p : Nat) : 0 ≤ u16 l p ∧ u16 l p < 65536 := by
  have h1 := h.at_ p
  have h2 := h.at_ (p + 1)
  unfold u16
  omega
theorem u16_back {x : Int} (h0 : 0 ≤ x) (h1 : x < 65536) : IntKind.u16.wrap (IntKind.i16.wrap x) = x := by
  simp [IntKind.wrap, IntKind.bits, IntKind.signed]
  omega
theorem r16_some {l : List Int} {p : Nat} (h : p + 2 ≤ l.length) : r16 l p = some (IntKind.i16.wrap (u16 l p), p + 2) := by unfold r16; rw [if_pos h]
theorem At.move {w0 w : World} {gb gp ge p : Nat} {l : List Int} (h : At w0 w gb gp ge l p) (q : Nat) : At w0 (w.setCell ⟨gp, 0, none⟩ (.int .i64 q)) gb gp ge l q :=
  ⟨⟨blk_far h.src.row (blk_ne h.src.row (show w.heap[gp]? = some (.cells #[.int .i64 p] 3 (0, 0)) from h.pos) (by decide)) _, blk_far h.src.order (blk_ne h.src.order (show w.heap[gp]? = some (.cells #[.int .i64 p] 3 (0, 0)) from h.pos) (by decide)) _⟩, h.pos.put q, grown_set h.grown (.inr rfl)⟩
theorem row_call' {α : Type} {d : Kd α} {e base : Nat} {ok : Nat → Prop} {w w' : World} {v : Value} {xs : List α} {gp p : Nat} (h : d.R e w base ok v xs) (hp : Pos w gp p) (ht : ∀ q, q ∈ e :: d.E → q ≠ 3) (hg : w.grownBy w' (some gp)) : d.R e w' base ok v xs :=
  Kd.R_mono (Kd.R_grown (Kd.R_types h hp ht) hg (fun k hk e => by injection e with e; exact hk.2 e)) (fun _ hk => hk.1)
theorem info135 : (Try.prog.info? 135).map (fun i => (i.zero, i.size, i.bytes)) = some (some (.agg #[.int .u16 0, .int .u16 0, .slice none 0 0]), 3, 32) := by kernel_rfl
set_option maxHeartbeats 8000000 in
theorem parseHeader_any (gb gp ge gc p q : Nat) (cs : Array Value) (l : List Int) (w : World) (hl : okBytes l) (hs : Src w gb ge l) (hp : Pos w gp p) (hc : Box w gc 79 cs) (hver : cs[0]? = some (.int .u8 4)) (x1 x2 : Value) (hx1 : cs[1]? = some x1) (hx2 : cs[2]? = some x2) (hr : rHeader l p = some q) :
    Calls Try.prog 48 #[.slice (some ⟨gb, 0, none⟩) l.length l.length, .pointer (some ⟨gp, 0, none⟩), .pointer (some ⟨gc, 0, none⟩), .pointer (some ⟨ge, 0, none⟩)] w
      fun e w' => e = .returned .nilIface ∧ ∃ w9 y1 y2, At w w9 gb gp ge l q ∧ Box w9 gc 79 cs ∧ q ≤ l.length ∧ w' = (w9.setCell ⟨gc, 1, none⟩ y1).setCell ⟨gc, 2, none⟩ y2 := by
  have HL := Aside0.mk hl
  have hl1 := hl.1
  unfold rHeader at hr
  by_cases hp2 : p + 2 ≤ l.length
  case neg => rw [if_neg hp2] at hr; cases hr
  rw [if_pos hp2] at hr
  have HR0 := Aside0.mk hr
  have HP2 := Aside0.mk hp2
  obtain ⟨hh0, hh1⟩ := u16_range hl p
  have A0 := Aside0.mk (At.alloc (At.start hs hp) (.cells #[.int .u16 0, .slice none 0 0] 72))
  have C0 := Aside0.mk (hc.alloc (.cells #[.int .u16 0, .slice none 0 0] 72))
  have B0 := Aside0.mk (Box.new w #[.int .u16 0, .slice none 0 0] 72)
  have HV := Aside0.mk hver
  have HX1 := Aside0.mk hx1
  have HX2 := Aside0.mk hx2
  have hu72 := Try.underlying72
  have hu135 := Try.underlying135
  have hcl := hc.cell 0 _ hver
  have hgc : gc < w.heap.size := hc.lt
  clear hl hs hp hc hver hr hp2 hx1 hx2
  go_enter Try.func48, Try.ntmps48
  go_wp2_with fail
  generalize w.alloc (Obj.cells #[.int .u16 0, .slice none 0 0] 72) = w1 at *
  clear hcl
  with_reducible refine (readInt16_any gb gp ge p l _ HL.out A0.out.src A0.out.pos (by have := HP2.out; omega)).mono ?_
  intro e w2 h1
  rw [r16_some HP2.out] at h1
  obtain ⟨⟨v, rfl, rfl⟩, hg, hp1⟩ := h1
  have A1 := Aside0.mk (A0.out.call hg hp1)
  have C1 := Aside0.mk (C0.out.call A0.out.pos (by decide) hg)
  have B1 := Aside0.mk (B0.out.call A0.out.pos (by decide) hg)
  have c0 := B1.out.cell 0 (.int .u16 0) rfl
  have f0 := B1.out.free 0
  have hwb := u16_back hh0 hh1
  obtain ⟨hlen, hhl⟩ : ∃ x, x = u16 l p := ⟨_, rfl⟩
  have HH := Aside0.mk hhl
  rw [← hhl] at hh0 hh1 hwb
  have HR := Aside0.mk (show rFields l hlen l.length (p + 2) = some q from by rw [hhl]; exact HR0.out)
  clear hg hp1 HR0
  rw [← hhl]
  clear hhl
  generalize IntKind.i16.wrap hlen = hi at *
  go_wp2_with fail
  have A2 := Aside0.mk (A1.out.set B1.out (by decide) (Nat.le_refl _) 0 (.int .u16 hlen))
  have C2 := Aside0.mk (C1.out.far (g' := w.heap.size) (by omega) 0 (.int .u16 hlen))
  have B2 := Aside0.mk (B1.out.puts (cs' := #[.int .u16 hlen, .slice none 0 0]) 0 (.int .u16 hlen) rfl)
  clear c0 f0 A0 A1 C0 C1 B0 B1 hwb
  generalize w2.setCell ⟨w.heap.size, 0, none⟩ (.int .u16 hlen) = w3 at *
  clear w1 w2
  obtain ⟨k, hk⟩ : ∃ k, k = l.length := ⟨_, rfl⟩
  have HK := Aside0.mk hk
  have HR1 := Aside0.mk (show rFields l hlen k (p + 2) = some q from hk ▸ HR.out)
  have HPL := Aside0.mk (show p + 2 ≤ l.length from HP2.out)
  clear HR hk
  go_loopg [] k (fun kq wr => ∃ (pk : Nat) (rows : List (List Value)) (Ah : Option Addr) (ch : Nat), Aside0 (rFields l hlen kq pk = some q) ∧ Aside0 (pk ≤ l.length ∧ 12 * rows.length ≤ pk) ∧ Aside0 (At w wr gb gp ge l pk) ∧ Aside0 (Box wr gc 79 cs) ∧ Aside0 (Box wr w.heap.size 72 #[.int .u16 hlen, .slice Ah rows.length ch]) ∧
      Aside0 ((Kd.raw 3).R 135 wr w.heap.size (fun _ => True) (.slice Ah rows.length ch) rows))
  case atStart => exact ⟨p + 2, [], none, 0, HR1, ⟨HPL.out, by simp⟩, A2, C2, B2, ⟨Kd.R_nil _ _ _ _ _⟩⟩
  clear A2 B2 C2 HR1
  obtain ⟨pk, rows, Ah, ch, HRk, HPk, A3, C3, B3, V3⟩ := hrel
  cases gk with
  | zero => exact absurd HRk.out (by simp [rFields])
  | succ k1 =>
    have hr := HRk.out
    simp only [rFields] at hr
    have c1 := A3.out.pos.cell
    have c2 := B3.out.cell 0 (.int .u16 hlen) rfl
    by_cases hle : (pk : Int) ≤ hlen
    · rw [if_pos hle] at hr
      by_cases hcd : pk + 12 ≤ l.length ∧ u16 l pk = 1 ∧ u16 l (pk + 2) = 8
      case neg => rw [if_neg hcd] at hr; cases hr
      rw [if_pos hcd] at hr
      obtain ⟨hc1, hc2, hc3⟩ := hcd
      have HR4 := Aside0.mk hr
      have HC1 := Aside0.mk hc1
      have HC2 := Aside0.mk hc2
      have HC3 := Aside0.mk hc3
      clear hr HRk hc1 hc2 hc3
      go_wp2_with fail
      go_quiet (fail)
      have hbd : Below wr.heap.size wr (wr.drewN nq) := pw_below_drewN (Below.refl _ _) nq
      have A4 := Aside0.mk (A3.out.below hbd)
      have C4 := Aside0.mk (C3.out.below hbd)
      have B4 := Aside0.mk (B3.out.below hbd)
      have V4 := Aside0.mk (Kd.R_below V3.out hbd)
      clear hbd A3 C3 B3 V3 c1 c2
      generalize wr.drewN nq = w4 at *
      clear wr
      go_wp2_with fail
      -- a field of its own
      have hb0 : Below w4.heap.size w4 (w4.alloc (.cells #[.int .u16 0, .int .u16 0, .slice none 0 0] 135)) := below_alloc (Below.refl _ _) _
      have A5 := Aside0.mk (A4.out.below hb0)
      have C5 := Aside0.mk (C4.out.below hb0)
      have B5 := Aside0.mk (B4.out.below hb0)
      have V5 := Aside0.mk (Kd.R_below (Kd.R_mono (ok' := fun k => k ≠ w4.heap.size) (Kd.R_bound V4.out) (fun k hk => by have := hk.2.2.1; omega)) hb0)
      have F5 := Aside0.mk (Box.new w4 #[.int .u16 0, .int .u16 0, .slice none 0 0] 135)
      have HGF := Aside0.mk A4.out.size
      clear hb0 A4 C4 B4 V4
      generalize w4.alloc (.cells #[.int .u16 0, .int .u16 0, .slice none 0 0] 135) = w5 at *
      generalize w4.heap.size = gf at *
      clear w4
      with_reducible refine (readInt16_any gb gp ge pk l _ HL.out A5.out.src A5.out.pos (by have := HC1.out; omega)).mono ?_
      intro e w6 h1
      rw [r16_some (show pk + 2 ≤ l.length from by have := HC1.out; omega), HC2.out] at h1
      obtain ⟨⟨v, rfl, rfl⟩, hg, hp1⟩ := h1
      have A6 := Aside0.mk (A5.out.call hg hp1)
      have C6 := Aside0.mk (C5.out.call A5.out.pos (by decide) hg)
      have B6 := Aside0.mk (B5.out.call A5.out.pos (by decide) hg)
      have F6 := Aside0.mk (F5.out.call A5.out.pos (by decide) hg)
      have V6 := Aside0.mk (row_call' V5.out A5.out.pos (by decide) hg)
      have f0 := F6.out.cell 0 (.int .u16 0) rfl
      have g0 := F6.out.free 0
      have hw1 : IntKind.u16.wrap (IntKind.i16.wrap 1) = 1 := by decide
      clear hg hp1 A5 C5 B5 F5 V5
      go_wp2_with fail
      have A7 := Aside0.mk (A6.out.set F6.out (by decide) HGF.out 0 (.int .u16 1))
      have C7 := Aside0.mk (C6.out.far (C6.out.ne F6.out (by decide)) 0 (.int .u16 1))
      have B7 := Aside0.mk (B6.out.far (B6.out.ne F6.out (by decide)) 0 (.int .u16 1))
      have F7 := Aside0.mk (F6.out.puts (cs' := #[.int .u16 1, .int .u16 0, .slice none 0 0]) 0 (.int .u16 1) rfl)
      have V7 := Aside0.mk (Kd.R_far (p := ⟨gf, 0, none⟩) V6.out (fun _ h => h) (.int .u16 1))
      clear f0 g0 A6 C6 B6 F6 V6 hw1
      generalize w6.setCell ⟨gf, 0, none⟩ (.int .u16 1) = w7 at *
      with_reducible refine (readInt16_any gb gp ge (pk + 2) l _ HL.out A7.out.src A7.out.pos (by have := HC1.out; omega)).mono ?_
      intro e w8 h1
      rw [r16_some (show pk + 2 + 2 ≤ l.length from by have := HC1.out; omega), HC3.out] at h1
      obtain ⟨⟨v, rfl, rfl⟩, hg, hp1⟩ := h1
      obtain ⟨p4, hp4⟩ : ∃ x, x = pk + 2 + 2 := ⟨_, rfl⟩
      rw [← hp4] at hp1
      have HP4 := Aside0.mk hp4
      have A8 := Aside0.mk (A7.out.call hg hp1)
      have C8 := Aside0.mk (C7.out.call A7.out.pos (by decide) hg)
      have B8 := Aside0.mk (B7.out.call A7.out.pos (by decide) hg)
      have F8 := Aside0.mk (F7.out.call A7.out.pos (by decide) hg)
      have V8 := Aside0.mk (row_call' V7.out A7.out.pos (by decide) hg)
      have f0 := F8.out.cell 1 (.int .u16 0) rfl
      have g0 := F8.out.free 1
      have hw1 : IntKind.u16.wrap (IntKind.i16.wrap 8) = 8 := by decide
      clear hg hp1 A7 C7 B7 F7 V7 hp4
      go_wp2_with fail
      have A9 := Aside0.mk (A8.out.set F8.out (by decide) HGF.out 1 (.int .u16 8))
      have C9 := Aside0.mk (C8.out.far (C8.out.ne F8.out (by decide)) 1 (.int .u16 8))
      have B9 := Aside0.mk (B8.out.far (B8.out.ne F8.out (by decide)) 1 (.int .u16 8))
      have F9 := Aside0.mk (F8.out.puts (cs' := #[.int .u16 1, .int .u16 8, .slice none 0 0]) 1 (.int .u16 8) rfl)
      have V9 := Aside0.mk (Kd.R_far (p := ⟨gf, 1, none⟩) V8.out (fun _ h => h) (.int .u16 8))
      clear f0 g0 A8 C8 B8 F8 V8 hw1
      generalize w8.setCell ⟨gf, 1, none⟩ (.int .u16 8) = w9 at *
      obtain ⟨i0, hi0, x0_, hsz, x1_⟩ := info_parts info5
      have hp8 : p4 + 8 ≤ l.length := by have := HC1.out; have := HP4.out; omega
      obtain ⟨A', hsl, hA'⟩ := cut_ok (P := Try.prog) 83 5 Try.underlying83 hi0 hsz gb l.length p4 (p4 + 8) (by omega) (by omega) (by omega)
      rw [show ((p4 : Int) + 8 - p4).toNat = 8 from by omega, Int.toNat_natCast] at hsl
      have hwr : IntKind.i64.wrap ((p4 : Int) + 8) = (p4 : Int) + 8 := wrap_i64 (by omega) (by omega)
      have hw8 : IntKind.i64.wrap 8 = 8 := by decide
      have c1 := A9.out.pos.cell
      have c2 := F9.out.cell 1 (.int .u16 8) rfl
      have c3 := F9.out.cell 2 (.slice none 0 0) rfl
      have f3 := F9.out.free 2
      clear hA' hi0 x0_ hsz x1_
      go_still_tail 13, (by kernel_rfl)
      change wpList _ _ _ _ _ w9.drew
      go_wp2_with fail
      have A10 := Aside0.mk (A9.out.set F9.out (by decide) HGF.out 2 (.slice A' 8 (l.length - p4))).drew
      have C10 := Aside0.mk (C9.out.far (C9.out.ne F9.out (by decide)) 2 (.slice A' 8 (l.length - p4))).drew
      have B10 := Aside0.mk (B9.out.far (B9.out.ne F9.out (by decide)) 2 (.slice A' 8 (l.length - p4))).drew
      have F10 := Aside0.mk (F9.out.puts (cs' := #[.int .u16 1, .int .u16 8, .slice A' 8 (l.length - p4)]) 2 (.slice A' 8 (l.length - p4)) rfl).drew
      have V10 := Aside0.mk (Kd.R_drew (Kd.R_far (p := ⟨gf, 2, none⟩) V9.out (fun _ h => h) (.slice A' 8 (l.length - p4))))
      clear c1 c2 c3 f3 A9 C9 B9 F9 V9 hsl
      generalize (w9.setCell ⟨gf, 2, none⟩ (.slice A' 8 (l.length - p4))).drew = w10 at *
      have c1 := A10.out.pos.cell
      have f1 := A10.out.pos.free
      have c2 := F10.out.cell 1 (.int .u16 8) rfl
      go_still_tail 8, (by kernel_rfl)
      change wpList _ _ _ _ _ w10.drew
      go_wp2_with fail
      have hcast : ((p4 + 8 : Nat) : Int) = (p4 : Int) + 8 := by omega
      have a11 := (A10.out.move (p4 + 8)).drew
      rw [hcast] at a11
      have A11 := Aside0.mk a11
      have C11 := Aside0.mk (C10.out.far (g' := gp) (C10.out.ne (show Box w10 gp 3 #[.int .i64 p4] from A10.out.pos) (by decide)) 0 (.int .i64 ((p4 : Int) + 8))).drew
      have B11 := Aside0.mk (B10.out.far (g' := gp) (B10.out.ne (show Box w10 gp 3 #[.int .i64 p4] from A10.out.pos) (by decide)) 0 (.int .i64 ((p4 : Int) + 8))).drew
      have F11 := Aside0.mk (F10.out.far (g' := gp) (F10.out.ne (show Box w10 gp 3 #[.int .i64 p4] from A10.out.pos) (by decide)) 0 (.int .i64 ((p4 : Int) + 8))).drew
      have V11 := Aside0.mk (Kd.R_drew (Kd.R_mono (ok' := fun k => k ≠ gf) (Kd.R_far (p := ⟨gp, 0, none⟩) (Kd.R_types V10.out (show Box w10 gp 3 #[.int .i64 p4] from A10.out.pos) (by decide)) (fun _ h => h.2) (.int .i64 ((p4 : Int) + 8))) (fun _ h => h.1)))
      clear c1 c2 f1 a11 hcast A10 C10 B10 F10 V10
      generalize (w10.setCell ⟨gp, 0, none⟩ (.int .i64 ((p4 : Int) + 8))).drew = w11 at *
      with_reducible refine (valid_any gf (l.length - p4) A' _ F11.out).mono ?_
      rintro e w12 ⟨rfl, rfl⟩
      have c1 := B11.out.cell 1 (.slice Ah rows.length ch) rfl
      have f1 := B11.out.free 1
      have d0 := F11.out.cell 0 (.int .u16 1) rfl
      have d1 := F11.out.cell 1 (.int .u16 8) rfl
      have d2 := F11.out.cell 2 (.slice A' 8 (l.length - p4)) rfl
      have HLE := Aside0.mk (show (rows.length + 1) * 32 ≤ 140737488355328 from by have := HPk.out; have := HL.out.1; omega)
      go_wp2_with ((with_reducible refine gate_builtin (b := .append) (xs := #[.tmp 69, .tmp 71]) rfl ?_); at_builtin; refine Kd.R_append (Kd.raw 3) (w0 := w11) w.heap.size rfl (.tmp 69) (.tmp 71) 70 135 (.agg #[.int .u16 0, .int .u16 0, .slice none 0 0]) 32 rfl Try.underlying70 info135 rfl (by decide) (by decide) (.slice Ah rows.length ch) rows [.int .u16 1, .int .u16 8, .slice A' 8 (l.length - p4)] [.int .u16 1, .int .u16 8, .slice A' 8 (l.length - p4)] (fun k => k ≠ gf) (fun _ => False) rfl rfl ⟨rfl, rfl, by intro u hu; simp at hu; rcases hu with rfl | rfl | rfl <;> rfl⟩ (fun _ h => h.elim) (fun k hk => by have := F11.out.lt; omega) V11.out (Below.refl _ _) A11.out.size HLE.out ?_; intro v13 w13 hv13 hb13 hg13 hat13; obtain ⟨rows1, hrows⟩ : ∃ r_, r_ = rows ++ [[.int .u16 1, .int .u16 8, .slice A' 8 (l.length - p4)]] := ⟨_, rfl⟩; rw [← hrows] at hv13; have HRW := Aside0.mk hrows; clear hrows; obtain ⟨A13_, c13_, ev13⟩ := Kd.R_slice hv13; subst ev13; have V13 := Aside0.mk (Kd.R_mono hv13 (ok' := fun _ => True) (fun _ _ => trivial)); have A13 := Aside0.mk (A11.out.row V11.out (by decide) (Nat.le_refl _) hg13); have C13 := Aside0.mk (C11.out.row V11.out (by decide) hg13); have B13 := Aside0.mk (B11.out.row V11.out (by decide) hg13); have e1 := B13.out.cell 1 (.slice Ah rows.length ch) rfl; have g1 := B13.out.free 1; clear hv13 hb13 hg13 hat13)
      have A14 := Aside0.mk (A13.out.set B13.out (by decide) (Nat.le_refl _) 1 (.slice A13_ rows1.length c13_))
      have C14 := Aside0.mk (C13.out.far (g' := w.heap.size) (by omega) 1 (.slice A13_ rows1.length c13_))
      have B14 := Aside0.mk (B13.out.puts (cs' := #[.int .u16 hlen, .slice A13_ rows1.length c13_]) 1 (.slice A13_ rows1.length c13_) rfl)
      have V14 := Aside0.mk (row_set V13.out B13.out (by decide) 1 (.slice A13_ rows1.length c13_))
      clear A13 C13 B13 V13 A11 C11 B11 F11 V11
      go_roundg k1
      case rel =>
        have h4 := HP4.out
        have hr4 := HR4.out
        refine ⟨p4 + 8, rows1, A13_, c13_, ⟨by rw [show p4 + 8 = pk + 12 from by omega]; exact hr4⟩, ⟨by have := HC1.out; omega, by rw [HRW.out]; have := HPk.out; simp; omega⟩, A14, C14, B14, V14⟩
      case measure => omega
    · rw [if_neg hle] at hr
      obtain rfl := Option.some.inj hr
      clear hr HRk
      go_wp2_with fail
      go_quiet (fail)
      have hbd : Below wr.heap.size wr (wr.drewN nq) := pw_below_drewN (Below.refl _ _) nq
      have A4 := Aside0.mk (A3.out.below hbd)
      have C4 := Aside0.mk (C3.out.below hbd)
      have B4 := Aside0.mk (B3.out.below hbd)
      clear hbd A3 C3 B3 V3 c1 c2
      generalize wr.drewN nq = w4 at *
      have c1 := B4.out.cell 0 (.int .u16 hlen) rfl
      have c2 := B4.out.cell 1 (.slice Ah rows.length ch) rfl
      have d1 := C4.out.cell 1 _ HX1.out
      have d2 := C4.out.cell 2 _ HX2.out
      have f1 := C4.out.free 1
      have f2 := C4.out.free 2
      go_wp2
      go_ret
      exact ⟨rfl, w4, _, _, A4.out, C4.out, HPk.out.1, rfl⟩
end Go.Proofs.Ytnipcocllhfaoaa.B

/- What stays while blocks of some types are written; new flags. Under what each theorem states. -/
import Derived.Test.YtnipcocllhfaoaaB4
import Derived.Deep.DeepMakeLenPanics
namespace Go.Proofs.Ytnipcocllhfaoaa.B
open Go.RowKit Go.Proofs.YtnipcocllhfaoaaW.PrintWords Go.Proofs.YtnipcocllhfaoaaW.PrintLast
set_option linter.unusedVariables false
set_option linter.unusedSimpArgs false
set_option maxRecDepth 100000
/-! ### What stays while blocks of some types are written -/
/-- Blocks of all other types than those of X are as they were. -/
def Kp (X : List Nat) (w w' : World) : Prop := w.heap.size ≤ w'.heap.size ∧ ∀ k, k < w.heap.size → (∀ t, t ∈ X → ∀ cs, w.heap[k]? ≠ some (.cells cs t (0, 0))) → w'.heap[k]? = w.heap[k]?
def Stable (X : List Nat) (P : World → Prop) : Prop := ∀ w w', P w → Kp X w w' → P w'
structure Rows (X : List Nat) (w : World) (L : List (World → Prop)) : Prop where
  all : ∀ P, P ∈ L → Stable X P ∧ P w
section
variable {X : List Nat} {w w' w0 : World} {L : List (World → Prop)} {P : World → Prop} {gb gp ge p p' g t : Nat} {l : List Int} {cs : Array Value}
theorem Rows.nil (X : List Nat) (w : World) : Rows X w [] := ⟨fun _ h => by cases h⟩
theorem Rows.kp (h : Rows X w L) (hk : Kp X w w') : Rows X w' L := ⟨fun P hP => ⟨(h.all P hP).1, (h.all P hP).1 _ _ (h.all P hP).2 hk⟩⟩
theorem Rows.add (h : Rows X w L) (hs : Stable X P) (hp : P w) : Rows X w (P :: L) := ⟨fun Q hQ => by
  rcases List.mem_cons.1 hQ with rfl | hQ
  · exact ⟨hs, hp⟩
  · exact h.all Q hQ⟩
theorem Kp.refl (X : List Nat) (w : World) : Kp X w w := ⟨Nat.le_refl _, fun _ _ _ => rfl⟩
theorem Kp.call (hp : Pos w gp p) (h3 : 3 ∈ X) (hg : w.grownBy w' (some gp)) : Kp X w w' := ⟨hg.size, fun k hk hn => hg.block k hk fun e => by injection e with e; subst e; exact hn 3 h3 _ hp⟩
theorem Kp.below (X : List Nat) (h : Below w.heap.size w w') : Kp X w w' := ⟨h.size, fun k hk _ => h.block k hk⟩
theorem Kp.set (hb : Box w g t cs) (ht : t ∈ X) (i : Nat) (v : Value) : Kp X w (w.setCell ⟨g, i, none⟩ v) := ⟨by simp, fun k hk hn => Below.heap_setCell _ _ _ _ (by show k ≠ g; rintro rfl; exact hn t ht _ hb)⟩
theorem Kp.row {α : Type} {d : Kd α} {e base : Nat} {ok : Nat → Prop} {v : Value} {xs : List α} (hR : d.R e w base ok v xs) (he : e ∈ X) (hg : w.grownBy w' v.ownBlock) : Kp X w w' := ⟨hg.size, fun k hk hn => hg.block k hk fun e' => by
  obtain ⟨cells, hc⟩ := Kd.R_typed hR k e'.symm
  exact hn e he _ hc⟩
theorem Stable.row {α : Type} (X : List Nat) (d : Kd α) (e base : Nat) (v : Value) (xs : List α) (hX : ∀ q, q ∈ e :: d.E → q ∉ X) : Stable X (fun w => d.R e w base (fun _ => True) v xs) := fun w w' h hk =>
  Kd.R_mono (Kd.R_step (Kd.R_bound h) fun k hb hlt => hk.2 k hlt fun t ht cs hc => by
    obtain ⟨_, _, _, q, hq, cells, hc'⟩ := hb
    rw [hc'] at hc
    injection hc with hc
    injection hc with _ hc
    exact hX q hq (hc ▸ ht)) (fun _ _ => trivial)
theorem Stable.rowQ {α : Type} (X : List Nat) (d : Kd α) (e base : Nat) (v : Value) (xs : List α) (hX : ∀ q, q ∈ e :: d.E → q ∉ X) : Stable X (fun w => d.Q e w base (fun _ => True) v xs) := fun w w' h hk =>
  Kd.Q_mono (Kd.Q_step (Kd.Q_bound h) fun k hb hlt => hk.2 k hlt fun t ht cs hc => by
    obtain ⟨_, _, _, q, hq, cells, hc'⟩ := hb
    rw [hc'] at hc
    injection hc with hc
    injection hc with _ hc
    exact hX q hq (hc ▸ ht)) (fun _ _ => trivial)
theorem Stable.box (X : List Nat) (g t : Nat) (cs : Array Value) (ht : t ∉ X) : Stable X (fun w => Box w g t cs) := fun w w' h hk =>
  (hk.2 g h.lt fun q hq cs' hc => by
    unfold Box at h
    rw [h] at hc
    injection hc with hc
    injection hc with _ hc
    exact ht (hc ▸ hq)).trans h
theorem Stable.and {Q : World → Prop} (h : Stable X P) (h' : Stable X Q) : Stable X (fun w => P w ∧ Q w) := fun w w' hp hk => ⟨h _ _ hp.1 hk, h' _ _ hp.2 hk⟩
theorem Kp.mono {X' : List Nat} (h : Kp X w w') (hX : ∀ t, t ∈ X → t ∈ X') : Kp X' w w' := ⟨h.1, fun k hk hn => h.2 k hk fun t ht => hn t (hX t ht)⟩
theorem Kp.trans {w2 : World} (h : Kp X w w') (h' : Kp X w' w2) : Kp X w w2 := ⟨Nat.le_trans h.1 h'.1, fun k hk hn => by
  have e := h.2 k hk hn
  exact (h'.2 k (Nat.lt_of_lt_of_le hk h.1) fun t ht cs => by rw [e]; exact hn t ht cs).trans e⟩
end
/-- New flags: four bytes of zero, 32 bits. -/
theorem info5z : (Try.prog.info? 5).map (·.size) = some 1 := by kernel_rfl
theorem info92 : (Try.prog.info? 92).map (·.size) = some 2 := by kernel_rfl
set_option maxHeartbeats 1600000 in
theorem flags_any (w : World) : Calls Try.prog 61 #[] w fun e w' => ∃ A c, e = .returned (.agg #[.slice A 4 c, .int .i64 32]) ∧ Below w.heap.size w w' := by
  have hmk : ∀ W : World, (Instr.makeSlice 83 (.int .i64 4) (.int .i64 4)).run Try.prog W = .ok (.slice (some ⟨W.heap.size, 0, none⟩) 4 4) (W.alloc (.cells (madeCells #[.int .u8 0] 4) 5)) := fun W =>
    print_make_of (P := Try.prog) 83 5 (.int .u8 0) 1 Try.underlying83 info5 rfl (by decide) 4 (by decide) W
  have hu := Try.underlying92
  go_enter Try.func61, Try.ntmps61
  go_wp2
  refine bodyPost_ret (results_cell_row rfl _ _ w.heap.size 92 _ (0, 0) _ rfl (((Box.new w _ 92).alloc _).alloc _) Try.underlying92 rfl info92) rfl ?_
  exact ⟨_, _, rfl, below_alloc (below_alloc (below_alloc (Below.refl _ _) _) _) _⟩
end Go.Proofs.Ytnipcocllhfaoaa.B

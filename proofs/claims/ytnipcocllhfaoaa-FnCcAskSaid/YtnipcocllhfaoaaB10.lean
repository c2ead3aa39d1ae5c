/- A cache of one byte; what CacheRead answers. Under what each theorem states. -/
import Derived.Test.YtnipcocllhfaoaaB9
namespace Go.Proofs.Ytnipcocllhfaoaa.B
open Go.RowKit Go.Proofs.YtnipcocllhfaoaaW.PrintWords Go.Proofs.YtnipcocllhfaoaaW.PrintLast
set_option linter.unusedVariables false
set_option linter.unusedSimpArgs false
set_option maxRecDepth 100000
set_option maxHeartbeats 1600000 in
theorem unmarshal_short (gb gc : Nat) (w : World) (hb : Box w gb 5 (nums .u8 [5]).toArray) (hc : Box w gc 79 #[.int .u8 0, .int .u16 0, .slice none 0 0, .string ⟨#[]⟩, .int .i32 0, .slice none 0 0, .slice none 0 0, .string ⟨#[]⟩]) :
    Calls Try.prog 32 #[.pointer (some ⟨gc, 0, none⟩), .slice (some ⟨gb, 0, none⟩) 1 1] w fun e w' => Dead e ∧ w.grownBy w' (some gc) := by
  have k0 : w.cell? ⟨gb, 0, none⟩ = some (.int .u8 5) := hb.cell 0 _ rfl
  obtain ⟨v, k, hbn⟩ := run_bounds (α := Value) Try.prog .i64 1 1 .index
  have hgb : gb < w.heap.size := hb.lt
  have hgc : gc < w.heap.size := hc.lt
  have hw5 : IntKind.i8.wrap 5 = 5 := by decide
  have i1 : ¬ ((0 : Int) ≤ 1 ∧ (1 : Int) < 1) := by omega
  go_enter Try.func32, Try.ntmps32
  go_wp2_with fail
  exact ⟨rfl, ⟨_, _⟩, grown_drewN (grown_alloc (World.grownBy.refl _ _) _) _⟩
/-- What is said of the head: the version, and where the principal begins. -/
def readHead (l : List Int) : Option (Nat × Nat) :=
  if l.getD 0 0 = 5 ∧ 1 < l.length then (if l.getD 1 0 = 3 then some (3, 2) else if l.getD 1 0 = 4 then (rHeader l 2).map fun q => (4, q) else none) else none
theorem readHead_some {l : List Int} {ver q : Nat} (h : readHead l = some (ver, q)) : l.getD 0 0 = 5 ∧ 1 < l.length ∧ l.getD 1 0 = (ver : Int) ∧ (ver = 3 ∧ q = 2 ∨ ver = 4 ∧ rHeader l 2 = some q) := by
  unfold readHead at h
  split at h
  · rename_i h5
    refine ⟨h5.1, h5.2, ?_⟩
    split at h
    · rename_i h3
      obtain ⟨rfl, rfl⟩ := Prod.mk.inj (Option.some.inj h)
      exact ⟨h3, .inl ⟨rfl, rfl⟩⟩
    · split at h
      · rename_i h4
        obtain ⟨q', hq, he⟩ := Option.map_eq_some_iff.1 h
        obtain ⟨rfl, rfl⟩ := Prod.mk.inj he
        exact ⟨h4, .inr ⟨rfl, hq⟩⟩
      · cases h
  · cases h
end Go.Proofs.Ytnipcocllhfaoaa.B

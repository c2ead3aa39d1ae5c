/- CacheRead reads a cache; under what each theorem states. -/
import Derived.Test.YtnipcocllhfaoaaB10
import Derived.Test.YtnipcocllhfaoaaA0
namespace Go.Proofs.Ytnipcocllhfaoaa.B
open Go.RowKit Go.Proofs.YtnipcocllhfaoaaW.PrintWords Go.Proofs.YtnipcocllhfaoaaW.PrintLast
open Go.Proofs.Ytnipcocllhfaoaa.A (S37 S47 S101 k101 k47)
set_option linter.unusedVariables false
set_option linter.unusedSimpArgs false
set_option maxRecDepth 100000
/-- CacheRead's variables for its results, the cache's block behind them. -/
structure Front (w0 w : World) (h0 h1 h2 h3 : Nat) (v0 v1 v2 v3 : Value) : Prop where
  b0 : Box w h0 5 #[v0]
  b1 : ∃ a b, Box w h1 37 #[v1, a, b]
  b2 : Box w h2 38 #[v2]
  b3 : Box w h3 4 #[v3]
  below : Below w0.heap.size w0 w
  n0 : w0.heap.size ≤ h0
  n1 : w0.heap.size ≤ h1
  n2 : w0.heap.size ≤ h2
  n3 : w0.heap.size ≤ h3
abbrev zero79 : Array Value := #[.int .u8 0, .int .u16 0, .slice none 0 0, .string ⟨#[]⟩, .int .i32 0, .slice none 0 0, .slice none 0 0, .string ⟨#[]⟩]
theorem front_new (w : World) : ∃ w1, w1 = ((((w.alloc (.cells #[.int .u8 0] 5)).alloc (.cells #[.string ⟨#[]⟩, .slice none 0 0, .int .i32 0] 37)).alloc (.cells #[.slice none 0 0] 38)).alloc (.cells #[.bool false] 4)).alloc (.cells #[.int .u8 0, .int .u16 0, .slice none 0 0, .string ⟨#[]⟩, .int .i32 0, .slice none 0 0, .slice none 0 0, .string ⟨#[]⟩] 79) ∧
    Front w w1 w.heap.size (w.heap.size + 1) (w.heap.size + 1 + 1) (w.heap.size + 1 + 1 + 1) (.int .u8 0) (.string ⟨#[]⟩) (.slice none 0 0) (.bool false) ∧ Box w1 (w.heap.size + 1 + 1 + 1 + 1) 79 zero79 := by
  refine ⟨_, rfl, ⟨((((Box.new w _ 5).alloc _).alloc _).alloc _).alloc _, ⟨_, _, (((Box.next w _ _ 37).alloc _).alloc _).alloc _⟩, ?_, ?_, below_alloc (below_alloc (below_alloc (below_alloc (below_alloc (Below.refl _ _) _) _) _) _) _, by omega, by omega, by omega, by omega⟩, ?_⟩
  · have := Box.next (w.alloc (.cells #[.int .u8 0] 5)) (.cells #[.string ⟨#[]⟩, .slice none 0 0, .int .i32 0] 37) #[.slice none 0 0] 38
    rw [World.size_alloc] at this
    exact (this.alloc _).alloc _
  · have := Box.next ((w.alloc (.cells #[.int .u8 0] 5)).alloc (.cells #[.string ⟨#[]⟩, .slice none 0 0, .int .i32 0] 37)) (.cells #[.slice none 0 0] 38) #[.bool false] 4
    rw [World.size_alloc, World.size_alloc] at this
    exact this.alloc _
  · have := Box.next (((w.alloc (.cells #[.int .u8 0] 5)).alloc (.cells #[.string ⟨#[]⟩, .slice none 0 0, .int .i32 0] 37)).alloc (.cells #[.slice none 0 0] 38)) (.cells #[.bool false] 4) zero79 79
    rw [World.size_alloc, World.size_alloc, World.size_alloc] at this
    exact this
section
variable {w0 w w' : World} {h0 h1 h2 h3 gc : Nat} {v0 v1 v2 v3 : Value} {cs : Array Value}
theorem Front.step (h : Front w0 w h0 h1 h2 h3 v0 v1 v2 v3) (hb : Below w.heap.size w w') : Front w0 w' h0 h1 h2 h3 v0 v1 v2 v3 :=
  ⟨h.b0.below hb, by obtain ⟨a, b, hh⟩ := h.b1; exact ⟨a, b, hh.below hb⟩, h.b2.below hb, h.b3.below hb, below_step h.below hb, h.n0, h.n1, h.n2, h.n3⟩
theorem below_grown {w0 w w' : World} {g : Nat} (hb : Below w0.heap.size w0 w) (hg : w.grownBy w' (some g)) (hge : w0.heap.size ≤ g) : Below w0.heap.size w0 w' :=
  ⟨hg.os.trans hb.os, hg.tape.trans hb.tape, hg.output.trans hb.output, Nat.le_trans hb.size hg.size, fun i hi => (hg.block i (Nat.lt_of_lt_of_le hi hb.size) (by intro e; injection e with e; omega)).trans (hb.block i hi)⟩
theorem Front.grown (h : Front w0 w h0 h1 h2 h3 v0 v1 v2 v3) (hc : Box w gc 79 cs) (hge : w0.heap.size ≤ gc) (hg : w.grownBy w' (some gc)) : Front w0 w' h0 h1 h2 h3 v0 v1 v2 v3 :=
  ⟨h.b0.blk hc (by decide) hg, by obtain ⟨a, b, hh⟩ := h.b1; exact ⟨a, b, hh.blk hc (by decide) hg⟩, h.b2.blk hc (by decide) hg, h.b3.blk hc (by decide) hg, below_grown h.below hg hge, h.n0, h.n1, h.n2, h.n3⟩
end
theorem Front.zeroed {w0 w : World} {h0 h1 h2 h3 : Nat} {v0 v1 v2 v3 a b : Value} (h : Front w0 w h0 h1 h2 h3 v0 v1 v2 v3) (h1b : Box w h1 37 #[v1, a, b]) (u0 u1 a1 b1 u2 u3 : Value) :
    ∃ w', w' = (((((w.setCell ⟨h0, 0, none⟩ u0).setCell ⟨h1, 0, none⟩ u1).setCell ⟨h1, 1, none⟩ a1).setCell ⟨h1, 2, none⟩ b1).setCell ⟨h2, 0, none⟩ u2).setCell ⟨h3, 0, none⟩ u3 ∧
      Box w' h0 5 #[u0] ∧ Box w' h1 37 #[u1, a1, b1] ∧ Box w' h2 38 #[u2] ∧ Box w' h3 4 #[u3] ∧ Below w0.heap.size w0 w' ∧ Kp [5, 37, 38, 4] w w' := by
  have n01 := h.b0.ne h1b (by decide)
  have n02 := h.b0.ne h.b2 (by decide)
  have n03 := h.b0.ne h.b3 (by decide)
  have n12 := h1b.ne h.b2 (by decide)
  have n13 := h1b.ne h.b3 (by decide)
  have n23 := h.b2.ne h.b3 (by decide)
  refine ⟨_, rfl, ?_, ?_, ?_, ?_, ?_, ?_⟩
  · exact (((((h.b0.puts 0 u0 rfl).far n01 0 u1).far n01 1 a1).far n01 2 b1).far n02 0 u2).far n03 0 u3
  · exact ((((((h1b.far n01.symm 0 u0).puts 0 u1 rfl).puts 1 a1 rfl).puts 2 b1 rfl).far n12 0 u2).far n13 0 u3)
  · exact ((((((h.b2.far n02.symm 0 u0).far n12.symm 0 u1).far n12.symm 1 a1).far n12.symm 2 b1).puts 0 u2 rfl).far n23 0 u3)
  · exact ((((((h.b3.far n03.symm 0 u0).far n13.symm 0 u1).far n13.symm 1 a1).far n13.symm 2 b1).far n23.symm 0 u2).puts 0 u3 rfl)
  · exact below_set (below_set (below_set (below_set (below_set (below_set h.below h.n0) h.n1) h.n1) h.n1) h.n2) h.n3
  · refine ⟨by simp, fun k hk hn => ?_⟩
    have k0 : k ≠ h0 := by rintro rfl; exact hn 5 (by simp) _ h.b0
    have k1 : k ≠ h1 := by rintro rfl; exact hn 37 (by simp) _ h1b
    have k2 : k ≠ h2 := by rintro rfl; exact hn 38 (by simp) _ h.b2
    have k3 : k ≠ h3 := by rintro rfl; exact hn 4 (by simp) _ h.b3
    rw [Below.heap_setCell _ _ _ _ k3, Below.heap_setCell _ _ _ _ k2, Below.heap_setCell _ _ _ _ k1, Below.heap_setCell _ _ _ _ k1, Below.heap_setCell _ _ _ _ k1, Below.heap_setCell _ _ _ _ k0]
/-- What CacheRead leaves where the bytes are refused by a panic. -/
def Refused (w : World) (e : Ending) (w' : World) : Prop := e = .returned (.tuple #[.int .u8 0, .agg #[.string ⟨#[]⟩, .slice none 0 0, .int .i32 0], .slice none 0 0, .bool false]) ∧ Below w.heap.size w w'
set_option maxHeartbeats 4000000 in
theorem cacheRead_dies (s : ByteArray) (w : World) (hs : s.size ≤ 1099511627776)
    (hU : ∀ (gb gc : Nat) (w1 : World), Box w1 gb 5 (nums .u8 (bytesOf s)).toArray → Box w1 gc 79 #[.int .u8 0, .int .u16 0, .slice none 0 0, .string ⟨#[]⟩, .int .i32 0, .slice none 0 0, .slice none 0 0, .string ⟨#[]⟩] →
      Calls Try.prog 32 #[.pointer (some ⟨gc, 0, none⟩), .slice (some ⟨gb, 0, none⟩) (bytesOf s).length (bytesOf s).length] w1 fun e w' => Dead e ∧ w1.grownBy w' (some gc)) :
    Calls Try.prog 15 #[.string s] w (Refused w) := by
  have hmf : ∀ (fn : Fn) (first cap : Array Value) (w : World), (Instr.makeFunc fn first cap).run Try.prog w = .ok (.func fn first cap) w := fun _ _ _ _ => rfl
  have HS := Aside0.mk hs
  have HU := Aside0.mk hU
  clear hs hU
  have hu79 := Try.underlying79
  have hu37 := Try.underlying37
  go_enter_defers Try.func15, Try.ntmps15
  go_wp2_with fail
  obtain ⟨w1, hw1, hF, hC⟩ := front_new w
  rw [← hw1]
  have n4 : w.heap.size ≤ w.heap.size + 1 + 1 + 1 + 1 := by omega
  clear hw1
  generalize w.heap.size + 1 + 1 + 1 + 1 = gc at *
  generalize w.heap.size + 1 + 1 + 1 = h3 at *
  generalize w.heap.size + 1 + 1 = h2 at *
  generalize w.heap.size + 1 = h1 at *
  have N4 := Aside0.mk n4
  have HF := Aside0.mk hF
  have HC := Aside0.mk hC
  clear n4 hF hC
  with_reducible refine (exact_any s _ HS.out).mono ?_
  rintro e w2 ⟨gb, rfl, hb, hge, hbl⟩
  have HF2 := Aside0.mk (HF.out.step hbl)
  have HC2 := Aside0.mk (HC.out.below hbl)
  have HB2 := Aside0.mk hb
  clear hb hge hbl HF HC
  go_wp2_with fail
  with_reducible refine (HU.out gb gc w2 HB2.out HC2.out).mono ?_
  rintro e w3 ⟨⟨ty, x⟩, hg⟩
  have HF3 := Aside0.mk (HF2.out.grown HC2.out N4.out hg)
  clear hg
  go_wp2_with fail
  obtain ⟨a1, a2, hb1⟩ := HF3.out.b1
  refine leaves_cons (f := 31) (args := #[.pointer (some ⟨w.heap.size, 0, none⟩), .pointer (some ⟨h1, 0, none⟩), .pointer (some ⟨h2, 0, none⟩), .pointer (some ⟨h3, 0, none⟩)]) (by simp) (by simp [go_sem]) ?_
  refine (panic31 _ _ _ _ ty x [] _ _ _ _ _ _ _ HF3.out.b0 hb1 HF3.out.b2 HF3.out.b3).mono ?_
  rintro e u' w'' ⟨rfl, rfl, hw''⟩
  obtain ⟨w4, e4, f0, f1, f2, f3, hbl, -⟩ := HF3.out.zeroed hb1 (.int .u8 0) (.string ⟨#[]⟩) (.slice none 0 0) (.int .i32 0) (.slice none 0 0) (.bool false)
  rw [← e4] at hw''
  subst hw''
  have k0 := f0.cell 0 _ rfl
  have k1 := f1.cell 0 _ rfl
  have k2 := f1.cell 1 _ rfl
  have k3 := f1.cell 2 _ rfl
  have k4 := f2.cell 0 _ rfl
  have k5 := f3.cell 0 _ rfl
  simp [Leaves, settle, results, Try.results15, go_sem, hu37] at *
  simp [k0, k1, k2, k3, k4, k5]
  exact ⟨rfl, hbl⟩
end Go.Proofs.Ytnipcocllhfaoaa.B

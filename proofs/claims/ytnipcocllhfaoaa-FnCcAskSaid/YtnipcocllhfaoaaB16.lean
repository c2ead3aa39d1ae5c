/- A cache is asked; under what each theorem states. Written by a program of this session. -/
import Derived.Test.YtnipcocllhfaoaaB15
namespace Go.Proofs.Ytnipcocllhfaoaa.B
open Go.RowKit Go.Proofs.YtnipcocllhfaoaaW.PrintWords Go.Proofs.YtnipcocllhfaoaaW.PrintLast
set_option linter.unusedVariables false
set_option linter.unusedSimpArgs false
set_option maxRecDepth 100000
/-! ### The seven results' variables -/
theorem R_far_lt {α : Type} {d : Kd α} {e base g i : Nat} {v u : Value} {xs : List α} {w : World} (h : d.R e w base (fun _ => True) v xs) (hg : g < base) : d.R e (w.setCell ⟨g, i, none⟩ u) base (fun _ => True) v xs :=
  Kd.R_mono (Kd.R_far (p := ⟨g, i, none⟩) (Kd.R_bound h) (fun k hk => by have := hk.2.1; show k ≠ g; omega) u) (fun _ _ => trivial)
theorem Box.grown {w w' : World} {g t : Nat} {cs : Array Value} {own : Option Nat} (h : Box w g t cs) (hg : w.grownBy w' own) (hne : ∀ j, own = some j → g < j) : Box w' g t cs := blk_grown h hg (fun e => by have := hne _ e.symm; omega)
theorem Kp.fresh {X : List Nat} {w0 w w' : World} {own : Option Nat} (h : Kp X w0 w) (hg : w.grownBy w' own) (hne : ∀ j, own = some j → w0.heap.size ≤ j) : Kp X w0 w' :=
  ⟨Nat.le_trans h.1 hg.size, fun k hk hn => (hg.block k (Nat.lt_of_lt_of_le hk h.1) (fun e => by have := hne _ e.symm; omega)).trans (h.2 k hk hn)⟩
theorem below_grownX {w0 w w' : World} {own : Option Nat} (hb : Below w0.heap.size w0 w) (hg : w.grownBy w' own) (hne : ∀ j, own = some j → w0.heap.size ≤ j) : Below w0.heap.size w0 w' :=
  ⟨hg.os.trans hb.os, hg.tape.trans hb.tape, hg.output.trans hb.output, Nat.le_trans hb.size hg.size, fun i hi => (hg.block i (Nat.lt_of_lt_of_le hi hb.size) (fun e => by have := hne _ e.symm; omega)).trans (hb.block i hi)⟩
structure Seven (w : World) (h0 h1 h2 h3 h4 h5 h6 : Nat) (v0 v1 v2 v3 v4 v5 v6 : Value) : Prop where
  b0 : Box w h0 9 #[v0]
  b1 : Box w h1 22 #[v1]
  b2 : Box w h2 22 #[v2]
  b3 : Box w h3 4 #[v3]
  b4 : Box w h4 9 #[v4]
  b5 : Box w h5 4 #[v5]
  b6 : Box w h6 4 #[v6]
  lt : h0 < h1 ∧ h1 < h2 ∧ h2 < h3 ∧ h3 < h4 ∧ h4 < h5 ∧ h5 < h6
section
variable {w w' : World} {h0 h1 h2 h3 h4 h5 h6 : Nat} {v0 v1 v2 v3 v4 v5 v6 : Value}
theorem Seven.below (h : Seven w h0 h1 h2 h3 h4 h5 h6 v0 v1 v2 v3 v4 v5 v6) (hb : Below w.heap.size w w') : Seven w' h0 h1 h2 h3 h4 h5 h6 v0 v1 v2 v3 v4 v5 v6 := ⟨h.b0.below hb, h.b1.below hb, h.b2.below hb, h.b3.below hb, h.b4.below hb, h.b5.below hb, h.b6.below hb, h.lt⟩
theorem Seven.grown {own : Option Nat} (h : Seven w h0 h1 h2 h3 h4 h5 h6 v0 v1 v2 v3 v4 v5 v6) (hg : w.grownBy w' own) (hne : ∀ j, own = some j → h6 < j) : Seven w' h0 h1 h2 h3 h4 h5 h6 v0 v1 v2 v3 v4 v5 v6 := ⟨h.b0.grown hg (fun j hj => by have := hne j hj; have := h.lt; omega), h.b1.grown hg (fun j hj => by have := hne j hj; have := h.lt; omega), h.b2.grown hg (fun j hj => by have := hne j hj; have := h.lt; omega), h.b3.grown hg (fun j hj => by have := hne j hj; have := h.lt; omega), h.b4.grown hg (fun j hj => by have := hne j hj; have := h.lt; omega), h.b5.grown hg (fun j hj => by have := hne j hj; have := h.lt; omega), h.b6.grown hg (fun j hj => by have := hne j hj; have := h.lt; omega), h.lt⟩
theorem Seven.put0 (h : Seven w h0 h1 h2 h3 h4 h5 h6 v0 v1 v2 v3 v4 v5 v6) (v : Value) : Seven (w.setCell ⟨h0, 0, none⟩ v) h0 h1 h2 h3 h4 h5 h6 v v1 v2 v3 v4 v5 v6 := ⟨h.b0.puts 0 v rfl, h.b1.far (by have := h.lt; omega) 0 v, h.b2.far (by have := h.lt; omega) 0 v, h.b3.far (by have := h.lt; omega) 0 v, h.b4.far (by have := h.lt; omega) 0 v, h.b5.far (by have := h.lt; omega) 0 v, h.b6.far (by have := h.lt; omega) 0 v, h.lt⟩
theorem Seven.put1 (h : Seven w h0 h1 h2 h3 h4 h5 h6 v0 v1 v2 v3 v4 v5 v6) (v : Value) : Seven (w.setCell ⟨h1, 0, none⟩ v) h0 h1 h2 h3 h4 h5 h6 v0 v v2 v3 v4 v5 v6 := ⟨h.b0.far (by have := h.lt; omega) 0 v, h.b1.puts 0 v rfl, h.b2.far (by have := h.lt; omega) 0 v, h.b3.far (by have := h.lt; omega) 0 v, h.b4.far (by have := h.lt; omega) 0 v, h.b5.far (by have := h.lt; omega) 0 v, h.b6.far (by have := h.lt; omega) 0 v, h.lt⟩
theorem Seven.put2 (h : Seven w h0 h1 h2 h3 h4 h5 h6 v0 v1 v2 v3 v4 v5 v6) (v : Value) : Seven (w.setCell ⟨h2, 0, none⟩ v) h0 h1 h2 h3 h4 h5 h6 v0 v1 v v3 v4 v5 v6 := ⟨h.b0.far (by have := h.lt; omega) 0 v, h.b1.far (by have := h.lt; omega) 0 v, h.b2.puts 0 v rfl, h.b3.far (by have := h.lt; omega) 0 v, h.b4.far (by have := h.lt; omega) 0 v, h.b5.far (by have := h.lt; omega) 0 v, h.b6.far (by have := h.lt; omega) 0 v, h.lt⟩
theorem Seven.put3 (h : Seven w h0 h1 h2 h3 h4 h5 h6 v0 v1 v2 v3 v4 v5 v6) (v : Value) : Seven (w.setCell ⟨h3, 0, none⟩ v) h0 h1 h2 h3 h4 h5 h6 v0 v1 v2 v v4 v5 v6 := ⟨h.b0.far (by have := h.lt; omega) 0 v, h.b1.far (by have := h.lt; omega) 0 v, h.b2.far (by have := h.lt; omega) 0 v, h.b3.puts 0 v rfl, h.b4.far (by have := h.lt; omega) 0 v, h.b5.far (by have := h.lt; omega) 0 v, h.b6.far (by have := h.lt; omega) 0 v, h.lt⟩
theorem Seven.put4 (h : Seven w h0 h1 h2 h3 h4 h5 h6 v0 v1 v2 v3 v4 v5 v6) (v : Value) : Seven (w.setCell ⟨h4, 0, none⟩ v) h0 h1 h2 h3 h4 h5 h6 v0 v1 v2 v3 v v5 v6 := ⟨h.b0.far (by have := h.lt; omega) 0 v, h.b1.far (by have := h.lt; omega) 0 v, h.b2.far (by have := h.lt; omega) 0 v, h.b3.far (by have := h.lt; omega) 0 v, h.b4.puts 0 v rfl, h.b5.far (by have := h.lt; omega) 0 v, h.b6.far (by have := h.lt; omega) 0 v, h.lt⟩
theorem Seven.put5 (h : Seven w h0 h1 h2 h3 h4 h5 h6 v0 v1 v2 v3 v4 v5 v6) (v : Value) : Seven (w.setCell ⟨h5, 0, none⟩ v) h0 h1 h2 h3 h4 h5 h6 v0 v1 v2 v3 v4 v v6 := ⟨h.b0.far (by have := h.lt; omega) 0 v, h.b1.far (by have := h.lt; omega) 0 v, h.b2.far (by have := h.lt; omega) 0 v, h.b3.far (by have := h.lt; omega) 0 v, h.b4.far (by have := h.lt; omega) 0 v, h.b5.puts 0 v rfl, h.b6.far (by have := h.lt; omega) 0 v, h.lt⟩
theorem Seven.put6 (h : Seven w h0 h1 h2 h3 h4 h5 h6 v0 v1 v2 v3 v4 v5 v6) (v : Value) : Seven (w.setCell ⟨h6, 0, none⟩ v) h0 h1 h2 h3 h4 h5 h6 v0 v1 v2 v3 v4 v5 v := ⟨h.b0.far (by have := h.lt; omega) 0 v, h.b1.far (by have := h.lt; omega) 0 v, h.b2.far (by have := h.lt; omega) 0 v, h.b3.far (by have := h.lt; omega) 0 v, h.b4.far (by have := h.lt; omega) 0 v, h.b5.far (by have := h.lt; omega) 0 v, h.b6.puts 0 v rfl, h.lt⟩
end
theorem seven_new (w : World) : ∃ w1, w1 = (((((((w.alloc (.cells #[.string ⟨#[]⟩] 9)).alloc (.cells #[.slice none 0 0] 22)).alloc (.cells #[.slice none 0 0] 22)).alloc (.cells #[.bool false] 4)).alloc (.cells #[.string ⟨#[]⟩] 9)).alloc (.cells #[.bool false] 4)).alloc (.cells #[.bool false] 4)).alloc (.cells zero79 79) ∧ Seven w1 w.heap.size (w.heap.size + 1) (w.heap.size + 1 + 1) (w.heap.size + 1 + 1 + 1) (w.heap.size + 1 + 1 + 1 + 1) (w.heap.size + 1 + 1 + 1 + 1 + 1) (w.heap.size + 1 + 1 + 1 + 1 + 1 + 1) (.string ⟨#[]⟩) (.slice none 0 0) (.slice none 0 0) (.bool false) (.string ⟨#[]⟩) (.bool false) (.bool false) ∧ Box w1 (w.heap.size + 1 + 1 + 1 + 1 + 1 + 1 + 1) 79 zero79 ∧ Below w.heap.size w w1 := by
  have x0 := Box.new w #[.string ⟨#[]⟩] 9
  have x1 := Box.new (w.alloc (.cells #[.string ⟨#[]⟩] 9)) #[.slice none 0 0] 22
  simp only [World.size_alloc] at x1
  have x2 := Box.new ((w.alloc (.cells #[.string ⟨#[]⟩] 9)).alloc (.cells #[.slice none 0 0] 22)) #[.slice none 0 0] 22
  simp only [World.size_alloc] at x2
  have x3 := Box.new (((w.alloc (.cells #[.string ⟨#[]⟩] 9)).alloc (.cells #[.slice none 0 0] 22)).alloc (.cells #[.slice none 0 0] 22)) #[.bool false] 4
  simp only [World.size_alloc] at x3
  have x4 := Box.new ((((w.alloc (.cells #[.string ⟨#[]⟩] 9)).alloc (.cells #[.slice none 0 0] 22)).alloc (.cells #[.slice none 0 0] 22)).alloc (.cells #[.bool false] 4)) #[.string ⟨#[]⟩] 9
  simp only [World.size_alloc] at x4
  have x5 := Box.new (((((w.alloc (.cells #[.string ⟨#[]⟩] 9)).alloc (.cells #[.slice none 0 0] 22)).alloc (.cells #[.slice none 0 0] 22)).alloc (.cells #[.bool false] 4)).alloc (.cells #[.string ⟨#[]⟩] 9)) #[.bool false] 4
  simp only [World.size_alloc] at x5
  have x6 := Box.new ((((((w.alloc (.cells #[.string ⟨#[]⟩] 9)).alloc (.cells #[.slice none 0 0] 22)).alloc (.cells #[.slice none 0 0] 22)).alloc (.cells #[.bool false] 4)).alloc (.cells #[.string ⟨#[]⟩] 9)).alloc (.cells #[.bool false] 4)) #[.bool false] 4
  simp only [World.size_alloc] at x6
  have x7 := Box.new (((((((w.alloc (.cells #[.string ⟨#[]⟩] 9)).alloc (.cells #[.slice none 0 0] 22)).alloc (.cells #[.slice none 0 0] 22)).alloc (.cells #[.bool false] 4)).alloc (.cells #[.string ⟨#[]⟩] 9)).alloc (.cells #[.bool false] 4)).alloc (.cells #[.bool false] 4)) zero79 79
  simp only [World.size_alloc] at x7
  refine ⟨_, rfl, ⟨((((((x0.alloc _).alloc _).alloc _).alloc _).alloc _).alloc _).alloc _, (((((x1.alloc _).alloc _).alloc _).alloc _).alloc _).alloc _, ((((x2.alloc _).alloc _).alloc _).alloc _).alloc _, (((x3.alloc _).alloc _).alloc _).alloc _, ((x4.alloc _).alloc _).alloc _, (x5.alloc _).alloc _, x6.alloc _, by omega⟩, x7, below_alloc (below_alloc (below_alloc (below_alloc (below_alloc (below_alloc (below_alloc (below_alloc (Below.refl _ _) _) _) _) _) _) _) _) _⟩
/-- What stays at the end. -/
structure Post (w0 : World) (B gp g : Nat) (p74 cs96 : Array Value) (v1 v2 vt : Value) (names ticks : List ByteArray) (tk : List Int) (w : World) : Prop where
  gpb : Box w gp 74 p74
  gb : Box w g 96 cs96
  tkr : (Kd.int .u8).R 5 w B (fun _ => True) vt tk
  rn : Kd.string.R 9 w B (fun _ => True) v1 names
  rt : Kd.string.R 9 w B (fun _ => True) v2 ticks
  bl : Below w0.heap.size w0 w
section
variable {w0 w w' : World} {B gp g : Nat} {p74 cs96 : Array Value} {v1 v2 vt : Value} {names ticks : List ByteArray} {tk : List Int}
theorem Post.below (h : Post w0 B gp g p74 cs96 v1 v2 vt names ticks tk w) (hb : Below w.heap.size w w') : Post w0 B gp g p74 cs96 v1 v2 vt names ticks tk w' :=
  ⟨h.gpb.below hb, h.gb.below hb, Kd.R_below h.tkr hb, Kd.R_below h.rn hb, Kd.R_below h.rt hb, below_step h.bl hb⟩
theorem Post.set {q t : Nat} {cs : Array Value} (h : Post w0 B gp g p74 cs96 v1 v2 vt names ticks tk w) (hq : Box w q t cs) (ht : t ≠ 74 ∧ t ≠ 96) (hB : q < B) (h0 : w0.heap.size ≤ q) (i : Nat) (v : Value) : Post w0 B gp g p74 cs96 v1 v2 vt names ticks tk (w.setCell ⟨q, i, none⟩ v) :=
  ⟨h.gpb.far (h.gpb.ne hq ht.1.symm) i v, h.gb.far (h.gb.ne hq ht.2.symm) i v, R_far_lt h.tkr hB, R_far_lt h.rn hB, R_far_lt h.rt hB, below_set h.bl h0⟩
end
def tkS (c : PCred) : ByteArray := strOfNums c.tk
def cacheAsk12.T12 : Bool × List (List Nat × List Nat) := (true, [([], []), ([0], [0]), ([], []), ([2, 1], [2]), ([3], [3]), ([], []), ([], []), ([], []), ([6, 7, 3], [6, 7]), ([], []), ([9], [9]), ([10], [10]), ([11], [11]), ([12], [12]), ([], []), ([1, 8, 0, 1], [1]), ([4, 15, 0, 1, 2, 3, 4, 15], [4]), ([5, 16, 0, 1, 2, 3, 4, 5, 15, 16], [5]), ([8, 17, 0, 1, 2, 3, 4, 5, 6, 7, 8, 15, 16, 17], [8]), ([13, 18, 0, 1, 2, 3, 4, 5, 6, 7, 8, 9, 10, 11, 12, 13, 15, 16, 17, 18], [13]), ([14, 19, 0, 1, 2, 3, 4, 5, 6, 7, 8, 9, 10, 11, 12, 13, 14, 15, 16, 17, 18, 19], [14]), ([20, 0, 1, 2, 3, 4, 5, 6, 7, 8, 9, 10, 11, 12, 13, 14, 15, 16, 17, 18, 19, 20], [])])
def cacheAsk12.B12 : List Nat := [0, 1, 0, 7, 15, 0, 0, 0, 207, 0, 512, 1536, 3584, 7680, 0, 463, 33247, 98815, 229887, 507903, 1048575, 2097151]
theorem cacheAsk12.tab12 : rtab .any (opsOf Try.f23 12) = cacheAsk12.T12 := by kernel_rfl
theorem cacheAsk12.bits12 : waitsOk cacheAsk12.T12.2 cacheAsk12.B12 = true := by kernel_rfl
set_option maxHeartbeats 40000000 in
theorem cacheAsk_any (s : ByteArray) (A : Option Addr) (c : Nat) (ys : List ByteArray) (w : World) (hs4 : s.size ≤ 4294967296) (ver q : Nat) (a : Prin) (r : List PCred) (hh : readHead (bytesOf s) = some (ver, q)) (hr : rCache ver (bytesOf s) q = some (a, r)) (hrs : ∀ x ∈ r, x.server.realm.size ≤ 1099511627776) (hy : Kd.C Kd.string w A ys.length ys) :
    Calls Try.prog 23 #[.string s, .slice A ys.length c] w fun e w' => ∃ v1 v2 : Value, e = .returned (.tuple #[.string a.realm, v1, v2, .bool (r.find? (fun c => decide (c.server.names = ys))).isSome, .string (strOfNums (ticketOf (r.find? (fun c => decide (c.server.names = ys))))), .bool (r.find? (fun c => decide (c.server.names = ys))).isSome, .bool true]) ∧
      Kd.string.R 9 w' w.heap.size (fun _ => True) v1 a.names ∧ Kd.string.R 9 w' w.heap.size (fun _ => True) v2 ((r.filter Told1).map tkS) ∧ Below w.heap.size w w' := by
  have hmf : ∀ (fn : Fn) (first cap : Array Value) (w : World), (Instr.makeFunc fn first cap).run Try.prog w = .ok (.func fn first cap) w := fun _ _ _ _ => rfl
  have hs : s.size ≤ 1099511627776 := by omega
  obtain ⟨fo, hfo⟩ : ∃ fo, r.find? (fun c => decide (c.server.names = ys)) = fo := ⟨_, rfl⟩
  rw [hfo]
  obtain ⟨fb, hfb⟩ : ∃ fb, fo.isSome = fb := ⟨_, rfl⟩
  rw [hfb]
  obtain ⟨tk, htk⟩ : ∃ tk, ticketOf fo = tk := ⟨_, rfl⟩
  rw [htk]
  obtain ⟨r', hr'⟩ : ∃ r', r.filter Told1 = r' := ⟨_, rfl⟩
  rw [hr']
  have HRF := Aside0.mk hr'
  clear hr'
  have HFO := Aside0.mk hfo
  have HFB := Aside0.mk hfb
  have HTK := Aside0.mk htk
  have HS := Aside0.mk hs
  have HS4 := Aside0.mk hs4
  have HRS := Aside0.mk hrs
  have HY := Aside0.mk hy
  have HH := Aside0.mk (readHead_some hh)
  have HR := Aside0.mk hr
  clear hs hs4 hh hr hrs hy hfo hfb htk
  have hu74 := Try.underlying74
  have hu76 := Try.underlying76
  have hu96 := Try.underlying96
  go_enter_defers Try.func23, Try.ntmps23
  go_wp2_with fail
  obtain ⟨w1, hw1, hQ, hC, hB⟩ := seven_new w
  unfold zero79 at hw1 hC
  rw [← hw1]
  have n7 : w.heap.size ≤ w.heap.size + 1 + 1 + 1 + 1 + 1 + 1 + 1 ∧ w.heap.size + 1 + 1 + 1 + 1 + 1 + 1 < w.heap.size + 1 + 1 + 1 + 1 + 1 + 1 + 1 ∧ w.heap.size ≤ w.heap.size := by omega
  clear hw1
  generalize w.heap.size + 1 + 1 + 1 + 1 + 1 + 1 + 1 = gc at *
  generalize w.heap.size + 1 + 1 + 1 + 1 + 1 + 1 = h6 at *
  generalize w.heap.size + 1 + 1 + 1 + 1 + 1 = h5 at *
  generalize w.heap.size + 1 + 1 + 1 + 1 = h4 at *
  generalize w.heap.size + 1 + 1 + 1 = h3 at *
  generalize w.heap.size + 1 + 1 = h2 at *
  generalize w.heap.size + 1 = h1 at *
  have N7 := Aside0.mk n7
  have Q1 := Aside0.mk hQ
  have C1 := Aside0.mk hC
  have BL1 := Aside0.mk hB
  clear n7 hQ hC hB
  with_reducible refine (exact_any s _ HS.out).mono ?_
  rintro e w2 ⟨gb, rfl, hb, hge, hbl⟩
  have Q2 := Aside0.mk (Q1.out.below hbl)
  have C2 := Aside0.mk (C1.out.below hbl)
  have BL2 := Aside0.mk (below_step BL1.out hbl)
  have HB2 := Aside0.mk hb
  clear hb hge hbl Q1 C1 BL1
  go_wp2_with fail
  with_reducible refine (unmarshal_any gb gc ver q (bytesOf s) w2 (okBytes_of HS.out) HB2.out C2.out HH.out.1 HH.out.2.1 HH.out.2.2.1 HH.out.2.2.2).mono ?_
  rintro e w3 ⟨hg, hm⟩
  rw [HR.out] at hm
  obtain ⟨rfl, y1, y2, A5, A6, c5, c6, gs, hb79, hnm, hpt, hcr⟩ := hm
  have Q3 := Aside0.mk (Q2.out.grown hg (fun j hj => by injection hj with hj; have := N7.out; omega))
  have BL3 := Aside0.mk (below_grownX BL2.out hg (fun j hj => by injection hj with hj; have := N7.out; omega))
  have HLB := Aside0.mk Q2.out.b6.lt
  obtain ⟨cs, hcs⟩ : ∃ cs : Array Value, cs = #[.int .u8 (ver : Int), y1, y2, .string a.realm, .int .i32 a.kind, .slice A5 a.names.length c5, .slice A6 gs.length c6, .string ⟨#[]⟩] := ⟨_, rfl⟩
  have K3 := Aside0.mk (show cs[3]? = some (.string a.realm) from by rw [hcs]; rfl)
  have K4 := Aside0.mk (show cs[4]? = some (.int .i32 a.kind) from by rw [hcs]; rfl)
  have K5 := Aside0.mk (show cs[5]? = some (.slice A5 a.names.length c5) from by rw [hcs]; rfl)
  have K6 := Aside0.mk (show cs[6]? = some (.slice A6 gs.length c6) from by rw [hcs]; rfl)
  rw [← hcs] at hb79
  clear hcs
  generalize hBB : w2.heap.size = B at *
  have D3 := Aside0.mk (show Held B gc cs (.slice A6 gs.length c6) gs r w3 from ⟨hb79, hpt, hcr⟩)
  have RN3 := Aside0.mk hnm
  have HBS := Aside0.mk (show B ≤ w3.heap.size from hBB ▸ hg.size)
  have hgl : gs.length ≤ 4294967297 := by have := (rCache_small HR.out).1; have := hcr.1; have := bytesOf_length s; have := HS4.out; omega
  have HGL := Aside0.mk hgl
  clear hg hb79 hnm hpt hcr hBB Q2 BL2 C2 HB2 hgl
  go_wp2_with fail
  with_reducible refine (getEntries_any B gc cs A6 c6 gs r w3 D3.out K6.out HGL.out HRS.out).mono ?_
  rintro e w4 ⟨Ae, ce, gs', rfl, hpe, hce, hle, hbl⟩
  have Q4 := Aside0.mk (Q3.out.below hbl)
  have D4 := Aside0.mk (D3.out.below hbl)
  have RN4 := Aside0.mk (Kd.R_below RN3.out hbl)
  have BL4 := Aside0.mk (below_step BL3.out hbl)
  have HBS4 := Aside0.mk (show B ≤ w4.heap.size from Nat.le_trans HBS.out hbl.size)
  have PE := Aside0.mk (Kd.R_lower hpe HBS.out)
  rw [HRF.out] at hce
  have CE := Aside0.mk hce
  have HGE := Aside0.mk (show gs'.length ≤ 4294967297 from Nat.le_trans hle HGL.out)
  have HLE := Aside0.mk hce.1
  have hge4 : gs'.length ≤ 4294967297 := Nat.le_trans hle HGL.out
  clear hpe hce hle hbl Q3 D3 RN3 BL3 HBS
  go_wp2_with fail
  go_loopw [26] (fun i wr => ∃ (k : Nat) (Ac : Option Addr) (cc : Nat), k ≤ gs'.length ∧ i = .int .i64 k ∧ Aside0 (Kp [22] w4 wr) ∧ Aside0 (Seven wr w.heap.size h1 h2 h3 h4 h5 h6 (.string ⟨#[]⟩) (.slice none 0 0) (.slice Ac k cc) (.bool false) (.string ⟨#[]⟩) (.bool false) (.bool false)) ∧
      Aside0 (Kd.string.R 9 wr w4.heap.size (fun _ => True) (.slice Ac k cc) ((r'.take k).map tkS)) ∧ Aside0 (Below w.heap.size w wr)) (fun i _ => gs'.length - (intOf i).toNat)
  case atStart => exact ⟨0, none, 0, Nat.zero_le _, rfl, ⟨Kp.refl _ _⟩, Q4, ⟨Kd.R_nil _ _ _ _ _⟩, BL4⟩
  clear Q4 BL4
  obtain ⟨k, Ac, cc, hk, rfl, KP, Q, RT, BL⟩ := hrel
  by_cases hlt : k < gs'.length
  case neg =>
    obtain rfl : k = gs'.length := by omega
    have hnl : ¬ ((gs'.length : Int) < (gs'.length : Int)) := by omega
    have RT2 := Aside0.mk (show Kd.string.R 9 wr w4.heap.size (fun _ => True) (.slice Ac gs'.length cc) (r'.map tkS) from by
      have := RT.out
      rwa [List.take_of_length_le (by have := HLE.out; omega)] at this)
    have RNr := Aside0.mk ((Stable.row [22] Kd.string 9 B (.slice A5 a.names.length c5) a.names (by decide)) _ _ RN4.out KP.out)
    have Dr := Aside0.mk (D4.out.kp (X := [22]) (by decide) KP.out)
    have HSZ := Aside0.mk (Nat.le_trans HBS4.out KP.out.1)
    clear RT KP D4 RN4 CE PE hlt hk
    go_upto_region 11 with fail
    have BLn : Below wr.heap.size wr (wr.alloc (.cells #[.int .i32 0, .slice A ys.length c] 74)) := below_alloc (Below.refl _ _) _
    have GPn : Box (wr.alloc (.cells #[.int .i32 0, .slice A ys.length c] 74)) wr.heap.size 74 #[.int .i32 0, .slice A ys.length c] := Box.new wr _ 74
    generalize wr.alloc (.cells #[.int .i32 0, .slice A ys.length c] 74) = w8 at *
    have HGPB := Aside0.mk (show B ≤ wr.heap.size from HSZ.out)
    generalize hgp : wr.heap.size = gp at GPn ⊢
    have GP8 := Aside0.mk GPn
    have Q8 := Aside0.mk (Q.out.below BLn)
    have RT8 := Aside0.mk (Kd.R_below RT2.out BLn)
    have RN8 := Aside0.mk (Kd.R_below RNr.out BLn)
    have D8 := Aside0.mk (Dr.out.below BLn)
    have BL8 := Aside0.mk (below_step BL.out BLn)
    have p0 := GPn.cell 0 _ rfl
    have p1 := GPn.cell 1 _ rfl
    clear GPn BLn Q RT2 RNr Dr BL hgp HGPB HSZ
    go_wp2_with fail
    have hcall := getEntry_any B gc cs A6 c6 gs r 0 ys A c w8 D8.out K6.out HGL.out (Kd.C_below HY.out BL8.out)
    rw [HFO.out, HFB.out, HTK.out] at hcall
    with_reducible refine hcall.mono ?_
    clear hcall p0 p1
    rintro e w9 ⟨g, rfl, ht, hbl⟩
    obtain ⟨cs96, At, ct, hgb, h21, htr⟩ := ht
    have GP9 := Aside0.mk (GP8.out.below hbl)
    have Q9 := Aside0.mk (Q8.out.below hbl)
    have RT9 := Aside0.mk (Kd.R_below RT8.out hbl)
    have RN9 := Aside0.mk (Kd.R_below RN8.out hbl)
    have D9 := Aside0.mk (D8.out.below hbl)
    have BL9 := Aside0.mk (below_step BL8.out hbl)
    have K21 := Aside0.mk h21
    have P9 := Aside0.mk (show Post w B gp g #[.int .i32 0, .slice A ys.length c] cs96 (.slice A5 a.names.length c5) (.slice Ac gs'.length cc) (.slice At tk.length ct) a.names (r'.map tkS) tk w9 from ⟨GP9.out, hgb, htr, RN9.out, Kd.R_lower RT9.out HBS4.out, BL9.out⟩)
    have c5_ := Q9.out.b5.cell 0 _ rfl
    have f5_ := Q9.out.b5.free 0
    clear hgb h21 htr hbl GP8 Q8 RT8 RN8 D8 BL8 GP9 RT9 RN9 BL9
    go_upto_region 12 with fail
    have HIN := Aside0.mk (show (w.heap.size < B ∧ h1 < B ∧ h2 < B ∧ h3 < B ∧ h4 < B ∧ h5 < B ∧ h6 < B) ∧ (w.heap.size ≤ w.heap.size ∧ w.heap.size ≤ h1 ∧ w.heap.size ≤ h2 ∧ w.heap.size ≤ h3 ∧ w.heap.size ≤ h4 ∧ w.heap.size ≤ h5 ∧ w.heap.size ≤ h6) from by have := Q9.out.lt; have := HLB.out; omega)
    have D10 := Aside0.mk (D9.out.kp (X := [4]) (by decide) (Kp.set Q9.out.b5 (by decide) 0 (.bool fb)))
    have P10 := Aside0.mk (P9.out.set Q9.out.b5 (by decide) HIN.out.1.2.2.2.2.2.1 HIN.out.2.2.2.2.2.2.1 0 (.bool fb))
    have Q10 := Aside0.mk (Q9.out.put5 (.bool fb))
    clear c5_ f5_ D9 P9 Q9
    generalize w9.setCell ⟨h5, 0, none⟩ (.bool fb) = w10 at *
    have hfd : ∀ w' : World, (Instr.field 74 (.agg #[.int .i32 a.kind, .slice A5 a.names.length c5]) 1).run Try.prog w' = .ok (.slice A5 a.names.length c5) w' := fun _ => by kernel_rfl
    obtain ⟨wx, hwx⟩ : ∃ wx, wx = w10.drew := ⟨_, rfl⟩
    have hbd : Below w10.heap.size w10 wx := hwx ▸ below_drew (Below.refl _ _)
    have Q0 := Aside0.mk (Q10.out.below hbd)
    have P0 := Aside0.mk (P10.out.below hbd)
    have D0 := Aside0.mk (D10.out.below hbd)
    clear Q10 P10 D10
    have HSF : Aside0 (∀ w' v0 v1 v3 v4 v6, Seven w' w.heap.size h1 h2 h3 h4 h5 h6 v0 v1 (.slice Ac gs'.length cc) v3 v4 (.bool fb) v6 → Post w B gp g #[.int .i32 0, .slice A ys.length c] cs96 (.slice A5 a.names.length c5) (.slice Ac gs'.length cc) (.slice At tk.length ct) a.names (r'.map tkS) tk w' → (w'.cell? ⟨h2, 0, none⟩ = some (.slice Ac gs'.length cc)) ∧ (w'.cell? ⟨h5, 0, none⟩ = some (.bool fb)) ∧ (w'.cell? ⟨gp, 0, none⟩ = some (.int .i32 0)) ∧ (w'.cell? ⟨gp, 1, none⟩ = some (.slice A ys.length c)) ∧ (w'.cell? ⟨g, 21, none⟩ = some (.slice At tk.length ct)) ∧ ((convert 83 9 (.slice At tk.length ct)).run Try.prog w' = .ok (.string (strOfNums tk)) w')) := ⟨fun w' v0 v1 v3 v4 v6 hq_ hp_ => ⟨hq_.b2.cell 0 _ rfl, hq_.b5.cell 0 _ rfl, hp_.gpb.cell 0 _ rfl, hp_.gpb.cell 1 _ rfl, hp_.gb.cell 21 _ K21.out, own_string Try.underlying83 Try.underlying5 Try.underlying9 (Kd.own_of_R hp_.tkr)⟩⟩
    refine wp_region_noPanic ?_
    refine start_ (n := 22) (S := fun w' => w'.cell? ⟨h2, 0, none⟩ = some (.slice Ac gs'.length cc) ∧ w'.cell? ⟨h5, 0, none⟩ = some (.bool fb) ∧ w'.cell? ⟨gp, 0, none⟩ = some (.int .i32 0) ∧ w'.cell? ⟨gp, 1, none⟩ = some (.slice A ys.length c) ∧ w'.cell? ⟨g, 21, none⟩ = some (.slice At tk.length ct) ∧ (convert 83 9 (.slice At tk.length ct)).run Try.prog w' = .ok (.string (strOfNums tk)) w') (ds := []) #[false, false, false, false, false, false, false, false, false, false, false, false, false, false, false, false, false, false, false, false, false, false] (by kernel_rfl) rfl rfl ((hwx ▸ HSF.out _ _ _ _ _ _ Q0.out P0.out)) (fun hHeld => ?_)
    refine with_tabW cacheAsk12.tab12 cacheAsk12.bits12 (fun HT_ HW_ => ?_)
    rw [← hwx] at hHeld ⊢
    clear hwx hbd
    refine pure_ (i := 0) (N := some 47) (v := ?_) (a' := ?_) #[true, false, false, false, false, false, false, false, false, false, false, false, false, false, false, false, false, false, false, false, false, false] rfl rfl (any_of HT_.out (by kernel_rfl)) (fun _ _ _ h => h) (Or.inl ⟨by rfl, ?_⟩) ?_ ?_
    rotate_left
    · intro w'
      go_simp
      with_reducible rfl
    rotate_left
    · simp only [Act.put, List.setIfInBounds_toArray, List.set_cons_zero, List.set_cons_succ, i64_w, i32_w]
      rfl
    refine pure_ (i := 2) (N := some 49) (v := ?_) (a' := ?_) #[true, false, true, false, false, false, false, false, false, false, false, false, false, false, false, false, false, false, false, false, false, false] rfl rfl (any_of HT_.out (by kernel_rfl)) (fun _ _ _ h => h) (Or.inl ⟨by rfl, ?_⟩) ?_ ?_
    rotate_left
    · intro w'
      go_simp
      with_reducible rfl
    rotate_left
    · simp only [Act.put, List.setIfInBounds_toArray, List.set_cons_zero, List.set_cons_succ, i64_w, i32_w]
      rfl
    refine pure_ (i := 6) (N := some 53) (v := ?_) (a' := ?_) #[true, false, true, false, false, false, true, false, false, false, false, false, false, false, false, false, false, false, false, false, false, false] rfl rfl (any_of HT_.out (by kernel_rfl)) (fun _ _ _ h => h) (Or.inl ⟨by rfl, ?_⟩) ?_ ?_
    rotate_left
    · intro w'
      go_simp
      with_reducible rfl
    rotate_left
    · simp only [Act.put, List.setIfInBounds_toArray, List.set_cons_zero, List.set_cons_succ, i64_w, i32_w]
      rfl
    refine pure_ (i := 9) (N := some 56) (v := ?_) (a' := ?_) #[true, false, true, false, false, false, true, false, false, true, false, false, false, false, false, false, false, false, false, false, false, false] rfl rfl (any_of HT_.out (by kernel_rfl)) (fun _ _ _ h => h) (Or.inl ⟨by rfl, ?_⟩) ?_ ?_
    rotate_left
    · intro w'
      go_simp
      with_reducible rfl
    rotate_left
    · simp only [Act.put, List.setIfInBounds_toArray, List.set_cons_zero, List.set_cons_succ, i64_w, i32_w]
      rfl
    refine pure_ (i := 10) (N := some 57) (v := ?_) (a' := ?_) #[true, false, true, false, false, false, true, false, false, true, true, false, false, false, false, false, false, false, false, false, false, false] rfl rfl (any_of HT_.out (by kernel_rfl)) (fun _ _ _ h => h) (Or.inl ⟨by rfl, ?_⟩) ?_ ?_
    rotate_left
    · intro w'
      go_simp
      with_reducible rfl
    rotate_left
    · simp only [Act.put, List.setIfInBounds_toArray, List.set_cons_zero, List.set_cons_succ, i64_w, i32_w]
      rfl
    refine pure_ (i := 11) (N := some 58) (v := ?_) (a' := ?_) #[true, false, true, false, false, false, true, false, false, true, true, true, false, false, false, false, false, false, false, false, false, false] rfl rfl (any_of HT_.out (by kernel_rfl)) (fun _ _ _ h => h) (Or.inl ⟨by rfl, ?_⟩) ?_ ?_
    rotate_left
    · intro w'
      go_simp
      with_reducible rfl
    rotate_left
    · simp only [Act.put, List.setIfInBounds_toArray, List.set_cons_zero, List.set_cons_succ, i64_w, i32_w]
      rfl
    refine take_ (i := 5) (N := some 52) (v := ?_) (a' := ?_) #[true, false, true, false, false, true, true, false, false, true, true, true, false, false, false, false, false, false, false, false, false, false] rfl rfl (take_ofW HT_.out HW_.out (by kernel_rfl)) (fun _ _ _ h => h) (Or.inl ⟨by rfl, ?_⟩) hHeld ?_ ?_
    rotate_left
    · rintro w' ⟨s0, s1, s2, s3, s4, s5⟩
      go_simp
      with_reducible rfl
    rotate_left
    · simp only [Act.put, List.setIfInBounds_toArray, List.set_cons_zero, List.set_cons_succ, i64_w, i32_w]
      rfl
    refine take_ (i := 7) (N := some 54) (v := ?_) (a' := ?_) #[true, false, true, false, false, true, true, true, false, true, true, true, false, false, false, false, false, false, false, false, false, false] rfl rfl (take_ofW HT_.out HW_.out (by kernel_rfl)) (fun _ _ _ h => h) (Or.inl ⟨by rfl, ?_⟩) hHeld ?_ ?_
    rotate_left
    · rintro w' ⟨s0, s1, s2, s3, s4, s5⟩
      go_simp
      with_reducible rfl
    rotate_left
    · simp only [Act.put, List.setIfInBounds_toArray, List.set_cons_zero, List.set_cons_succ, i64_w, i32_w]
      rfl
    refine take_ (i := 12) (N := some 59) (v := ?_) (a' := ?_) #[true, false, true, false, false, true, true, true, false, true, true, true, true, false, false, false, false, false, false, false, false, false] rfl rfl (take_ofW HT_.out HW_.out (by kernel_rfl)) (fun _ _ _ h => h) (Or.inl ⟨by rfl, ?_⟩) hHeld ?_ ?_
    rotate_left
    · rintro w' ⟨s0, s1, s2, s3, s4, s5⟩
      go_simp
      with_reducible rfl
    rotate_left
    · simp only [Act.put, List.setIfInBounds_toArray, List.set_cons_zero, List.set_cons_succ, i64_w, i32_w]
      rfl
    refine take_ (i := 13) (N := some 60) (v := ?_) (a' := ?_) #[true, false, true, false, false, true, true, true, false, true, true, true, true, true, false, false, false, false, false, false, false, false] rfl rfl (take_ofW HT_.out HW_.out (by kernel_rfl)) (fun _ _ _ h => h) (Or.inl ⟨by rfl, ?_⟩) hHeld ?_ ?_
    rotate_left
    · rintro w' ⟨s0, s1, s2, s3, s4, s5⟩
      go_simp
      with_reducible rfl
    rotate_left
    · simp only [Act.put, List.setIfInBounds_toArray, List.set_cons_zero, List.set_cons_succ, i64_w, i32_w]
      rfl
    refine take_ (i := 14) (N := some 61) (v := ?_) (a' := ?_) #[true, false, true, false, false, true, true, true, false, true, true, true, true, true, true, false, false, false, false, false, false, false] rfl rfl (take_ofW HT_.out HW_.out (by kernel_rfl)) (fun _ _ _ h => h) (Or.inl ⟨by rfl, ?_⟩) hHeld ?_ ?_
    rotate_left
    · rintro w' ⟨s0, s1, s2, s3, s4, s5⟩
      go_simp
      with_reducible rfl
    rotate_left
    · simp only [Act.put, List.setIfInBounds_toArray, List.set_cons_zero, List.set_cons_succ, i64_w, i32_w]
      rfl
    refine one_ (i := 1) (N := some 48) #[true, true, true, false, false, true, true, true, false, true, true, true, true, true, true, false, false, false, false, false, false, false] rfl rfl (one_of HT_.out (by kernel_rfl)) (by decide) (fun K hK => ?_)
    refine goes_ Try.func42 (by kernel_rfl) rfl #[.pointer (some ⟨gc, 0, none⟩)] (by rfl) rfl rfl (by simp only [List.map_toArray, List.map_cons, List.map_nil]; rfl) ?_
    with_reducible refine (clientRealm_any gc a.realm _ (D0.out.cache.cell 3 _ K3.out)).mono ?_
    rintro e wy1 ⟨rfl, hb_⟩
    refine ⟨_, rfl, ?_⟩
    have Q1 := Aside0.mk (Q0.out.below hb_)
    have P1 := Aside0.mk (P0.out.below hb_)
    have D1 := Aside0.mk (D0.out.below hb_)
    clear hb_ Q0 P0 D0
    refine hK.out _ _ (HSF.out _ _ _ _ _ _ Q1.out P1.out) (fun hHeld => ?_)
    clear hK K
    refine norm_ (a' := ?_) ?_ ?_
    rotate_left
    · show Act.put _ (some 48) _ = _
      simp only [Act.put, List.setIfInBounds_toArray, List.set_cons_zero, List.set_cons_succ, i64_w, i32_w]
      rfl
    refine one_ (i := 3) (N := some 50) #[true, true, true, true, false, true, true, true, false, true, true, true, true, true, true, false, false, false, false, false, false, false] rfl rfl (one_of HT_.out (by kernel_rfl)) (by decide) (fun K hK => ?_)
    refine goes_ Try.func43 (by kernel_rfl) rfl #[.pointer (some ⟨gc, 0, none⟩)] (by rfl) rfl rfl (by simp only [List.map_toArray, List.map_cons, List.map_nil]; rfl) ?_
    with_reducible refine (clientName_any gc a.kind A5 a.names.length c5 _ (D1.out.cache.cell 4 _ K4.out) (D1.out.cache.cell 5 _ K5.out) D1.out.cache.lt).mono ?_
    rintro e wy2 ⟨rfl, hb_⟩
    refine ⟨_, rfl, ?_⟩
    have Q2 := Aside0.mk (Q1.out.below hb_)
    have P2 := Aside0.mk (P1.out.below hb_)
    have D2 := Aside0.mk (D1.out.below hb_)
    clear hb_ Q1 P1 D1
    refine hK.out _ _ (HSF.out _ _ _ _ _ _ Q2.out P2.out) (fun hHeld => ?_)
    clear hK K
    refine norm_ (a' := ?_) ?_ ?_
    rotate_left
    · show Act.put _ (some 50) _ = _
      simp only [Act.put, List.setIfInBounds_toArray, List.set_cons_zero, List.set_cons_succ, i64_w, i32_w]
      rfl
    refine pure_ (i := 4) (N := some 51) (v := ?_) (a' := ?_) #[true, true, true, true, true, true, true, true, false, true, true, true, true, true, true, false, false, false, false, false, false, false] rfl rfl (any_of HT_.out (by kernel_rfl)) (fun _ _ _ h => h) (Or.inl ⟨by rfl, ?_⟩) ?_ ?_
    rotate_left
    · intro w'
      go_simp
      with_reducible rfl
    rotate_left
    · simp only [Act.put, List.setIfInBounds_toArray, List.set_cons_zero, List.set_cons_succ, i64_w, i32_w]
      rfl
    refine one_ (i := 8) (N := some 55) #[true, true, true, true, true, true, true, true, true, true, true, true, true, true, true, false, false, false, false, false, false, false] rfl rfl (one_of HT_.out (by kernel_rfl)) (by decide) (fun K hK => ?_)
    have hcall := contains_any B gc cs A6 c6 gs r 0 ys A c _ D2.out K6.out HGL.out (Kd.C_below HY.out P2.out.bl)
    rw [HFO.out, HFB.out] at hcall
    refine goes_ Try.func44 (by kernel_rfl) rfl #[.pointer (some ⟨gc, 0, none⟩), .agg #[.int .i32 0, .slice A ys.length c]] (by rfl) rfl rfl (by simp only [List.map_toArray, List.map_cons, List.map_nil]; rfl) ?_
    with_reducible refine (hcall).mono ?_
    rintro e wy3 ⟨rfl, hb_⟩
    refine ⟨_, rfl, ?_⟩
    clear hcall
    have Q3 := Aside0.mk (Q2.out.below hb_)
    have P3 := Aside0.mk (P2.out.below hb_)
    have D3 := Aside0.mk (D2.out.below hb_)
    clear hb_ Q2 P2 D2
    refine hK.out _ _ (HSF.out _ _ _ _ _ _ Q3.out P3.out) (fun hHeld => ?_)
    clear hK K
    refine norm_ (a' := ?_) ?_ ?_
    rotate_left
    · show Act.put _ (some 55) _ = _
      simp only [Act.put, List.setIfInBounds_toArray, List.set_cons_zero, List.set_cons_succ, i64_w, i32_w]
      rfl
    refine one_ (i := 15) (N := none) #[true, true, true, true, true, true, true, true, true, true, true, true, true, true, true, true, false, false, false, false, false, false] rfl rfl (one_of HT_.out (by kernel_rfl)) (by decide) (fun K hK => ?_)
    have c_ := Q3.out.b0.cell 0 _ rfl
    have f_ := Q3.out.b0.free 0
    refine skip_ (w1 := ?_) (by rfl) rfl ?_ ?_
    rotate_left
    · go_simp
      rfl
    clear c_ f_
    have P4 := Aside0.mk (P3.out.set Q3.out.b0 (by decide) HIN.out.1.1 HIN.out.2.1 0 (.string a.realm))
    have Q4 := Aside0.mk (Q3.out.put0 (.string a.realm))
    clear P3 Q3
    refine hK.out _ _ (HSF.out _ _ _ _ _ _ Q4.out P4.out) (fun hHeld => ?_)
    clear hK K
    refine one_ (i := 16) (N := none) #[true, true, true, true, true, true, true, true, true, true, true, true, true, true, true, true, true, false, false, false, false, false] rfl rfl (one_of HT_.out (by kernel_rfl)) (by decide) (fun K hK => ?_)
    have c_ := Q4.out.b1.cell 0 _ rfl
    have f_ := Q4.out.b1.free 0
    refine skip_ (w1 := ?_) (by rfl) rfl ?_ ?_
    rotate_left
    · go_simp
      rfl
    clear c_ f_
    have P5 := Aside0.mk (P4.out.set Q4.out.b1 (by decide) HIN.out.1.2.1 HIN.out.2.2.1 0 (.slice A5 a.names.length c5))
    have Q5 := Aside0.mk (Q4.out.put1 (.slice A5 a.names.length c5))
    clear P4 Q4
    refine hK.out _ _ (HSF.out _ _ _ _ _ _ Q5.out P5.out) (fun hHeld => ?_)
    clear hK K
    refine one_ (i := 17) (N := none) #[true, true, true, true, true, true, true, true, true, true, true, true, true, true, true, true, true, true, false, false, false, false] rfl rfl (one_of HT_.out (by kernel_rfl)) (by decide) (fun K hK => ?_)
    have c_ := Q5.out.b2.cell 0 _ rfl
    have f_ := Q5.out.b2.free 0
    refine skip_ (w1 := ?_) (by rfl) rfl ?_ ?_
    rotate_left
    · go_simp
      rfl
    clear c_ f_
    have P6 := Aside0.mk (P5.out.set Q5.out.b2 (by decide) HIN.out.1.2.2.1 HIN.out.2.2.2.1 0 (.slice Ac gs'.length cc))
    have Q6 := Aside0.mk (Q5.out.put2 (.slice Ac gs'.length cc))
    clear P5 Q5
    refine hK.out _ _ (HSF.out _ _ _ _ _ _ Q6.out P6.out) (fun hHeld => ?_)
    clear hK K
    refine one_ (i := 18) (N := none) #[true, true, true, true, true, true, true, true, true, true, true, true, true, true, true, true, true, true, true, false, false, false] rfl rfl (one_of HT_.out (by kernel_rfl)) (by decide) (fun K hK => ?_)
    have c_ := Q6.out.b3.cell 0 _ rfl
    have f_ := Q6.out.b3.free 0
    refine skip_ (w1 := ?_) (by rfl) rfl ?_ ?_
    rotate_left
    · go_simp
      rfl
    clear c_ f_
    have P7 := Aside0.mk (P6.out.set Q6.out.b3 (by decide) HIN.out.1.2.2.2.1 HIN.out.2.2.2.2.1 0 (.bool fb))
    have Q7 := Aside0.mk (Q6.out.put3 (.bool fb))
    clear P6 Q6
    refine hK.out _ _ (HSF.out _ _ _ _ _ _ Q7.out P7.out) (fun hHeld => ?_)
    clear hK K
    refine one_ (i := 19) (N := none) #[true, true, true, true, true, true, true, true, true, true, true, true, true, true, true, true, true, true, true, true, false, false] rfl rfl (one_of HT_.out (by kernel_rfl)) (by decide) (fun K hK => ?_)
    have c_ := Q7.out.b4.cell 0 _ rfl
    have f_ := Q7.out.b4.free 0
    refine skip_ (w1 := ?_) (by rfl) rfl ?_ ?_
    rotate_left
    · go_simp
      rfl
    clear c_ f_
    have P8 := Aside0.mk (P7.out.set Q7.out.b4 (by decide) HIN.out.1.2.2.2.2.1 HIN.out.2.2.2.2.2.1 0 (.string (strOfNums tk)))
    have Q8 := Aside0.mk (Q7.out.put4 (.string (strOfNums tk)))
    clear P7 Q7
    refine hK.out _ _ (HSF.out _ _ _ _ _ _ Q8.out P8.out) (fun hHeld => ?_)
    clear hK K
    refine one_ (i := 20) (N := none) #[true, true, true, true, true, true, true, true, true, true, true, true, true, true, true, true, true, true, true, true, true, false] rfl rfl (one_of HT_.out (by kernel_rfl)) (by decide) (fun K hK => ?_)
    have c_ := Q8.out.b5.cell 0 _ rfl
    have f_ := Q8.out.b5.free 0
    refine skip_ (w1 := ?_) (by rfl) rfl ?_ ?_
    rotate_left
    · go_simp
      rfl
    clear c_ f_
    have P9 := Aside0.mk (P8.out.set Q8.out.b5 (by decide) HIN.out.1.2.2.2.2.2.1 HIN.out.2.2.2.2.2.2.1 0 (.bool fb))
    have Q9 := Aside0.mk (Q8.out.put5 (.bool fb))
    clear P8 Q8
    refine hK.out _ _ (HSF.out _ _ _ _ _ _ Q9.out P9.out) (fun hHeld => ?_)
    clear hK K
    refine one_ (i := 21) (N := none) #[true, true, true, true, true, true, true, true, true, true, true, true, true, true, true, true, true, true, true, true, true, true] rfl rfl (one_of HT_.out (by kernel_rfl)) (by decide) (fun K hK => ?_)
    have c_ := Q9.out.b6.cell 0 _ rfl
    have f_ := Q9.out.b6.free 0
    refine skip_ (w1 := ?_) (by rfl) rfl ?_ ?_
    rotate_left
    · go_simp
      rfl
    clear c_ f_
    have P10 := Aside0.mk (P9.out.set Q9.out.b6 (by decide) HIN.out.1.2.2.2.2.2.2 HIN.out.2.2.2.2.2.2.2 0 (.bool true))
    have Q10 := Aside0.mk (Q9.out.put6 (.bool true))
    clear P9 Q9
    refine hK.out _ _ (HSF.out _ _ _ _ _ _ Q10.out P10.out) (fun hHeld => ?_)
    clear hK K
    refine done_ (done_of HT_.out (by kernel_rfl)) ?_
    refine NoPanic.normal ?_
    have k0 := Q10.out.b0.cell 0 _ rfl
    have k1 := Q10.out.b1.cell 0 _ rfl
    have k2 := Q10.out.b2.cell 0 _ rfl
    have k3 := Q10.out.b3.cell 0 _ rfl
    have k4 := Q10.out.b4.cell 0 _ rfl
    have k5 := Q10.out.b5.cell 0 _ rfl
    have k6 := Q10.out.b6.cell 0 _ rfl
    have hRN := Aside0.mk (Kd.R_lower P10.out.rn (Nat.le_of_lt HIN.out.1.1))
    have hRT := Aside0.mk (Kd.R_lower P10.out.rt (Nat.le_of_lt HIN.out.1.1))
    have HBL := Aside0.mk P10.out.bl
    clear Q10 P10
    go_wp2_with fail
    refine leaves_cons (f := 39) (args := #[.pointer (some ⟨w.heap.size, 0, none⟩), .pointer (some ⟨h1, 0, none⟩), .pointer (some ⟨h2, 0, none⟩), .pointer (some ⟨h3, 0, none⟩), .pointer (some ⟨h4, 0, none⟩), .pointer (some ⟨h5, 0, none⟩), .pointer (some ⟨h6, 0, none⟩)]) (by simp) (by simp [go_sem]) ?_
    refine (idle39 _ _ _ _ _ _ _ _).mono ?_
    rintro e u' w'' ⟨rfl, rfl, rfl⟩
    simp [Leaves, settle, results, Try.results23, go_sem] at *
    simp [k0, k1, k2, k3, k4, k5, k6]
    first | exact ⟨_, _, rfl, hRN.out, hRT.out, HBL.out⟩ | exact ⟨_, _, ⟨rfl, rfl⟩, hRN.out, hRT.out, HBL.out⟩

  have hlt' : (k : Int) < (gs'.length : Int) := by omega
  have hk0 : (0 : Int) ≤ (k : Int) := by omega
  have HLT := Aside0.mk hlt
  have PEr := Aside0.mk ((Stable.row [22] kPtr 85 B (.slice Ae gs'.length ce) gs' (by decide)) _ _ PE.out KP.out)
  obtain ⟨gq, eA, e7⟩ := ptr_at PEr.out k hlt rfl
  subst eA
  obtain ⟨cr, hc⟩ : ∃ cr, r'[k]? = some cr := ⟨_, List.getElem?_eq_getElem (by rw [← HLE.out]; exact hlt)⟩
  obtain ⟨g, hg⟩ : ∃ g, gs'[k]? = some g := ⟨_, List.getElem?_eq_getElem hlt⟩
  have e8 : gs'.getD k 0 = g := by simp [List.getD_eq_getElem?_getD, hg]
  rw [e8] at e7
  obtain ⟨X2, X5, X7, X17, X19, X20, X21, X22, z2, z5, z7, z17, z19, z20, z21, z22, hbx, -, -, -, -, -, -, q7, -⟩ := CredAt.stable [22] _ _ _ (by decide) _ _ (CE.out.2 k g cr hg hc) KP.out
  have HBX := Aside0.mk (Box.drew hbx)
  have HQ7 := Aside0.mk (Kd.R_drew q7)
  have HC := Aside0.mk hc
  clear hc hg e8 hbx q7 PEr
  go_upto_region 8 with fail
  clear e7
  obtain ⟨wx, hwx⟩ : ∃ wx, wx = wr.drew := ⟨_, rfl⟩
  have hbd : Below wr.heap.size wr wx := hwx ▸ below_drew (Below.refl _ _)
  rw [← hwx] at HBX HQ7
  have Qx := Aside0.mk (Q.out.below hbd)
  have RTx := Aside0.mk (Kd.R_below RT.out hbd)
  have KPx := Aside0.mk (KP.out.trans (Kp.below [22] hbd))
  have BLx := Aside0.mk (below_step BL.out hbd)
  have HSZ := Aside0.mk (show w4.heap.size ≤ wx.heap.size from KPx.out.1)
  have HL6 := Aside0.mk (show h6 < w4.heap.size from Nat.lt_of_lt_of_le HLB.out HBS4.out)
  have HNX := Aside0.mk (show (r'.take k).map tkS ++ [strOfNums cr.tk] = (r'.take (k + 1)).map tkS from by rw [List.take_add_one, HC.out]; simp [tkS])
  have HLN := Aside0.mk (show ((r'.take (k + 1)).map tkS).length = k + 1 from by have := HLT.out; have := HLE.out; simp; omega)
  have HZZ := Aside0.mk (show (((r'.take k).map tkS).length + 1) * 16 ≤ 140737488355328 from by have := HLT.out; have := HGE.out; simp; omega)
  clear Q RT KP BL
  have HSX : Aside0 (∀ w', Below wx.heap.size wx w' → (w'.cell? ⟨h2, 0, none⟩ = some (.slice Ac k cc)) ∧ (w'.cell? ⟨g, 21, none⟩ = some (.slice X21 cr.tk.length z21)) ∧ ((convert 83 9 (.slice X21 cr.tk.length z21)).run Try.prog w' = .ok (.string (strOfNums cr.tk)) w')) := ⟨fun w' hb_ => ⟨(Qx.out.below hb_).b2.cell 0 _ rfl, (HBX.out.below hb_).cell 21 _ rfl, own_string Try.underlying83 Try.underlying5 Try.underlying9 (Kd.own_of_R (Kd.R_below HQ7.out hb_))⟩⟩
  refine wp_region_noPanic ?_
  refine start_ (n := 9) (S := fun w' => w'.cell? ⟨h2, 0, none⟩ = some (.slice Ac k cc) ∧ w'.cell? ⟨g, 21, none⟩ = some (.slice X21 cr.tk.length z21) ∧ (convert 83 9 (.slice X21 cr.tk.length z21)).run Try.prog w' = .ok (.string (strOfNums cr.tk)) w') (ds := [7, 8]) #[false, false, false, false, false, false, false, false, false] (by kernel_rfl) rfl rfl ((hwx ▸ HSX.out _ (Below.refl _ _))) (fun hHeld => ?_)
  rw [← hwx] at hHeld ⊢
  clear hwx hbd
  refine pure_ (i := 1) (N := some 31) (v := ?_) (a' := ?_) #[false, true, false, false, false, false, false, false, false] rfl rfl (by kernel_rfl) (fun _ _ _ h => h) (Or.inl ⟨by rfl, ?_⟩) ?_ ?_
  rotate_left
  · intro w'
    go_simp
    with_reducible rfl
  rotate_left
  · simp only [Act.put, List.setIfInBounds_toArray, List.set_cons_zero, List.set_cons_succ, i64_w, i32_w]
    rfl
  refine pure_ (i := 2) (N := some 32) (v := ?_) (a' := ?_) #[false, true, true, false, false, false, false, false, false] rfl rfl (by kernel_rfl) (fun _ _ _ h => h) (Or.inl ⟨by rfl, ?_⟩) ?_ ?_
  rotate_left
  · intro w'
    go_simp
    with_reducible rfl
  rotate_left
  · simp only [Act.put, List.setIfInBounds_toArray, List.set_cons_zero, List.set_cons_succ, i64_w, i32_w]
    rfl
  refine pure_ (i := 3) (N := some 33) (v := ?_) (a' := ?_) #[false, true, true, true, false, false, false, false, false] rfl rfl (by kernel_rfl) (fun _ _ _ h => h) (Or.inl ⟨by rfl, ?_⟩) ?_ ?_
  rotate_left
  · intro w'
    go_simp
    with_reducible rfl
  rotate_left
  · simp only [Act.put, List.setIfInBounds_toArray, List.set_cons_zero, List.set_cons_succ, i64_w, i32_w]
    rfl
  refine take_ (i := 0) (N := some 30) (v := ?_) (a' := ?_) #[true, true, true, true, false, false, false, false, false] rfl rfl (by kernel_rfl) (fun _ _ _ h => h) (Or.inl ⟨by rfl, ?_⟩) hHeld ?_ ?_
  rotate_left
  · rintro w' ⟨s0, s1, s2⟩
    go_simp
    with_reducible rfl
  rotate_left
  · simp only [Act.put, List.setIfInBounds_toArray, List.set_cons_zero, List.set_cons_succ, i64_w, i32_w]
    rfl
  refine take_ (i := 4) (N := some 34) (v := ?_) (a' := ?_) #[true, true, true, true, true, false, false, false, false] rfl rfl (by kernel_rfl) (fun _ _ _ h => h) (Or.inl ⟨by rfl, ?_⟩) hHeld ?_ ?_
  rotate_left
  · rintro w' ⟨s0, s1, s2⟩
    go_simp
    with_reducible rfl
  rotate_left
  · simp only [Act.put, List.setIfInBounds_toArray, List.set_cons_zero, List.set_cons_succ, i64_w, i32_w]
    rfl
  refine take_ (i := 5) (N := some 35) (v := ?_) (a' := ?_) #[true, true, true, true, true, true, false, false, false] rfl rfl (by kernel_rfl) (fun _ _ _ h => h) (Or.inl ⟨by rfl, ?_⟩) hHeld ?_ ?_
  rotate_left
  · rintro w' ⟨s0, s1, s2⟩
    go_simp
    with_reducible rfl
  rotate_left
  · simp only [Act.put, List.setIfInBounds_toArray, List.set_cons_zero, List.set_cons_succ, i64_w, i32_w]
    rfl
  refine one_ (i := 6) (N := some 36) #[true, true, true, true, true, true, true, false, false] rfl rfl (by kernel_rfl) (by decide) (fun K hK => ?_)
  refine value_ (w1 := ?_) (v := ?_) (by rfl) rfl ?_ ?_
  rotate_left 2
  · go_simp
    constructor
    · rfl
    · rfl
  refine hK.out _ _ (HSX.out _ (below_alloc (Below.refl _ _) _)) (fun hHeld => ?_)
  clear hK K
  refine norm_ (a' := ?_) ?_ ?_
  rotate_left
  · show Act.put _ (some 36) _ = _
    simp only [Act.put, List.setIfInBounds_toArray, List.set_cons_zero, List.set_cons_succ, i64_w, i32_w]
    rfl
  refine last_ (i := 7) (N := some 37) #[true, true, true, true, true, true, true, true, false] rfl rfl (by kernel_rfl) (by decide) (fun K hK => ?_)
  refine Kd.R_append_step Kd.string (w0 := wx) w4.heap.size (by rfl) (.tmp 30) (.tmp 36) 22 9 (.string ⟨#[]⟩) 16 (by rfl) Try.underlying22 info9 rfl (by decide) (by decide) (.slice Ac k cc) ((r'.take k).map tkS) (strOfNums cr.tk) [.string (strOfNums cr.tk)] (fun _ => True) (fun _ => False) (by rfl) (by rfl) rfl (fun _ h => h.elim) (fun _ _ => trivial) RTx.out (below_low (Below.refl _ wx) HSZ.out) HSZ.out HZZ.out ?_
  intro v6 w6 hv6 hb6 hg6 hat6
  rw [HNX.out] at hv6
  obtain ⟨Ac6, cc6, ev6⟩ := Kd.R_slice hv6
  rw [HLN.out] at ev6
  subst ev6
  have RT6 := Aside0.mk hv6
  have Q6 := Aside0.mk (Qx.out.grown hg6 (fun j hj => by have := Kd.R_base RTx.out j hj; have := HL6.out; omega))
  have KP6 := Aside0.mk (KPx.out.fresh hg6 (fun j hj => Kd.R_base RTx.out j hj))
  have BL6 := Aside0.mk (below_grownX BLx.out hg6 (fun j hj => by have := Kd.R_base RTx.out j hj; have := HL6.out; have := Qx.out.lt; omega))
  clear hv6 hb6 hg6 hat6
  refine hK.out _ _ ?_
  clear hK K
  refine norm_ (a' := ?_) ?_ ?_
  rotate_left
  · show Act.put _ (some 37) _ = _
    simp only [Act.put, List.setIfInBounds_toArray, List.set_cons_zero, List.set_cons_succ, i64_w, i32_w]
    rfl
  refine last_ (i := 8) (N := none) #[true, true, true, true, true, true, true, true, true] rfl rfl (by kernel_rfl) (by decide) (fun K hK => ?_)
  have c2_ := Q6.out.b2.cell 0 (.slice Ac k cc) rfl
  have f2_ := Q6.out.b2.free 0
  refine skip_ (w1 := ?_) (by rfl) rfl ?_ ?_
  rotate_left
  · go_simp
    rfl
  clear c2_ f2_
  refine hK.out _ _ ?_
  clear hK K
  refine done_ (by kernel_rfl) ?_

  refine NoPanic.normal ?_
  have KP7 := Aside0.mk (KP6.out.trans (Kp.set Q6.out.b2 (by decide) 0 (.slice Ac6 (k + 1) cc6)))
  have RT7 := Aside0.mk (R_far_lt (i := 0) (u := .slice Ac6 (k + 1) cc6) RT6.out (show h2 < w4.heap.size from by have := Q6.out.lt; have := HL6.out; omega))
  have BL7 := Aside0.mk (below_set (j := 0) (v := .slice Ac6 (k + 1) cc6) BL6.out (show w.heap.size ≤ h2 from by have := Q6.out.lt; omega))
  have Q7 := Aside0.mk (Q6.out.put2 (.slice Ac6 (k + 1) cc6))
  clear KP6 RT6 BL6 Q6 Qx RTx KPx BLx HBX HQ7 HSX
  go_wp2_with fail
  go_roundw
  case rel => exact ⟨k + 1, Ac6, cc6, by have := HLT.out; omega, by go_num, KP7, Q7, RT7, BL7⟩
  case measure => have := HLT.out; simp [intOf]; omega
end Go.Proofs.Ytnipcocllhfaoaa.B

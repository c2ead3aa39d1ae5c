/- Readers of data, times, addresses and authorization data; under what each theorem states. -/
import Derived.Test.YtnipcocllhfaoaaB2
namespace Go.Proofs.Ytnipcocllhfaoaa.B
open Go.RowKit Go.Proofs.YtnipcocllhfaoaaW.PrintWords Go.Proofs.YtnipcocllhfaoaaW.PrintLast
set_option linter.unusedVariables false
set_option linter.unusedSimpArgs false
set_option maxRecDepth 100000
/-- Their number, and so many bytes. -/
def rData (l : List Int) (p : Nat) : Option (List Int × Nat) := (r32 l p).bind fun x => rBytes l x.2 x.1
theorem rData_le {l : List Int} {p p' : Nat} {a : List Int} (h : rData l p = some (a, p')) : p' ≤ l.length ∧ p ≤ p' := by
  unfold rData at h
  obtain ⟨⟨n, p1⟩, h1, h2⟩ := Option.bind_eq_some_iff.1 h
  have := r32_le h1
  have := rBytes_le h2
  omega
set_option maxHeartbeats 1600000 in
theorem readData_any (gb gp ge p : Nat) (l : List Int) (w : World) (hl : okBytes l) (hs : Src w gb ge l) (hp : Pos w gp p) (hpl : p ≤ l.length) :
    Calls Try.prog 58 #[.slice (some ⟨gb, 0, none⟩) l.length l.length, .pointer (some ⟨gp, 0, none⟩), .pointer (some ⟨ge, 0, none⟩)] w (Ret (fun a v w' => (Kd.int .u8).R 5 w' w.heap.size (fun _ => True) v a) w gp (rData l p)) := by
  have HL := Aside0.mk hl
  have HS := Aside0.mk hs
  have HP := Aside0.mk hp
  clear hl hs hp
  go_enter Try.func58, Try.ntmps58
  go_wp2_with fail
  refine (readInt32_any gb gp ge p l _ HL.out HS.out HP.out hpl).mono ?_
  intro e w1 h1
  rcases h1.cases with ⟨hr, ⟨dt, dx⟩, hg⟩ | ⟨n, p1, v, hr, rfl, rfl, hg, hp1⟩
  · exact ⟨rfl, Ret.dies (by simp [rData, hr]) ⟨_, _⟩ hg⟩
  · have HR := Aside0.mk hr
    have HG := Aside0.mk hg
    have HP1 := Aside0.mk hp1
    obtain ⟨q1, _, q2, q3⟩ := r32_le HR.out
    clear h1 hr hg hp1
    go_wp2_with fail
    with_reducible refine (readBytes_any gb gp ge p1 n l _ HL.out (HS.out.grown HP.out HG.out) HP1.out (r32_le HR.out).1 (by have := r32_le HR.out; omega)).mono ?_
    intro e w2 h2
    rcases h2.cases with ⟨hr, ⟨dt, dx⟩, hg⟩ | ⟨bs, p2, v, hr, rfl, hv, hg, hp2⟩
    · exact ⟨rfl, Ret.dies (by simp [rData, HR.out, hr]) ⟨_, _⟩ (HG.out.trans hg)⟩
    · have HR2 := Aside0.mk hr
      have HG2 := Aside0.mk hg
      have HP2 := Aside0.mk hp2
      have HV := Aside0.mk hv
      clear h2 hr hg hp2 hv
      go_wp2
      go_ret
      exact Ret.gives (by simp [rData, HR.out, HR2.out]) rfl (Kd.R_lower HV.out HG.out.size) (HG.out.trans HG2.out) HP2.out

/-! ### What a walk through readers holds -/
structure At (w0 w : World) (gb gp ge : Nat) (l : List Int) (p : Nat) : Prop where
  src : Src w gb ge l
  pos : Pos w gp p
  grown : w0.grownBy w (some gp)
/-- A block of so many cells. -/
def Box (w : World) (g t : Nat) (cs : Array Value) : Prop := w.heap[g]? = some (.cells cs t (0, 0))
section
variable {w0 w w' : World} {gb gp ge p p' g t : Nat} {l : List Int} {cs : Array Value}
theorem At.start (hs : Src w gb ge l) (hp : Pos w gp p) : At w w gb gp ge l p := ⟨hs, hp, World.grownBy.refl _ _⟩
theorem At.call (h : At w0 w gb gp ge l p) (hg : w.grownBy w' (some gp)) (hp : Pos w' gp p') : At w0 w' gb gp ge l p' := ⟨h.src.grown h.pos hg, hp, h.grown.trans hg⟩
theorem At.below (h : At w0 w gb gp ge l p) (hb : Below w.heap.size w w') : At w0 w' gb gp ge l p := ⟨h.src.below hb, h.pos.below hb, grown_below h.grown hb⟩
theorem At.alloc (h : At w0 w gb gp ge l p) (o : Obj) : At w0 (w.alloc o) gb gp ge l p := h.below (below_alloc (Below.refl _ _) _)
theorem At.set (h : At w0 w gb gp ge l p) (hb : Box w g t cs) (ht : t ≠ 3 ∧ t ≠ 5 ∧ t ≠ 117) (hg : w0.heap.size ≤ g) (i : Nat) (v : Value) : At w0 (w.setCell ⟨g, i, none⟩ v) gb gp ge l p :=
  ⟨h.src.set hb ht.2.1 ht.2.2, h.pos.set hb ht.1, grown_set h.grown (.inl hg)⟩
theorem At.size (h : At w0 w gb gp ge l p) : w0.heap.size ≤ w.heap.size := h.grown.size
theorem Box.below (hb : Box w g t cs) (h : Below w.heap.size w w') : Box w' g t cs := blk_below hb h
theorem Box.alloc (hb : Box w g t cs) (o : Obj) : Box (w.alloc o) g t cs := blk_alloc hb o
theorem Box.new (w : World) (cs : Array Value) (t : Nat) : Box (w.alloc (.cells cs t)) w.heap.size t cs := blk_new w _
theorem Box.call (hb : Box w g t cs) (hp : Pos w gp p) (ht : t ≠ 3) (hg : w.grownBy w' (some gp)) : Box w' g t cs := blk_grown hb hg (fun e => by injection e with e; exact blk_ne hb hp ht e)
theorem Box.put (hb : Box w g t cs) (i : Nat) (v : Value) : Box (w.setCell ⟨g, i, none⟩ v) g t (cs.setIfInBounds i v) := blk_set hb i v
theorem Box.puts {cs' : Array Value} (hb : Box w g t cs) (i : Nat) (v : Value) (h : cs.setIfInBounds i v = cs') : Box (w.setCell ⟨g, i, none⟩ v) g t cs' := h ▸ blk_set hb i v
theorem Box.far (hb : Box w g t cs) {g' : Nat} (hne : g ≠ g') (i : Nat) (v : Value) : Box (w.setCell ⟨g', i, none⟩ v) g t cs := blk_far hb hne v
theorem Box.ne (hb : Box w g t cs) {g' t' : Nat} {cs' : Array Value} (hb' : Box w g' t' cs') (ht : t ≠ t') : g ≠ g' := blk_ne hb hb' ht
theorem Box.lt (hb : Box w g t cs) : g < w.heap.size := blk_lt hb
theorem Box.cell (hb : Box w g t cs) (i : Nat) (v : Value) (h : cs[i]? = some v) : w.cell? ⟨g, i, none⟩ = some v := (blk_cell hb i).trans h
theorem Box.free (hb : Box w g t cs) (i : Nat) : w.frozen? ⟨g, i, none⟩ = false := blk_frozen hb i
end
section
variable {α : Type} {d : Kd α} {e base : Nat} {w w' : World} {v : Value} {xs : List α} {gp p : Nat}
/-- Rows of the call's own, behind a reader. -/
theorem row_call (h : d.R e w base (fun _ => True) v xs) (hp : Pos w gp p) (ht : ∀ q, q ∈ e :: d.E → q ≠ 3) (hg : w.grownBy w' (some gp)) : d.R e w' base (fun _ => True) v xs :=
  Kd.R_mono (Kd.R_grown (Kd.R_types h hp ht) hg (fun k hk e => by injection e with e; exact hk.2 e)) (fun _ _ => trivial)
theorem row_set {g t : Nat} {cs : Array Value} (h : d.R e w base (fun _ => True) v xs) (hb : Box w g t cs) (ht : ∀ q, q ∈ e :: d.E → q ≠ t) (i : Nat) (u : Value) : d.R e (w.setCell ⟨g, i, none⟩ u) base (fun _ => True) v xs :=
  Kd.R_set h hb ht i u
end
theorem info90 : (Try.prog.info? 90).map (·.size) = some 2 := by kernel_rfl
theorem info100 : (Try.prog.info? 100).map (·.size) = some 2 := by kernel_rfl
theorem info103 : (Try.prog.info? 103).map (·.size) = some 2 := by kernel_rfl
set_option maxHeartbeats 800000 in
theorem unix_any (n k : Int) (w : World) : Calls Try.prog 65 #[.int .i64 n, .int .i64 k] w fun e w' => e = .returned (.agg #[.int .i64 n, .bool true]) ∧ Below w.heap.size w w' := by
  have hu := Try.underlying90
  go_enter Try.func65, Try.ntmps65
  go_wp2
  refine bodyPost_ret (v := .agg #[.int .i64 n, .bool true]) (by simp [results, Try.results65, go_sem]) rfl ⟨rfl, ?_⟩
  exact below_alloc (Below.refl _ _) _
theorem Box.next (w : World) (o : Obj) (cs : Array Value) (t : Nat) : Box ((w.alloc o).alloc (.cells cs t)) (w.heap.size + 1) t cs := by
  have h := Box.new (w.alloc o) cs t
  rw [show (w.alloc o).heap.size = w.heap.size + 1 from by simp] at h
  exact h
set_option maxHeartbeats 1600000 in
theorem readTimestamp_any (gb gp ge p : Nat) (l : List Int) (w : World) (hl : okBytes l) (hs : Src w gb ge l) (hp : Pos w gp p) (hpl : p ≤ l.length) :
    Calls Try.prog 59 #[.slice (some ⟨gb, 0, none⟩) l.length l.length, .pointer (some ⟨gp, 0, none⟩), .pointer (some ⟨ge, 0, none⟩)] w (Ret (fun a v w' => v = .agg #[.int .i64 a, .bool true]) w gp (r32 l p)) := by
  have HL := Aside0.mk hl
  have A0 := Aside0.mk (At.alloc (At.start hs hp) (.cells #[.int .i64 0, .bool false] 90))
  have B0 := Aside0.mk (Box.new w #[.int .i64 0, .bool false] 90)
  have hu := Try.underlying90
  clear hl hs hp
  go_enter Try.func59, Try.ntmps59
  go_wp2_with fail
  generalize w.alloc (Obj.cells #[.int .i64 0, .bool false] 90) = w1 at *
  with_reducible refine (readInt32_any gb gp ge p l _ HL.out A0.out.src A0.out.pos hpl).mono ?_
  intro e w2 h1
  rcases h1.cases with ⟨hr, ⟨dt, dx⟩, hg⟩ | ⟨n, p1, v, hr, rfl, rfl, hg, hp1⟩
  · exact ⟨rfl, Ret.dies hr ⟨_, _⟩ (A0.out.grown.trans hg)⟩
  · have HR := Aside0.mk hr
    have A1 := Aside0.mk (A0.out.call hg hp1)
    have B1 := Aside0.mk (B0.out.call A0.out.pos (by decide) hg)
    obtain ⟨q1, _, q2, q3⟩ := r32_le HR.out
    clear h1 hr hg hp1
    go_wp2_with fail
    with_reducible refine (unix_any n 0 _).mono ?_
    rintro e w3 ⟨rfl, hb⟩
    have A2 := Aside0.mk (A1.out.below hb)
    have B2 := Aside0.mk (B1.out.below hb)
    have c0 := B2.out.cell 0 (.int .i64 0) rfl
    have c1 := B2.out.cell 1 (.bool false) rfl
    have f0 := B2.out.free 0
    have f1 := B2.out.free 1
    clear hb
    go_wp2
    have B3 := (B2.out.puts 0 (.int .i64 n) rfl).puts (cs' := #[.int .i64 n, .bool true]) 1 (.bool true) rfl
    refine bodyPost_ret (results_cell_row rfl _ _ w.heap.size 90 #[.int .i64 n, .bool true] (0, 0) _ rfl B3 Try.underlying90 rfl info90) rfl ?_
    have A3 := (A2.out.set B2.out (by decide) (Nat.le_refl _) 0 (.int .i64 n)).set (B2.out.put 0 (.int .i64 n)) (by decide) (Nat.le_refl _) 1 (.bool true)
    exact Ret.gives HR.out rfl rfl A3.grown A3.pos
/-- A number of two bytes, and data. -/
def rPart (l : List Int) (p : Nat) : Option ((Int × List Int) × Nat) := (r16 l p).bind fun x => (rData l x.2).bind fun y => some ((x.1, y.1), y.2)
theorem r16_range {l : List Int} {p p' : Nat} {a : Int} (h : r16 l p = some (a, p')) : -32768 ≤ a ∧ a < 32768 := by
  unfold r16 at h; split at h
  · obtain ⟨rfl, rfl⟩ := Prod.mk.inj (Option.some.inj h)
    simp [IntKind.wrap, IntKind.bits, IntKind.signed]
    omega
  · cases h
theorem rPart_le {l : List Int} {p p' : Nat} {a : Int × List Int} (h : rPart l p = some (a, p')) : p' ≤ l.length ∧ p ≤ p' := by
  unfold rPart at h
  obtain ⟨⟨n, p1⟩, h1, h2⟩ := Option.bind_eq_some_iff.1 h
  obtain ⟨⟨b, p2⟩, h3, h4⟩ := Option.bind_eq_some_iff.1 h2
  obtain ⟨_, rfl⟩ := Prod.mk.inj (Option.some.inj h4)
  have := r16_le h1
  have := rData_le h3
  simp only at *
  omega
set_option maxHeartbeats 3200000 in
theorem readAddress_any (gb gp ge p : Nat) (l : List Int) (w : World) (hl : okBytes l) (hs : Src w gb ge l) (hp : Pos w gp p) (hpl : p ≤ l.length) :
    Calls Try.prog 62 #[.slice (some ⟨gb, 0, none⟩) l.length l.length, .pointer (some ⟨gp, 0, none⟩), .pointer (some ⟨ge, 0, none⟩)] w
      (Ret (fun a v w' => ∃ u, v = .agg #[.int .i32 a.1, u] ∧ (Kd.int .u8).R 5 w' w.heap.size (fun _ => True) u a.2) w gp (rPart l p)) := by
  have HL := Aside0.mk hl
  have A0 := Aside0.mk (At.alloc (At.alloc (At.start hs hp) (.cells #[.int .i32 0, .slice none 0 0] 100)) (.cells #[.int .i32 0, .slice none 0 0] 100))
  have B0 := Aside0.mk (Box.alloc (Box.new w #[.int .i32 0, .slice none 0 0] 100) (.cells #[.int .i32 0, .slice none 0 0] 100))
  have C0 := Aside0.mk (Box.next w (.cells #[.int .i32 0, .slice none 0 0] 100) #[.int .i32 0, .slice none 0 0] 100)
  have hu := Try.underlying100
  clear hl hs hp
  go_enter Try.func62, Try.ntmps62
  go_wp2_with fail
  generalize (w.alloc (.cells #[.int .i32 0, .slice none 0 0] 100)).alloc (.cells #[.int .i32 0, .slice none 0 0] 100) = w1 at *
  with_reducible refine (readInt16_any gb gp ge p l _ HL.out A0.out.src A0.out.pos hpl).mono ?_
  intro e w2 h1
  rcases h1.cases with ⟨hr, ⟨dt, dx⟩, hg⟩ | ⟨n, p1, v, hr, rfl, rfl, hg, hp1⟩
  · exact ⟨rfl, Ret.dies (by simp [rPart, hr]) ⟨_, _⟩ (A0.out.grown.trans hg)⟩
  · have HR := Aside0.mk hr
    have A1 := Aside0.mk (A0.out.call hg hp1)
    have B1 := Aside0.mk (B0.out.call A0.out.pos (by decide) hg)
    have C1 := Aside0.mk (C0.out.call A0.out.pos (by decide) hg)
    obtain ⟨q1, q2⟩ := r16_range HR.out
    have c0 := C1.out.cell 0 (.int .i32 0) rfl
    have f0 := C1.out.free 0
    clear h1 hr hg hp1
    go_wp2_with fail
    have A2 := Aside0.mk (A1.out.set C1.out (by decide) (by omega) 0 (.int .i32 n))
    have B2 := Aside0.mk (B1.out.far (g' := w.heap.size + 1) (by omega) 0 (.int .i32 n))
    have C2 := Aside0.mk (C1.out.puts (cs' := #[.int .i32 n, .slice none 0 0]) 0 (.int .i32 n) rfl)
    clear c0 f0
    generalize w2.setCell ⟨w.heap.size + 1, 0, none⟩ (.int .i32 n) = w3 at *
    with_reducible refine (readData_any gb gp ge p1 l _ HL.out A2.out.src A2.out.pos (r16_le HR.out).1).mono ?_
    intro e w4 h2
    rcases h2.cases with ⟨hr, ⟨dt, dx⟩, hg⟩ | ⟨bs, p2, v, hr, rfl, hv, hg, hp2⟩
    · exact ⟨rfl, Ret.dies (by simp [rPart, HR.out, hr]) ⟨_, _⟩ (A2.out.grown.trans hg)⟩
    · obtain ⟨Av, cv, ev⟩ := Kd.R_slice hv
      subst ev
      have HR2 := Aside0.mk hr
      have A3 := Aside0.mk (A2.out.call hg hp2)
      have B3 := Aside0.mk (B2.out.call A2.out.pos (by decide) hg)
      have C3 := Aside0.mk (C2.out.call A2.out.pos (by decide) hg)
      have V3 := Aside0.mk (Kd.R_lower hv A2.out.size)
      have c0 := C3.out.cell 0 (.int .i32 n) rfl
      have f0 := C3.out.free 0
      have c1 := C3.out.cell 1 (.slice none 0 0) rfl
      have f1 := C3.out.free 1
      have d0 := B3.out.cell 0 (.int .i32 0) rfl
      have e0 := B3.out.free 0
      have d1 := B3.out.cell 1 (.slice none 0 0) rfl
      have e1 := B3.out.free 1
      clear h2 hr hg hp2 hv
      go_wp2
      have hne : w.heap.size ≠ w.heap.size + 1 := by omega
      have A4 := A3.out.set C3.out (by decide) (by omega) 1 (.slice Av bs.length cv)
      have B4 := B3.out.far hne 1 (.slice Av bs.length cv)
      have B5 := (B4.puts 0 (.int .i32 n) rfl).puts (cs' := #[.int .i32 n, .slice Av bs.length cv]) 1 (.slice Av bs.length cv) rfl
      have A5 := (A4.set B4 (by decide) (Nat.le_refl _) 0 (.int .i32 n)).set (B4.put 0 (.int .i32 n)) (by decide) (Nat.le_refl _) 1 (.slice Av bs.length cv)
      refine bodyPost_ret (results_cell_row rfl _ _ w.heap.size 100 #[.int .i32 n, .slice Av bs.length cv] (0, 0) _ rfl B5 Try.underlying100 rfl info100) rfl ?_
      exact Ret.gives (a := (n, bs)) (p' := p2) (by simp [rPart, HR.out, HR2.out]) rfl ⟨_, rfl, row_set (row_set (row_set V3.out C3.out (by decide) 1 (.slice Av bs.length cv)) B4 (by decide) 0 (.int .i32 n)) (B4.put 0 (.int .i32 n)) (by decide) 1 (.slice Av bs.length cv)⟩ A5.grown A5.pos
set_option maxHeartbeats 3200000 in
theorem readAuthData_any (gb gp ge p : Nat) (l : List Int) (w : World) (hl : okBytes l) (hs : Src w gb ge l) (hp : Pos w gp p) (hpl : p ≤ l.length) :
    Calls Try.prog 63 #[.slice (some ⟨gb, 0, none⟩) l.length l.length, .pointer (some ⟨gp, 0, none⟩), .pointer (some ⟨ge, 0, none⟩)] w
      (Ret (fun a v w' => ∃ u, v = .agg #[.int .i32 a.1, u] ∧ (Kd.int .u8).R 5 w' w.heap.size (fun _ => True) u a.2) w gp (rPart l p)) := by
  have HL := Aside0.mk hl
  have A0 := Aside0.mk (At.alloc (At.alloc (At.start hs hp) (.cells #[.int .i32 0, .slice none 0 0] 103)) (.cells #[.int .i32 0, .slice none 0 0] 103))
  have B0 := Aside0.mk (Box.alloc (Box.new w #[.int .i32 0, .slice none 0 0] 103) (.cells #[.int .i32 0, .slice none 0 0] 103))
  have C0 := Aside0.mk (Box.next w (.cells #[.int .i32 0, .slice none 0 0] 103) #[.int .i32 0, .slice none 0 0] 103)
  have hu := Try.underlying103
  clear hl hs hp
  go_enter Try.func63, Try.ntmps63
  go_wp2_with fail
  generalize (w.alloc (.cells #[.int .i32 0, .slice none 0 0] 103)).alloc (.cells #[.int .i32 0, .slice none 0 0] 103) = w1 at *
  with_reducible refine (readInt16_any gb gp ge p l _ HL.out A0.out.src A0.out.pos hpl).mono ?_
  intro e w2 h1
  rcases h1.cases with ⟨hr, ⟨dt, dx⟩, hg⟩ | ⟨n, p1, v, hr, rfl, rfl, hg, hp1⟩
  · exact ⟨rfl, Ret.dies (by simp [rPart, hr]) ⟨_, _⟩ (A0.out.grown.trans hg)⟩
  · have HR := Aside0.mk hr
    have A1 := Aside0.mk (A0.out.call hg hp1)
    have B1 := Aside0.mk (B0.out.call A0.out.pos (by decide) hg)
    have C1 := Aside0.mk (C0.out.call A0.out.pos (by decide) hg)
    obtain ⟨q1, q2⟩ := r16_range HR.out
    have c0 := C1.out.cell 0 (.int .i32 0) rfl
    have f0 := C1.out.free 0
    clear h1 hr hg hp1
    go_wp2_with fail
    have A2 := Aside0.mk (A1.out.set C1.out (by decide) (by omega) 0 (.int .i32 n))
    have B2 := Aside0.mk (B1.out.far (g' := w.heap.size + 1) (by omega) 0 (.int .i32 n))
    have C2 := Aside0.mk (C1.out.puts (cs' := #[.int .i32 n, .slice none 0 0]) 0 (.int .i32 n) rfl)
    clear c0 f0
    generalize w2.setCell ⟨w.heap.size + 1, 0, none⟩ (.int .i32 n) = w3 at *
    with_reducible refine (readData_any gb gp ge p1 l _ HL.out A2.out.src A2.out.pos (r16_le HR.out).1).mono ?_
    intro e w4 h2
    rcases h2.cases with ⟨hr, ⟨dt, dx⟩, hg⟩ | ⟨bs, p2, v, hr, rfl, hv, hg, hp2⟩
    · exact ⟨rfl, Ret.dies (by simp [rPart, HR.out, hr]) ⟨_, _⟩ (A2.out.grown.trans hg)⟩
    · obtain ⟨Av, cv, ev⟩ := Kd.R_slice hv
      subst ev
      have HR2 := Aside0.mk hr
      have A3 := Aside0.mk (A2.out.call hg hp2)
      have B3 := Aside0.mk (B2.out.call A2.out.pos (by decide) hg)
      have C3 := Aside0.mk (C2.out.call A2.out.pos (by decide) hg)
      have V3 := Aside0.mk (Kd.R_lower hv A2.out.size)
      have c0 := C3.out.cell 0 (.int .i32 n) rfl
      have f0 := C3.out.free 0
      have c1 := C3.out.cell 1 (.slice none 0 0) rfl
      have f1 := C3.out.free 1
      have d0 := B3.out.cell 0 (.int .i32 0) rfl
      have e0 := B3.out.free 0
      have d1 := B3.out.cell 1 (.slice none 0 0) rfl
      have e1 := B3.out.free 1
      clear h2 hr hg hp2 hv
      go_wp2
      have hne : w.heap.size ≠ w.heap.size + 1 := by omega
      have A4 := A3.out.set C3.out (by decide) (by omega) 1 (.slice Av bs.length cv)
      have B4 := B3.out.far hne 1 (.slice Av bs.length cv)
      have B5 := (B4.puts 0 (.int .i32 n) rfl).puts (cs' := #[.int .i32 n, .slice Av bs.length cv]) 1 (.slice Av bs.length cv) rfl
      have A5 := (A4.set B4 (by decide) (Nat.le_refl _) 0 (.int .i32 n)).set (B4.put 0 (.int .i32 n)) (by decide) (Nat.le_refl _) 1 (.slice Av bs.length cv)
      refine bodyPost_ret (results_cell_row rfl _ _ w.heap.size 103 #[.int .i32 n, .slice Av bs.length cv] (0, 0) _ rfl B5 Try.underlying103 rfl info103) rfl ?_
      exact Ret.gives (a := (n, bs)) (p' := p2) (by simp [rPart, HR.out, HR2.out]) rfl ⟨_, rfl, row_set (row_set (row_set V3.out C3.out (by decide) 1 (.slice Av bs.length cv)) B4 (by decide) 0 (.int .i32 n)) (B4.put 0 (.int .i32 n)) (by decide) 1 (.slice Av bs.length cv)⟩ A5.grown A5.pos
end Go.Proofs.Ytnipcocllhfaoaa.B

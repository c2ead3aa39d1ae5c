/- Readers of so many bytes and of a time, where these stand; under what each theorem states. -/
import Derived.Test.YtcbbipdiahmelaaB1
namespace Go.Proofs.Ytcbbipdiahmelaa.B
open Go.RowKit Go.Proofs.YtcbbipdiahmelaaW.PrintWords Go.Proofs.YtcbbipdiahmelaaW.PrintLast
set_option linter.unusedVariables false
set_option linter.unusedSimpArgs false
set_option maxRecDepth 100000
/-- 'xs[p:q]' of a cut row. -/
theorem cut_any {P : Program} (t e : TypeId) {i : TypeInfo} (ht : P.underlying t = some (.slice e)) (hi : P.info? e = some i) (hsz : i.size = 1) (gb o m c : Nat) (p q : Int) (h0 : 0 ≤ p) (h1 : p ≤ q) (h2 : q ≤ c) :
    ∃ A' : Option Addr, (∀ W : World, (Instr.slice t (.slice (some ⟨gb, o, none⟩) m c) (some (.int .i64 p)) (some (.int .i64 q)) none).run P W = .ok (.slice A' (q - p).toNat (c - p.toNat)) W) ∧ (p < q → A' = some ⟨gb, o + p.toNat, none⟩) := by
  refine ⟨if c = p.toNat then some ⟨gb, o, none⟩ else some ⟨gb, o + p.toNat, none⟩, fun W => ?_, fun h => if_neg (by omega)⟩
  have hel : P.elem t = e := by simp [Program.elem, ht]
  have hu : P.underlying t = some (.slice (P.elem t)) := by rw [hel]; exact ht
  rw [run_slice_lh W t (some ⟨gb, o, none⟩) m c hu .i64 .i64 p q h0 h1 (by omega), hel]
  have e1 : q.toNat - p.toNat = (q - p).toNat := by omega
  have e3 : p ≤ 0 → (⟨gb, o, none⟩ : Addr) = ⟨gb, o + p.toNat, none⟩ := fun h => by rw [show p.toNat = 0 from by omega, Nat.add_zero]
  simp [sizeOf, typeInfo, hi, hsz, sliced, Result.andThen, e1, add_plain, Addr.add]
  by_cases hp : p ≤ 0
  · rw [if_pos hp, e3 hp]
  · rw [if_neg hp]
theorem wrap32_range (x : Int) : -2147483648 ≤ wrap32 x ∧ wrap32 x < 2147483648 := by unfold wrap32; omega
theorem drop_row {D bs rest : List Int} {q j : Nat} (h : D.drop q = bs ++ rest) (hj : j < bs.length) : q + j < D.length ∧ D.getD (q + j) 0 = bs.getD j 0 := by
  have h1 : (D.drop q)[j]? = bs[j]? := by rw [h, List.getElem?_append_left hj]
  rw [List.getElem?_drop] at h1
  refine ⟨?_, by rw [List.getD_eq_getElem?_getD, List.getD_eq_getElem?_getD, h1]⟩
  rw [List.getElem?_eq_getElem hj] at h1
  exact (List.getElem?_eq_some_iff.1 h1).1
set_option maxHeartbeats 1600000 in
theorem readBytes_at (gb gp ge o m c p s : Nat) (D bs rest : List Int) (w : World) (hl : okBytes D) (hs : Src w gb ge D) (hp : Pos w gp p) (hom : o + m ≤ D.length) (hpm : p + s ≤ m) (hmc : m ≤ c) (hc1 : c ≤ 1099511627776) (hD : D.drop (o + p) = bs ++ rest) (hbs : bs.length = s) :
    Calls Try.prog 43 #[.slice (some ⟨gb, o, none⟩) m c, .pointer (some ⟨gp, 0, none⟩), .int .i64 s, .pointer (some ⟨ge, 0, none⟩)] w fun e w' => ∃ A cc, e = .returned (.tuple #[.slice A bs.length cc, .nilIface]) ∧ (Kd.int .u8).R 5 w' w.heap.size (fun _ => True) (.slice A bs.length cc) bs ∧ w.grownBy w' (some gp) ∧ Pos w' gp (p + s) := by
  have hl1 := hl.1
  have c1 := hp.cell
  have f1 := hp.free
  have hgp : gp < w.heap.size := blk_lt hp
  have hw : IntKind.i64.wrap ((p : Int) + s) = (p : Int) + s := wrap_i64 (by omega) (by omega)
  obtain ⟨i0, hi0, _, hsz, _⟩ := info_parts info5
  obtain ⟨A', hsl, hA'⟩ := cut_any (P := Try.prog) 35 5 Try.underlying35 hi0 hsz gb o m c p (p + s) (by omega) (by omega) (by omega)
  rw [show ((p : Int) + s - p).toNat = s from by omega, Int.toNat_natCast] at hsl
  have HRow : Aside0 (ReadsRow (fun (x : Int) (cs : List Value) => cs = [.int .u8 x]) 1 w A' s bs) := by
    refine ⟨Kd.C_of_reads (d := (0 : Int)) (h1 := fun _ => rfl) ⟨by omega, by omega, fun hm => ⟨_, hA' (by omega), fun j hj => ?_⟩⟩⟩
    obtain ⟨q1, q2⟩ := drop_row hD (j := j) (by omega)
    rw [Int.toNat_natCast, add_at, hs.cell (o + p + j) q1, q2]
  have HP := Aside0.mk hp
  have hsn : s ≤ 140737488355328 := by omega
  have hh0 : (0 : Int) ≤ (p : Int) := by omega
  have hh1 : (p : Int) + s ≤ (m : Int) := by omega
  have hh2 : ¬ ((s : Int) < 0) := by omega
  have HO0 := Aside0.mk (show (Kd.int .u8).R 5 (w.alloc (Obj.cells #[] 5)) w.heap.size (fun _ => True) (.slice (some ⟨w.heap.size, 0, none⟩) 0 0) ([] : List Int) from Kd.R_of_own (own_lit w w.heap.size 5 .u8 [] (Nat.le_refl _) (by simp)) (fun _ _ => trivial))
  have HZ := Aside0.mk (show w.heap.size ≤ (w.alloc (Obj.cells #[] 5)).heap.size from below_size (below_alloc (Below.refl _ _) _))
  have HLB := Aside0.mk hbs
  clear hp hs hA' hl hD hom hbs
  go_enter Try.func43, Try.ntmps43
  go_wp2_with (((with_reducible refine gate_builtin (b := .append) (xs := #[.tmp 25, .tmp 31]) rfl ?_); at_builtin; refine Kd.R_append_rows (Kd.int .u8) (Rr := fun (x : Int) (cs : List Value) => cs = [.int .u8 x]) (w0 := w) w.heap.size rfl (.tmp 25) (.tmp 31) 35 5 (.int .u8 0) 1 rfl Try.underlying35 info5 rfl (by decide) (by decide) (.slice (some ⟨w.heap.size, 0, none⟩) 0 0) ([] : List Int) bs A' s _ (fun _ => True) (fun _ => False) rfl rfl HO0.out (ReadsRow.imp_ HRow.out (below_alloc (Below.refl _ _) _) (fun _ _ h => h)) (fun _ _ h => h) (fun _ h => h.elim) (fun _ _ => trivial) (below_alloc (Below.refl _ _) _) HZ.out (by have := HLB.out; simp; omega) ?_; intro v1 w1 ho hb hg hat; have HO := Aside0.mk ho; have HB := Aside0.mk hb; have hcc : w1.cell? ⟨gp, 0, none⟩ = some (.int .i64 p) := (hb.cell hgp).trans c1; have HF := Aside0.mk (show w1.frozen? ⟨gp, 0, none⟩ = false from (hb.frozen hgp).trans f1); have hff := HF.out; obtain ⟨A1, cc1, ev⟩ := Kd.R_slice ho; rw [List.nil_append] at ev; subst ev; clear ho hb hg hat))
  go_ret2
  refine ⟨_, _, rfl, ?_, grown_set (grown_below (World.grownBy.refl w _) HB.out) (.inr rfl), ?_⟩
  · have h2 := HO.out
    rw [List.nil_append] at h2
    exact Kd.R_set h2 (HP.out.below HB.out) (by decide) 0 _
  · have h2 := (HP.out.below HB.out).put (p + s)
    rwa [show (((p + s : Nat) : Int)) = (p : Int) + s from by omega] at h2
/-! ### What a walk through readers holds -/
structure At (w0 w : World) (gb gp ge : Nat) (l : List Int) (p : Nat) : Prop where
  src : Src w gb ge l
  pos : Pos w gp p
  grown : w0.grownBy w (some gp)
/-- A block of so many cells. -/
def Box (w : World) (g t : Nat) (cs : Array Value) : Prop := w.heap[g]? = some (.cells cs t (0, 0))
section
variable {w0 w w' : World} {gb gp ge p p' g t : Nat} {l : List Int} {cs : Array Value}
theorem At.start (hs : Src w gb ge l) (hp : Pos w gp p) : At w w gb gp ge l p := ⟨hs, hp, World.grownBy.refl _ _⟩
theorem At.call (h : At w0 w gb gp ge l p) (hg : w.grownBy w' (some gp)) (hp : Pos w' gp p') : At w0 w' gb gp ge l p' := ⟨h.src.grown h.pos hg, hp, h.grown.trans hg⟩
theorem At.below (h : At w0 w gb gp ge l p) (hb : Below w.heap.size w w') : At w0 w' gb gp ge l p := ⟨h.src.below hb, h.pos.below hb, grown_below h.grown hb⟩
theorem At.alloc (h : At w0 w gb gp ge l p) (o : Obj) : At w0 (w.alloc o) gb gp ge l p := h.below (below_alloc (Below.refl _ _) _)
theorem At.set (h : At w0 w gb gp ge l p) (hb : Box w g t cs) (ht : t ≠ 3 ∧ t ≠ 5 ∧ t ≠ 77) (hg : w0.heap.size ≤ g) (i : Nat) (v : Value) : At w0 (w.setCell ⟨g, i, none⟩ v) gb gp ge l p :=
  ⟨h.src.set hb ht.2.1 ht.2.2, h.pos.set hb ht.1, grown_set h.grown (.inl hg)⟩
theorem At.size (h : At w0 w gb gp ge l p) : w0.heap.size ≤ w.heap.size := h.grown.size
theorem Box.below (hb : Box w g t cs) (h : Below w.heap.size w w') : Box w' g t cs := blk_below hb h
theorem Box.alloc (hb : Box w g t cs) (o : Obj) : Box (w.alloc o) g t cs := blk_alloc hb o
theorem Box.new (w : World) (cs : Array Value) (t : Nat) : Box (w.alloc (.cells cs t)) w.heap.size t cs := blk_new w _
theorem Box.call (hb : Box w g t cs) (hp : Pos w gp p) (ht : t ≠ 3) (hg : w.grownBy w' (some gp)) : Box w' g t cs := blk_grown hb hg (fun e => by injection e with e; exact blk_ne hb hp ht e)
theorem Box.put (hb : Box w g t cs) (i : Nat) (v : Value) : Box (w.setCell ⟨g, i, none⟩ v) g t (cs.setIfInBounds i v) := blk_set hb i v
theorem Box.puts {cs' : Array Value} (hb : Box w g t cs) (i : Nat) (v : Value) (h : cs.setIfInBounds i v = cs') : Box (w.setCell ⟨g, i, none⟩ v) g t cs' := h ▸ blk_set hb i v
theorem Box.far (hb : Box w g t cs) {g' : Nat} (hne : g ≠ g') (i : Nat) (v : Value) : Box (w.setCell ⟨g', i, none⟩ v) g t cs := blk_far hb hne v
theorem Box.ne (hb : Box w g t cs) {g' t' : Nat} {cs' : Array Value} (hb' : Box w g' t' cs') (ht : t ≠ t') : g ≠ g' := blk_ne hb hb' ht
theorem Box.lt (hb : Box w g t cs) : g < w.heap.size := blk_lt hb
theorem Box.cell (hb : Box w g t cs) (i : Nat) (v : Value) (h : cs[i]? = some v) : w.cell? ⟨g, i, none⟩ = some v := (blk_cell hb i).trans h
theorem Box.free (hb : Box w g t cs) (i : Nat) : w.frozen? ⟨g, i, none⟩ = false := blk_frozen hb i
end
section
variable {α : Type} {d : Kd α} {e base : Nat} {w w' : World} {v : Value} {xs : List α} {gp p : Nat}
/-- Rows of the call's own, behind a reader. -/
theorem row_call (h : d.R e w base (fun _ => True) v xs) (hp : Pos w gp p) (ht : ∀ q, q ∈ e :: d.E → q ≠ 3) (hg : w.grownBy w' (some gp)) : d.R e w' base (fun _ => True) v xs :=
  Kd.R_mono (Kd.R_grown (Kd.R_types h hp ht) hg (fun k hk e => by injection e with e; exact hk.2 e)) (fun _ _ => trivial)
theorem row_set {g t : Nat} {cs : Array Value} (h : d.R e w base (fun _ => True) v xs) (hb : Box w g t cs) (ht : ∀ q, q ∈ e :: d.E → q ≠ t) (i : Nat) (u : Value) : d.R e (w.setCell ⟨g, i, none⟩ u) base (fun _ => True) v xs :=
  Kd.R_set h hb ht i u
end
theorem Box.next (w : World) (o : Obj) (cs : Array Value) (t : Nat) : Box ((w.alloc o).alloc (.cells cs t)) (w.heap.size + 1) t cs := by
  have h := Box.new (w.alloc o) cs t
  rw [show (w.alloc o).heap.size = w.heap.size + 1 from by simp] at h
  exact h
theorem info89 : (Try.prog.info? 89).map (·.size) = some 2 := by kernel_rfl
set_option maxHeartbeats 800000 in
theorem unix_any (n k : Int) (w : World) : Calls Try.prog 48 #[.int .i64 n, .int .i64 k] w fun e w' => e = .returned (.agg #[.int .i64 n, .bool true]) ∧ Below w.heap.size w w' := by
  have hu := Try.underlying89
  go_enter Try.func48, Try.ntmps48
  go_wp2
  refine bodyPost_ret (v := .agg #[.int .i64 n, .bool true]) (by simp [results, Try.results48, go_sem]) rfl ⟨rfl, ?_⟩
  exact below_alloc (Below.refl _ _) _
set_option maxHeartbeats 1600000 in
theorem readTimestamp_at (gb gp ge o m c p : Nat) (D rest : List Int) (x0 x1 x2 x3 : Int) (w : World) (hl : okBytes D) (hs : Src w gb ge D) (hp : Pos w gp p) (hom : o + m ≤ D.length) (hpm : p + 4 ≤ m) (hmc : m ≤ c) (hD : D.drop (o + p) = x0 :: x1 :: x2 :: x3 :: rest) :
    Calls Try.prog 40 #[.slice (some ⟨gb, o, none⟩) m c, .pointer (some ⟨gp, 0, none⟩), .pointer (some ⟨ge, 0, none⟩)] w fun e w' => e = .returned (.tuple #[.agg #[.int .i64 (wrap32 (x0 * 16777216 + (x1 * 65536 + (x2 * 256 + x3)))), .bool true], .nilIface]) ∧ w.grownBy w' (some gp) ∧ Pos w' gp (p + 4) := by
  have A0 := Aside0.mk (At.alloc (At.start hs hp) (.cells #[.int .i64 0, .bool false] 89))
  have B0 := Aside0.mk (Box.new w #[.int .i64 0, .bool false] 89)
  have HL := Aside0.mk hl
  have HD := Aside0.mk hD
  have HM := Aside0.mk (And.intro hom (And.intro hpm hmc))
  have hu89 := Try.underlying89
  obtain ⟨t, ht⟩ : ∃ t, wrap32 (x0 * 16777216 + (x1 * 65536 + (x2 * 256 + x3))) = t := ⟨_, rfl⟩
  obtain ⟨q1, q2⟩ := wrap32_range (x0 * 16777216 + (x1 * 65536 + (x2 * 256 + x3)))
  rw [ht] at q1 q2 ⊢
  have HTT := Aside0.mk ht
  clear hl hs hp hD hom hpm hmc ht
  go_enter Try.func40, Try.ntmps40
  go_wp2_with fail
  generalize w.alloc (Obj.cells #[.int .i64 0, .bool false] 89) = w1 at *
  have h1 := readInt32_at gb gp ge o m c p D rest x0 x1 x2 x3 _ HL.out A0.out.src A0.out.pos HM.out.1 HM.out.2.1 HM.out.2.2 HD.out
  rw [HTT.out] at h1
  with_reducible refine h1.mono ?_
  clear h1
  rintro e w2 ⟨rfl, hg, hp⟩
  have A1 := Aside0.mk (A0.out.call hg hp)
  have B1 := Aside0.mk (B0.out.call A0.out.pos (by decide) hg)
  clear hg hp
  go_wp2_with fail
  with_reducible refine (unix_any t 0 _).mono ?_
  rintro e w3 ⟨rfl, hb⟩
  have A2 := Aside0.mk (A1.out.below hb)
  have B2 := Aside0.mk (B1.out.below hb)
  have c0 := B2.out.cell 0 (.int .i64 0) rfl
  have c1 := B2.out.cell 1 (.bool false) rfl
  have f0 := B2.out.free 0
  have f1 := B2.out.free 1
  clear hb
  go_wp2
  have B3 := (B2.out.puts 0 (.int .i64 t) rfl).puts (cs' := #[.int .i64 t, .bool true]) 1 (.bool true) rfl
  have A3 := (A2.out.set B2.out (by decide) (Nat.le_refl _) 0 (.int .i64 t)).set (B2.out.put 0 (.int .i64 t)) (by decide) (Nat.le_refl _) 1 (.bool true)
  have e0 := B3.cell 0 _ rfl
  have e1 := B3.cell 1 _ rfl
  have h89 := info89
  refine bodyPost_ret (v := .tuple #[.agg #[.int .i64 t, .bool true], .nilIface]) (by simp [results, Try.results40, go_sem, e0, e1, hu89]) rfl ⟨rfl, A3.grown, A3.pos⟩
end Go.Proofs.Ytcbbipdiahmelaa.B

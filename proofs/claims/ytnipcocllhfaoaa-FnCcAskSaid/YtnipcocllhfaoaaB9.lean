/- Small functions beside the cache's reader: a text's bytes, a principal, a time; under what each theorem states. -/
import Derived.Test.YtnipcocllhfaoaaB8
import Derived.Defers
import Derived.Recover
import Derived.Lib.LazyBuf
namespace Go.Proofs.Ytnipcocllhfaoaa.B
open Go.RowKit Go.Proofs.YtnipcocllhfaoaaW.PrintWords Go.Proofs.YtnipcocllhfaoaaW.PrintLast
set_option linter.unusedVariables false
set_option linter.unusedSimpArgs false
set_option maxRecDepth 100000
theorem Box.fill {g t : Nat} : ∀ (vs rest pre : List Value) (o : Nat) (w : World), pre.length = o → rest.length = vs.length → Box w g t (pre ++ rest).toArray → Box (w.setCells g o vs) g t (pre ++ vs).toArray
  | [], rest, pre, o, w, _, hr, h => by
    obtain rfl : rest = [] := List.length_eq_zero_iff.1 hr
    exact h
  | v :: vs, [], pre, o, w, _, hr, h => by simp at hr
  | v :: vs, x :: rest, pre, o, w, hp, hr, h => by
    have h1 : Box (w.setCell ⟨g, o, none⟩ v) g t ((pre ++ [v]) ++ rest).toArray := h.puts o v (by
      subst hp
      apply Array.ext'
      simp)
    have h2 := Box.fill vs rest (pre ++ [v]) (o + 1) _ (by simp [hp]) (by simpa using hr) h1
    simpa [World.setCells] using h2
theorem setCells_size (g : Nat) : ∀ (vs : List Value) (o : Nat) (w : World), (w.setCells g o vs).heap.size = w.heap.size
  | [], _, _ => rfl
  | v :: r, o, w => by rw [World.setCells, setCells_size g r]; simp
theorem nums_bytesOf (s : ByteArray) : nums .u8 (bytesOf s) = s.data.toList.map fun x => Value.int .u8 (x.toNat : Int) := by simp [nums, bytesOf]
theorem okBytes_of {s : ByteArray} (h : s.size ≤ 1099511627776) : okBytes (bytesOf s) := by
  refine ⟨by rw [bytesOf_length]; exact h, fun x hx => ?_⟩
  unfold bytesOf at hx
  obtain ⟨b, _, rfl⟩ := List.mem_map.1 hx
  have := b.toNat_lt
  omega
set_option maxHeartbeats 1600000 in
theorem exact_any (s : ByteArray) (w : World) (hs : s.size ≤ 1099511627776) :
    Calls Try.prog 33 #[.string s] w fun e w' => ∃ gb, e = .returned (.slice (some ⟨gb, 0, none⟩) (bytesOf s).length (bytesOf s).length) ∧ Box w' gb 5 (nums .u8 (bytesOf s)).toArray ∧ w.heap.size ≤ gb ∧ Below w.heap.size w w' := by
  have hmk : ∀ W : World, (Instr.makeSlice 83 (.int .i64 (s.size : Int)) (.int .i64 (s.size : Int))).run Try.prog W = .ok (.slice (some ⟨W.heap.size, 0, none⟩) s.size s.size) (W.alloc (.cells (madeCells #[.int .u8 0] s.size) 5)) :=
    fun W => run_make_row' 83 5 (.int .u8 0) 1 Try.underlying83 info5 rfl .i64 .i64 s.size (by omega) (by omega) W
  have hcells : ∀ W : World, Box (W.alloc (.cells (madeCells #[.int .u8 0] s.size) 5)) W.heap.size 5 (madeCells #[.int .u8 0] s.size) := fun W => Box.new W _ 5
  have hlen : (madeCells #[.int .u8 0] s.size).size = s.size := by simp [madeCells]
  have hcp : ∀ W : World, (Builtin.copy_ #[83, 9] 3 #[.slice (some ⟨W.heap.size, 0, none⟩) s.size s.size, .string s]).run Try.prog (W.alloc (.cells (madeCells #[.int .u8 0] s.size) 5)) =
      .ok (goInt s.size) ((W.alloc (.cells (madeCells #[.int .u8 0] s.size) 5)).setCells W.heap.size 0 (nums .u8 (bytesOf s))) := by
    intro W
    rw [nums_bytesOf]
    refine Go.run_copy_string _ 83 9 3 5 W.heap.size 0 s.size s.size s Try.underlying83 (fun w => by simp [Go.sizeOf]; rfl) (Nat.le_refl _) (fun j hj => ?_) (fun j hj => blk_frozen (hcells W) _)
    rw [blk_cell (hcells W)]
    simp [hlen, hj]
  have hbx : ∀ W : World, Box ((W.alloc (.cells (madeCells #[.int .u8 0] s.size) 5)).setCells W.heap.size 0 (nums .u8 (bytesOf s))) W.heap.size 5 (nums .u8 (bytesOf s)).toArray := by
    intro W
    have := Box.fill (nums .u8 (bytesOf s)) (madeCells #[.int .u8 0] s.size).toList [] 0 _ rfl (by simp [hlen, nums, bytesOf_length]) (hcells W)
    simpa using this
  have hbl := bytesOf_length s
  rw [hbl]
  have HB := Aside0.mk (Go.below_setCells (Nat.le_refl w.heap.size) (nums .u8 (bytesOf s)) 0 _ (below_alloc (Below.refl w.heap.size w) (.cells (madeCells #[.int .u8 0] s.size) 5)))
  have HX := Aside0.mk (hbx w)
  clear hbx hcells hlen hbl
  go_enter Try.func33, Try.ntmps33
  go_wp2_with fail
  go_ret
  exact ⟨_, rfl, HX.out, Nat.le_refl _, HB.out⟩
/-- The principal of impl. -/
theorem ccName_any (s : ByteArray) (k : Int) (A : Option Addr) (n c : Nat) (w : World) :
    Calls Try.prog 34 #[.string s, .agg #[.int .i32 k, .slice A n c]] w fun e w' => e = .returned (.agg #[.string s, .slice A n c, .int .i32 k]) ∧ Below w.heap.size w w' := by
  have hu74 := Try.underlying74
  have hu37 := Try.underlying37
  go_enter Try.func34, Try.ntmps34
  go_wp2
  refine bodyPost_ret (v := .agg #[.string s, .slice A n c, .int .i32 k]) (by simp [results, Try.results34, go_sem, World.cell?_setCell_other]) rfl ⟨rfl, ?_⟩
  repeat (first | exact Below.refl _ _ | refine below_set ?_ (by simp) | apply below_alloc | apply below_drew1)
theorem unix2_any (n : Int) (w : World) :
    Calls Try.prog 35 #[.agg #[.int .i64 n, .bool true]] w fun e w' => e = .returned (.int .i64 n) ∧ Below w.heap.size w w' := by
  go_enter Try.func35, Try.ntmps35
  go_wp2_with fail
  go_ret
  exact ⟨rfl, below_alloc (Below.refl _ _) _⟩
theorem idle31 (p q r t : Addr) (w : World) :
    CallsD Try.prog 31 #[.pointer (some p), .pointer (some q), .pointer (some r), .pointer (some t)] .returning w fun e u' w' => e = .returned (.tuple #[]) ∧ u' = .returning ∧ w' = w := by
  refine callsD_of_wpS Try.func31 rfl fun c₀ cs hu => ?_
  apply wpS_seq
  apply wpS_region
  simp [wpOpsS, go_sem, recoverD, hu, Try.ntmps31, Exit.thenS]
  refine wpS_cond (t := false) (by simp [Act.eval, Array.replicate]) ?_
  simp only [Bool.false_eq_true, if_false]
  refine wpS_of_wp (wp_skip ?_)
  cases c₀
  simp_all [bodyPostS, results, Try.results31]
theorem panic31 (p q r t : Nat) (ty : TypeId) (x : Value) (older : List PanicEntry) (w : World) (vp vr vt q0 q1 q2 : Value) (hp : Box w p 5 #[vp]) (hq : Box w q 37 #[q0, q1, q2]) (hr : Box w r 38 #[vr]) (ht : Box w t 4 #[vt]) :
    CallsD Try.prog 31 #[.pointer (some ⟨p, 0, none⟩), .pointer (some ⟨q, 0, none⟩), .pointer (some ⟨r, 0, none⟩), .pointer (some ⟨t, 0, none⟩)] (.panicking ({ v := .iface ty x, recovered := false } :: older)) w fun e u' w' => e = .returned (.tuple #[]) ∧ u' = .panicking ({ v := .iface ty x, recovered := true } :: older) ∧
      w' = (((((w.setCell ⟨p, 0, none⟩ (.int .u8 0)).setCell ⟨q, 0, none⟩ (.string ⟨#[]⟩)).setCell ⟨q, 1, none⟩ (.slice none 0 0)).setCell ⟨q, 2, none⟩ (.int .i32 0)).setCell ⟨r, 0, none⟩ (.slice none 0 0)).setCell ⟨t, 0, none⟩ (.bool false) := by
  have cp : w.cell? ⟨p, 0, none⟩ = some vp := hp.cell 0 _ rfl
  have cq0 : w.cell? ⟨q, 0, none⟩ = some q0 := hq.cell 0 _ rfl
  have cq1 : w.cell? ⟨q, 1, none⟩ = some q1 := hq.cell 1 _ rfl
  have cq2 : w.cell? ⟨q, 2, none⟩ = some q2 := hq.cell 2 _ rfl
  have cr : w.cell? ⟨r, 0, none⟩ = some vr := hr.cell 0 _ rfl
  have ct : w.cell? ⟨t, 0, none⟩ = some vt := ht.cell 0 _ rfl
  have fp := hp.free 0
  have fq0 := hq.free 0
  have fq1 := hq.free 1
  have fq2 := hq.free 2
  have fr := hr.free 0
  have ft := ht.free 0
  have npq := hp.ne hq (by decide)
  have npr := hp.ne hr (by decide)
  have npt := hp.ne ht (by decide)
  have nqr := hq.ne hr (by decide)
  have nqt := hq.ne ht (by decide)
  have nrt := hr.ne ht (by decide)
  have hu37 := Try.underlying37
  refine callsD_of_wpS Try.func31 rfl fun c₀ cs hu => ?_
  apply wpS_seq
  apply wpS_region
  simp [wpOpsS, go_sem, recoverD, hu, Try.ntmps31, Exit.thenS]
  refine wpS_cond (t := true) (by simp [Act.eval, Array.replicate]) ?_
  simp only [if_true]
  apply wpS_region
  simp [wpOpsS, go_sem, bodyPostS, results, Try.results31, hu37, cp, cq0, cq1, cq2, cr, ct, fp, fq0, fq1, fq2, fr, ft, npq, npr, npt, nqr, nqt, nrt, npq.symm, npr.symm, npt.symm, nqr.symm, nqt.symm, nrt.symm, World.cell?_setCell_other, World.frozen?_setCell]
end Go.Proofs.Ytnipcocllhfaoaa.B

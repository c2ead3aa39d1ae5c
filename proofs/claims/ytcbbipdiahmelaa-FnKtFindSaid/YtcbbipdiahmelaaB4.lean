/- Small functions: the bytes of a text, a new keytab, a new entry, an error, the deferred closure that has nothing to do; under what each theorem states. -/
import Derived.Test.YtcbbipdiahmelaaB3
import Derived.Defers
import Derived.Recover
import Derived.Lib.LazyBuf
namespace Go.Proofs.Ytcbbipdiahmelaa.B
open Go.RowKit Go.Proofs.YtcbbipdiahmelaaW.PrintWords Go.Proofs.YtcbbipdiahmelaaW.PrintLast
set_option linter.unusedVariables false
set_option linter.unusedSimpArgs false
set_option maxRecDepth 100000
theorem Box.fill {g t : Nat} : ∀ (vs rest pre : List Value) (o : Nat) (w : World), pre.length = o → rest.length = vs.length → Box w g t (pre ++ rest).toArray → Box (w.setCells g o vs) g t (pre ++ vs).toArray
  | [], rest, pre, o, w, _, hr, h => by
    obtain rfl : rest = [] := List.length_eq_zero_iff.1 hr
    exact h
  | v :: vs, [], pre, o, w, _, hr, h => by simp at hr
  | v :: vs, x :: rest, pre, o, w, hp, hr, h => by
    have h1 : Box (w.setCell ⟨g, o, none⟩ v) g t ((pre ++ [v]) ++ rest).toArray := h.puts o v (by
      subst hp
      apply Array.ext'
      simp)
    have h2 := Box.fill vs rest (pre ++ [v]) (o + 1) _ (by simp [hp]) (by simpa using hr) h1
    simpa [World.setCells] using h2
theorem setCells_size (g : Nat) : ∀ (vs : List Value) (o : Nat) (w : World), (w.setCells g o vs).heap.size = w.heap.size
  | [], _, _ => rfl
  | v :: r, o, w => by rw [World.setCells, setCells_size g r]; simp
theorem nums_bytesOf (s : ByteArray) : nums .u8 (bytesOf s) = s.data.toList.map fun x => Value.int .u8 (x.toNat : Int) := by simp [nums, bytesOf]
theorem okBytes_of {s : ByteArray} (h : s.size ≤ 1099511627776) : okBytes (bytesOf s) := by
  refine ⟨by rw [bytesOf_length]; exact h, fun x hx => ?_⟩
  unfold bytesOf at hx
  obtain ⟨b, _, rfl⟩ := List.mem_map.1 hx
  have := b.toNat_lt
  omega
set_option maxHeartbeats 1600000 in
theorem exact_any (s : ByteArray) (w : World) (hs : s.size ≤ 1099511627776) :
    Calls Try.prog 26 #[.string s] w fun e w' => ∃ gb, e = .returned (.slice (some ⟨gb, 0, none⟩) (bytesOf s).length (bytesOf s).length) ∧ Box w' gb 5 (nums .u8 (bytesOf s)).toArray ∧ w.heap.size ≤ gb ∧ Below w.heap.size w w' := by
  have hmk : ∀ W : World, (Instr.makeSlice 35 (.int .i64 (s.size : Int)) (.int .i64 (s.size : Int))).run Try.prog W = .ok (.slice (some ⟨W.heap.size, 0, none⟩) s.size s.size) (W.alloc (.cells (madeCells #[.int .u8 0] s.size) 5)) :=
    fun W => run_make_row' 35 5 (.int .u8 0) 1 Try.underlying35 info5 rfl .i64 .i64 s.size (by omega) (by omega) W
  have hcells : ∀ W : World, Box (W.alloc (.cells (madeCells #[.int .u8 0] s.size) 5)) W.heap.size 5 (madeCells #[.int .u8 0] s.size) := fun W => Box.new W _ 5
  have hlen : (madeCells #[.int .u8 0] s.size).size = s.size := by simp [madeCells]
  have hcp : ∀ W : World, (Builtin.copy_ #[35, 9] 3 #[.slice (some ⟨W.heap.size, 0, none⟩) s.size s.size, .string s]).run Try.prog (W.alloc (.cells (madeCells #[.int .u8 0] s.size) 5)) =
      .ok (goInt s.size) ((W.alloc (.cells (madeCells #[.int .u8 0] s.size) 5)).setCells W.heap.size 0 (nums .u8 (bytesOf s))) := by
    intro W
    rw [nums_bytesOf]
    refine Go.run_copy_string _ 35 9 3 5 W.heap.size 0 s.size s.size s Try.underlying35 (fun w => by simp [Go.sizeOf]; rfl) (Nat.le_refl _) (fun j hj => ?_) (fun j hj => blk_frozen (hcells W) _)
    rw [blk_cell (hcells W)]
    simp [hlen, hj]
  have hbx : ∀ W : World, Box ((W.alloc (.cells (madeCells #[.int .u8 0] s.size) 5)).setCells W.heap.size 0 (nums .u8 (bytesOf s))) W.heap.size 5 (nums .u8 (bytesOf s)).toArray := by
    intro W
    have := Box.fill (nums .u8 (bytesOf s)) (madeCells #[.int .u8 0] s.size).toList [] 0 _ rfl (by simp [hlen, nums, bytesOf_length]) (hcells W)
    simpa using this
  have hbl := bytesOf_length s
  rw [hbl]
  have HB := Aside0.mk (Go.below_setCells (Nat.le_refl w.heap.size) (nums .u8 (bytesOf s)) 0 _ (below_alloc (Below.refl w.heap.size w) (.cells (madeCells #[.int .u8 0] s.size) 5)))
  have HX := Aside0.mk (hbx w)
  clear hbx hcells hlen hbl
  go_enter Try.func26, Try.ntmps26
  go_wp2_with fail
  go_ret
  exact ⟨_, rfl, HX.out, Nat.le_refl _, HB.out⟩
set_option maxHeartbeats 800000 in
theorem idle23 (p q : Addr) (w : World) :
    CallsD Try.prog 23 #[.pointer (some p), .pointer (some q)] .returning w fun e u' w' => e = .returned (.tuple #[]) ∧ u' = .returning ∧ w' = w := by
  refine callsD_of_wpS Try.func23 rfl fun c₀ cs hu => ?_
  apply wpS_seq
  apply wpS_region
  simp [wpOpsS, go_sem, recoverD, hu, Try.ntmps23, Exit.thenS]
  refine wpS_cond (t := false) (by simp [Act.eval, Array.replicate]) ?_
  simp only [Bool.false_eq_true, if_false]
  refine wpS_of_wp (wp_skip ?_)
  cases c₀
  simp_all [bodyPostS, results, Try.results23]
set_option maxHeartbeats 800000 in
theorem idle33 (p q : Addr) (w : World) :
    CallsD Try.prog 33 #[.pointer (some p), .pointer (some q)] .returning w fun e u' w' => e = .returned (.tuple #[]) ∧ u' = .returning ∧ w' = w := by
  refine callsD_of_wpS Try.func33 rfl fun c₀ cs hu => ?_
  apply wpS_seq
  apply wpS_region
  simp [wpOpsS, go_sem, recoverD, hu, Try.ntmps33, Exit.thenS]
  refine wpS_cond (t := false) (by simp [Act.eval, Array.replicate]) ?_
  simp only [Bool.false_eq_true, if_false]
  refine wpS_of_wp (wp_skip ?_)
  cases c₀
  simp_all [bodyPostS, results, Try.results33]
set_option maxHeartbeats 800000 in
theorem idle31 (p q r t : Addr) (w : World) :
    CallsD Try.prog 31 #[.pointer (some p), .pointer (some q), .pointer (some r), .pointer (some t)] .returning w fun e u' w' => e = .returned (.tuple #[]) ∧ u' = .returning ∧ w' = w := by
  refine callsD_of_wpS Try.func31 rfl fun c₀ cs hu => ?_
  apply wpS_seq
  apply wpS_region
  simp [wpOpsS, go_sem, recoverD, hu, Try.ntmps31, Exit.thenS]
  refine wpS_cond (t := false) (by simp [Act.eval, Array.replicate]) ?_
  simp only [Bool.false_eq_true, if_false]
  refine wpS_of_wp (wp_skip ?_)
  cases c₀
  simp_all [bodyPostS, results, Try.results31]
set_option maxHeartbeats 800000 in
theorem error_any (s : ByteArray) (w : World) : Calls Try.prog 35 #[.string s] w fun e w' => ∃ p, e = .returned (.iface 109 (.pointer (some p))) ∧ Below w.heap.size w w' := by
  go_enter Try.func35, Try.ntmps35
  go_wp2
  go_ret
  exact ⟨_, rfl, below_alloc (Below.refl _ _) _⟩
set_option maxHeartbeats 800000 in
theorem new_any (w : World) : Calls Try.prog 24 #[] w fun e w' => ∃ gt, e = .returned (.pointer (some ⟨gt, 0, none⟩)) ∧ Box w' gt 74 #[.int .u8 2, .slice none 0 0] ∧ gt = w.heap.size ∧ Below w.heap.size w w' := by
  have hu := Try.underlying74
  go_enter Try.func24, Try.ntmps24
  go_wp2
  go_ret
  exact ⟨_, rfl, Box.new _ _ _, rfl, below_alloc (Below.refl _ _) _⟩
theorem info87 : (Try.prog.info? 87).map (·.size) = some 4 := by kernel_rfl
theorem info91 : (Try.prog.info? 91).map (·.size) = some 10 := by kernel_rfl
set_option maxHeartbeats 1600000 in
theorem newPrincipal_any (w : World) : Calls Try.prog 47 #[] w fun e w' => e = .returned (.agg #[.int .i16 0, .string ⟨#[]⟩, .slice none 0 0, .int .i32 0]) ∧ Below w.heap.size w w' := by
  have hu := Try.underlying87
  go_enter Try.func47, Try.ntmps47
  go_wp2_with (first
    | ((with_reducible refine gate_dst (N := 0) rfl ?_); refine box_event ?hg (N := 0) ?hd (cs := #[.int .i16 0, .string ⟨#[]⟩, .slice none 0 0, .int .i32 0]) (t := 87) ?hr ?_; (case hd => rfl); (case hg => rfl); (case hr => first | (go_simp; done) | (go_simp; rfl)); intro gq hgb w1 hbox hb; have HBX := Aside0.mk hbox; have HBB := Aside0.mk hb; have HGB := Aside0.mk (show w.heap.size ≤ gq from by rw [hgb]; exact Nat.le_refl _); clear hbox hb hgb)
    | ((with_reducible refine gate_store (t := 87) (p := 0) (v := .tmp 3) rfl ?_); refine B.store_event ?hg 87 (.tmp 0) (.tmp 3) ?ho gq #[.int .i16 0, .string ⟨#[]⟩, .slice none 0 0, .int .i32 0] ?hx ?hy 87 _ HBX.out ?hi ?hl (by simp [Value.oneCell']) ?_; (case hg => rfl); (case ho => rfl); (case hx => first | rfl | (go_simp; done)); (case hy => first | rfl | (go_simp; done)); (case hi => exact info87); (case hl => rfl); intro w2 hb2 hbl2 hsz2 hot2; have HQ2 := Aside0.mk hb2; have HBL2 := Aside0.mk (hbl2 w HBB.out HGB.out); clear hb2 hbl2 hsz2 hot2)
    | fail)
  refine bodyPost_ret (results_cell_row rfl _ _ gq 87 #[.int .i16 0, .string ⟨#[]⟩, .slice none 0 0, .int .i32 0] (0, 0) _ rfl HQ2.out Try.underlying87 rfl info87) rfl ?_
  exact ⟨rfl, HBL2.out⟩
def entry0 : Array Value := #[.int .i16 0, .string ⟨#[]⟩, .slice none 0 0, .int .i32 0, .int .i64 0, .bool false, .int .u8 0, .int .i32 0, .slice none 0 0, .int .u32 0]
set_option maxHeartbeats 1600000 in
theorem newEntry_any (w : World) : Calls Try.prog 38 #[] w fun e w' => e = .returned (.agg entry0) ∧ Below w.heap.size w w' := by
  have hu := Try.underlying87
  have hu91 := Try.underlying91
  have hu89 := Try.underlying89
  have hu65 := Try.underlying65
  go_enter Try.func38, Try.ntmps38
  go_wp2_with (first
    | ((with_reducible refine gate_dst (N := 0) rfl ?_); refine box_event ?hg (N := 0) ?hd (cs := entry0) (t := 91) ?hr ?_; (case hd => rfl); (case hg => rfl); (case hr => first | (go_simp; done) | (go_simp; rfl)); intro gq hgb w1 hbox hb; have HBX := Aside0.mk hbox; have HBB := Aside0.mk hb; have HGB := Aside0.mk (show w.heap.size ≤ gq from by rw [hgb]; exact Nat.le_refl _); clear hbox hb hgb)
    | fail)
  refine (newPrincipal_any _).mono ?_
  rintro e w2 ⟨rfl, hb⟩
  have HBX2 := Aside0.mk (Box.below HBX.out hb)
  have HBB2 := Aside0.mk (below_step HBB.out hb)
  clear hb
  go_wp2_with (first
    | ((with_reducible refine gate_store (t := 91) (p := 0) (v := .tmp 6) rfl ?_); refine B.store_event ?hg 91 (.tmp 0) (.tmp 6) ?ho gq entry0 ?hx ?hy 91 _ HBX2.out ?hi ?hl (by simp [Value.oneCell', entry0]) ?_; (case hg => rfl); (case ho => rfl); (case hx => first | rfl | (go_simp; done)); (case hy => first | rfl | (go_simp; done) | (go_simp; rfl)); (case hi => exact info91); (case hl => rfl); intro w3 hb2 hbl2 hsz2 hot2; have HQ2 := Aside0.mk hb2; have HBL2 := Aside0.mk (hbl2 w HBB2.out HGB.out); clear hb2 hbl2 hsz2 hot2)
    | fail)
  refine bodyPost_ret (results_cell_row rfl _ _ gq 91 entry0 (0, 0) _ rfl HQ2.out Try.underlying91 rfl info91) rfl ?_
  exact ⟨rfl, HBL2.out⟩
end Go.Proofs.Ytcbbipdiahmelaa.B

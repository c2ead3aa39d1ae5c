/- An entry is written; under what each theorem states. Written by a program of this session. -/
import Derived.Test.YtcbbipdiahmelaaB16
import Derived.Test.YtcbbipdiahmelaaB8
namespace Go.Proofs.Ytcbbipdiahmelaa.B
open Go.RowKit Go.Proofs.YtcbbipdiahmelaaW.PrintWords Go.Proofs.YtcbbipdiahmelaaW.PrintLast
open Go.Proofs.Ytcbbipdiahmelaa.A (S25 k25)
set_option linter.unusedVariables false
set_option linter.unusedSimpArgs false
set_option maxRecDepth 100000
theorem dep239 : 139 + Made.depth = 239 := by kernel_rfl
/-- A method of the highest-first order is called. -/
theorem invokes_ {f : FuncId} {fn : Func} (hf : Try.prog.funcs[f]? = some fn) (hname : (fn.name == "runtime.NumGoroutine") = false) (hb : fn.body.isSome = true) {oi : Oper} {a : Act} {w : World} {r x y : Operand} {name : String} {ts : Array TypeId} {u v : Value}
    (hop : oi.op = .call { callee := .invoke r name, args := #[x, y], argTypes := ts }) (hr : a.eval r = .iface 79 (.agg #[])) (hx : a.eval x = u) (hy : a.eval y = v)
    (hM : ∀ w : World, (method 239 79 (.agg #[]) name).run Try.prog w = .ok (f, .agg #[]) w) : (execOp a.eval oi).run Try.prog w = .ok (.enter f #[.agg #[], u, v]) w := by
  have he := enters_ hf hname hb #[.agg #[], u, v] w
  have hd := dep239
  unfold execOp
  simp [hop, resolve, invoke, callMethod, hr, hx, hy, hM, he, hd]
def cells91 (e : S25) (A2 : Option Addr) (c2 : Nat) (A8 : Option Addr) (c8 : Nat) : Array Value := #[.int .i16 e.f1.length, .string e.f0, .slice A2 e.f1.length c2, .int .i32 e.f2, .int .i64 e.f3, .bool true, .int .u8 e.f4, .int .i32 e.f6, .slice A8 e.f7.size c8, .int .u32 e.f5]
theorem info87z : (Try.prog.info? 87).map (·.size) = some 4 := by kernel_rfl
theorem zeros9 : madeCells #[.int .u8 0] 9 = (nums .u8 [0, 0, 0, 0, 0, 0, 0, 0, 0]).toArray := made_cells 9
theorem zeros4 : madeCells #[.int .u8 0] 4 = (nums .u8 [0, 0, 0, 0]).toArray := made_cells 4
theorem entB_parts (e : S25) {u6 : Int} (h : IntKind.u16.wrap e.f6 = u6) : entB e true = prinB e.f0 e.f1 e.f2 ++ (e32 e.f3 ++ (e.f4 :: (e16 u6 ++ e16 e.f7.size))) ++ bytesOf e.f7 ++ e32 e.f5 := by
  unfold entB cnt16
  rw [if_pos rfl, h]
  simp [List.append_assoc]
theorem mk_row (n : Nat) (hn : n ≤ 100) : ∀ W : World, (Instr.makeSlice 35 (.int .i64 n) (.int .i64 n)).run Try.prog W = .ok (.slice (some ⟨W.heap.size, 0, none⟩) n n) (W.alloc (.cells (madeCells #[.int .u8 0] n) 5)) :=
  fun W => run_make_row' 35 5 (.int .u8 0) 1 Try.underlying35 info5 rfl .i64 .i64 n (by omega) (by omega) W
set_option maxHeartbeats 8000000 in
theorem entMarshal_any (e : S25) (A2 A8 : Option Addr) (c2 c8 : Nat) (w : World) (he : OkE e) (h2 : Kd.string.C w A2 e.f1.length e.f1) (h8 : (Kd.int .u8).C w A8 e.f7.size (bytesOf e.f7)) :
    Calls Try.prog 46 #[.agg (cells91 e A2 c2 A8 c8), .int .i64 2] w fun x w' => ∃ A' n' c', x = .returned (.tuple #[.slice A' n' c', .nilIface]) ∧ (Kd.int .u8).R 5 w' w.heap.size (fun _ => True) (.slice A' n' c') (e32 (entB e true).length ++ entB e true) ∧ Below w.heap.size w w' := by
  have HE := Aside0.mk he
  have H2 := Aside0.mk h2
  have H8 := Aside0.mk h8
  have hu79 := Try.underlying79
  have hu91 := Try.underlying91
  have hu87 := Try.underlying87
  have hu89 := Try.underlying89
  have hu65 := Try.underlying65
  have h87 := info87z
  have hmk9 : ∀ W : World, (Instr.makeSlice 35 (.int .i64 9) (.int .i64 9)).run Try.prog W = .ok (.slice (some ⟨W.heap.size, 0, none⟩) 9 9) (W.alloc (.cells (madeCells #[.int .u8 0] 9) 5)) := mk_row 9 (by decide)
  have hmk4 : ∀ W : World, (Instr.makeSlice 35 (.int .i64 4) (.int .i64 4)).run Try.prog W = .ok (.slice (some ⟨W.heap.size, 0, none⟩) 4 4) (W.alloc (.cells (madeCells #[.int .u8 0] 4) 5)) := mk_row 4 (by decide)
  have hmf : ∀ (fn : Fn) (first cap : Array Value) (w : World), (Instr.makeFunc fn first cap).run Try.prog w = .ok (.func fn first cap) w := fun _ _ _ _ => rfl
  have nA : ∀ w : World, (nilAhead 239 79 (.agg #[]) "PutUint16").run Try.prog w = .ok (some false) w := fun w => by kernel_rfl
  have nM : ∀ w : World, (method 239 79 (.agg #[]) "PutUint16").run Try.prog w = .ok (69, .agg #[]) w := fun w => by kernel_rfl
  have mA : ∀ w : World, (nilAhead 239 79 (.agg #[]) "PutUint32").run Try.prog w = .ok (some false) w := fun w => by kernel_rfl
  have mM : ∀ w : World, (method 239 79 (.agg #[]) "PutUint32").run Try.prog w = .ok (70, .agg #[]) w := fun w => by kernel_rfl
  clear he h2 h8
  unfold cells91
  go_enter Try.func46, Try.ntmps46
  go_upto_region 1 with (first | ((with_reducible refine gate_dst (N := 2) rfl ?_); refine box_event ?hg (N := 2) ?hd (cs := #[.int .i16 e.f1.length, .string e.f0, .slice A2 e.f1.length c2, .int .i32 e.f2, .int .i64 e.f3, .bool true, .int .u8 e.f4, .int .i32 e.f6, .slice A8 e.f7.size c8, .int .u32 e.f5]) (t := 91) ?hr ?_; (case hd => rfl); (case hg => rfl); (case hr => first | (go_simp; done) | (go_simp; rfl)); intro gb hgb w1 hbox hb; have T1 := Aside0.mk (show Wr w w1 gb 91 #[.int .i16 e.f1.length, .string e.f0, .slice A2 e.f1.length c2, .int .i32 e.f2, .int .i64 e.f3, .bool true, .int .u8 e.f4, .int .i32 e.f6, .slice A8 e.f7.size c8, .int .u32 e.f5] (.slice none 0 0) [] from ⟨Kd.R_nil _ _ _ _ _, hbox, hb, hb.size⟩); clear hbox hb hgb) | fail)
  have k0 := T1.out.box.cell 0 _ rfl
  have k1 := T1.out.box.cell 1 _ rfl
  have k2 := T1.out.box.cell 2 _ rfl
  have k3 := T1.out.box.cell 3 _ rfl
  go_wp2_with fail
  refine (prinMarshal_any e.f0 e.f1 e.f2 A2 c2 w1 HE.out.realm HE.out.names HE.out.each HE.out.nt (Kd.C_below H2.out T1.out.low)).mono ?_
  rintro x_ w2 ⟨A3, n3, c3, rfl, hrow, hb⟩
  have T2 := Aside0.mk (T1.out.below hb)
  have R2 := Aside0.mk (row_reads hrow).2
  have L2 := Aside0.mk (row_reads hrow).1
  clear hrow hb T1 k0 k1 k2 k3
  have LP := Aside0.mk (HE.out.len true)
  go_upto_region 11 with (first | ((with_reducible refine gate_builtin (b := .append) (xs := #[.tmp 22, .tmp 23]) rfl ?_); at_builtin; refine Kd.R_append_rows (Kd.int .u8) (Rr := fun (x : Int) (cs : List Value) => cs = [.int .u8 x]) (w0 := w2) w.heap.size rfl (.tmp 22) (.tmp 23) 35 5 (.int .u8 0) 1 rfl Try.underlying35 info5 rfl (by decide) (by decide) (.slice none 0 0) ([]) (prinB e.f0 e.f1 e.f2) (A3) (n3) (c3) (fun _ => True) (fun _ => False) rfl rfl T2.out.row R2.out (fun _ _ h => h) (fun _ h => h.elim) (fun _ _ => trivial) (Below.refl _ _) T2.out.size (by have := L2.out; have := LP.out; rw [List.length_nil]; omega) ?_; intro v_ w_ ho hb hg hat; have T3 := Aside0.mk (show Wr w w_ gb 91 #[.int .i16 e.f1.length, .string e.f0, .slice A2 e.f1.length c2, .int .i32 e.f2, .int .i64 e.f3, .bool true, .int .u8 e.f4, .int .i32 e.f6, .slice A8 e.f7.size c8, .int .u32 e.f5] v_ (prinB e.f0 e.f1 e.f2) from by rw [← List.nil_append (prinB e.f0 e.f1 e.f2)]; exact T2.out.app (by decide) ho hb hg); have hs3 := T3.out.size; generalize w_ = w3 at *; generalize v_ = v3 at *; clear ho hb hg hat) | fail)
  clear T2 R2 L2
  obtain ⟨g4, hg4⟩ : ∃ x, x = w3.heap.size := ⟨_, rfl⟩
  have X4 := Aside0.mk (show Box (w3.alloc (.cells (madeCells #[.int .u8 0] 9) 5)) g4 5 (nums .u8 [0, 0, 0, 0, 0, 0, 0, 0, 0]).toArray from by rw [← zeros9, hg4]; exact Box.new _ _ _)
  have B4 := Aside0.mk (below_alloc (Below.refl w3.heap.size w3) (.cells (madeCells #[.int .u8 0] 9) 5))
  rw [← hg4]
  have HG4 := Aside0.mk hg4
  clear hg4
  generalize w3.alloc (.cells (madeCells #[.int .u8 0] 9) 5) = w4 at *
  obtain ⟨wx, hwx⟩ : ∃ z, z = w4.drew := ⟨_, rfl⟩
  have hbd : Below w4.heap.size w4 wx := hwx ▸ below_drew (Below.refl _ _)
  have X5 := Aside0.mk (X4.out.below hbd)
  have B5 := Aside0.mk (below_step B4.out hbd)
  have Q5 := Aside0.mk (T3.out.below B5.out).box
  have huw : IntKind.u32.wrap e.f3 = e.f3 := by have := HE.out.time; rw [IntKind.wrap_u32]; omega
  have htm := HE.out.time
  have htm0 := htm.1
  have htm1 : e.f3 < 4294967296 := by omega
  clear hbd X4 B4 htm
  refine start_ (n := 11) (S := fun w' => w'.cell? ⟨gb, 4, none⟩ = some (.int .i64 e.f3) ∧ w'.cell? ⟨gb, 5, none⟩ = some (.bool true)) (ds := []) #[false, false, false, false, false, false, false, false, false, false, false] (by kernel_rfl) rfl rfl ⟨(hwx ▸ (show _ from (Box.cell Q5.out 4 _ rfl))), (hwx ▸ (show _ from (Box.cell Q5.out 5 _ rfl)))⟩ (fun hHeld => ?_)
  rw [← hwx] at hHeld ⊢
  clear hwx
  refine pure_ (i := 0) (N := some 35) (v := ?_) (a' := ?_) #[true, false, false, false, false, false, false, false, false, false, false] rfl rfl (by kernel_rfl) (fun _ _ _ h => h) (Or.inl ⟨by rfl, ?_⟩) ?_ ?_
  rotate_left
  · intro w'
    go_simp
    with_reducible rfl
  rotate_left
  · simp only [Act.put, List.setIfInBounds_toArray, List.set_cons_zero, List.set_cons_succ, i64_w, i32_w]
    rfl
  refine pure_ (i := 1) (N := some 36) (v := ?_) (a' := ?_) #[true, true, false, false, false, false, false, false, false, false, false] rfl rfl (by kernel_rfl) (fun _ _ _ h => h) (Or.inl ⟨by rfl, ?_⟩) ?_ ?_
  rotate_left
  · intro w'
    go_simp
    with_reducible rfl
  rotate_left
  · simp only [Act.put, List.setIfInBounds_toArray, List.set_cons_zero, List.set_cons_succ, i64_w, i32_w]
    rfl
  refine pure_ (i := 2) (N := some 37) (v := ?_) (a' := ?_) #[true, true, true, false, false, false, false, false, false, false, false] rfl rfl (by kernel_rfl) (fun _ _ _ h => h) (Or.inl ⟨by rfl, ?_⟩) ?_ ?_
  rotate_left
  · intro w'
    go_simp
    with_reducible rfl
  rotate_left
  · simp only [Act.put, List.setIfInBounds_toArray, List.set_cons_zero, List.set_cons_succ, i64_w, i32_w]
    rfl
  refine pure_ (i := 3) (N := some 38) (v := ?_) (a' := ?_) #[true, true, true, true, false, false, false, false, false, false, false] rfl rfl (by kernel_rfl) (fun _ _ _ h => h) (Or.inl ⟨by rfl, ?_⟩) ?_ ?_
  rotate_left
  · intro w'
    go_simp
    with_reducible rfl
  rotate_left
  · simp only [Act.put, List.setIfInBounds_toArray, List.set_cons_zero, List.set_cons_succ, i64_w, i32_w]
    rfl
  refine pure_ (i := 7) (N := some 42) (v := ?_) (a' := ?_) #[true, true, true, true, false, false, false, true, false, false, false] rfl rfl (by kernel_rfl) (fun _ _ _ h => h) (Or.inl ⟨by rfl, ?_⟩) ?_ ?_
  rotate_left
  · intro w'
    go_simp
    with_reducible rfl
  rotate_left
  · simp only [Act.put, List.setIfInBounds_toArray, List.set_cons_zero, List.set_cons_succ, i64_w, i32_w]
    rfl
  refine pure_ (i := 8) (N := some 43) (v := ?_) (a' := ?_) #[true, true, true, true, false, false, false, true, true, false, false] rfl rfl (by kernel_rfl) (fun _ _ _ h => h) (Or.inl ⟨by rfl, ?_⟩) ?_ ?_
  rotate_left
  · intro w'
    go_simp
    with_reducible rfl
  rotate_left
  · simp only [Act.put, List.setIfInBounds_toArray, List.set_cons_zero, List.set_cons_succ, i64_w, i32_w]
    rfl
  refine pure_ (i := 9) (N := some 44) (v := ?_) (a' := ?_) #[true, true, true, true, false, false, false, true, true, true, false] rfl rfl (by kernel_rfl) (fun _ _ _ h => h) (Or.inl ⟨by rfl, ?_⟩) ?_ ?_
  rotate_left
  · intro w'
    go_simp
    with_reducible rfl
  rotate_left
  · simp only [Act.put, List.setIfInBounds_toArray, List.set_cons_zero, List.set_cons_succ, i64_w, i32_w]
    rfl
  refine take_ (i := 4) (N := some 39) (v := ?_) (a' := ?_) #[true, true, true, true, true, false, false, true, true, true, false] rfl rfl (by kernel_rfl) (fun _ _ _ h => h) (Or.inl ⟨by rfl, ?_⟩) hHeld ?_ ?_
  rotate_left
  · rintro w' ⟨s0, s1⟩
    go_simp
    with_reducible rfl
  rotate_left
  · simp only [Act.put, List.setIfInBounds_toArray, List.set_cons_zero, List.set_cons_succ, i64_w, i32_w]
    rfl
  refine one_ (i := 5) (N := some 40) #[true, true, true, true, true, true, false, true, true, true, false] rfl rfl (by kernel_rfl) (by decide) (fun K hK => ?_)
  refine goes_ Try.func49 (by kernel_rfl) rfl #[.agg #[.int .i64 e.f3, .bool true]] (by rfl) rfl rfl (by simp only [List.map_toArray, List.map_cons, List.map_nil]; rfl) ?_
  with_reducible refine (timeUnix_any e.f3 wx).mono ?_
  rintro e_ w6 ⟨rfl, hb_⟩
  refine ⟨_, rfl, ?_⟩
  have X6 := Aside0.mk (X5.out.below hb_)
  have B6 := Aside0.mk (below_step B5.out hb_)
  have Q6 := Aside0.mk (T3.out.below B6.out).box
  clear hb_ X5 B5 Q5
  refine hK.out _ _ ⟨(Box.cell Q6.out 4 _ rfl), (Box.cell Q6.out 5 _ rfl)⟩ (fun hHeld => ?_)
  clear hK K
  refine norm_ (a' := ?_) ?_ ?_
  rotate_left
  · show Act.put _ (some 40) _ = _
    simp only [Act.put, List.setIfInBounds_toArray, List.set_cons_zero, List.set_cons_succ, i64_w, i32_w]
    rfl
  refine pure_ (i := 6) (N := some 41) (v := ?_) (a' := ?_) #[true, true, true, true, true, true, true, true, true, true, false] rfl rfl (by kernel_rfl) (fun _ _ _ h => h) (Or.inl ⟨by rfl, ?_⟩) ?_ ?_
  rotate_left
  · intro w'
    go_simp
    with_reducible rfl
  rotate_left
  · simp only [Act.put, List.setIfInBounds_toArray, List.set_cons_zero, List.set_cons_succ, i64_w, i32_w]
    rfl
  refine one_ (i := 10) (N := some 45) #[true, true, true, true, true, true, true, true, true, true, true] rfl rfl (by kernel_rfl) (by decide) (fun K hK => ?_)
  refine call_ 70 #[.agg #[], .slice (some ⟨g4, 0, none⟩) 4 9, .int .u32 e.f3] (by rfl) rfl (invokes_ Try.func70 (by kernel_rfl) rfl rfl (by rfl) (by rfl) (by rfl) mM) ?_
  refine (put32_any g4 0 9 e.f3 [0, 0, 0, 0, 0, 0, 0, 0, 0] w6 X6.out (by decide) htm0 htm1).mono ?_
  rintro e_ w7 ⟨rfl, hbx, hg_⟩
  refine ⟨_, rfl, ?_⟩
  have X7 := Aside0.mk (show Box w7 g4 5 (nums .u8 (e32 e.f3 ++ [0, 0, 0, 0, 0])).toArray from hbx)
  have B7 := Aside0.mk (low_grown B6.out B6.out.size hg_ (fun j hj => by injection hj with hj; rw [← hj, HG4.out]; exact Nat.le_refl _))
  have Q7 := Aside0.mk (T3.out.below B7.out).box
  clear hbx hg_ X6 B6 Q6
  refine hK.out _ _ ⟨(Box.cell Q7.out 4 _ rfl), (Box.cell Q7.out 5 _ rfl)⟩ (fun hHeld => ?_)
  clear hK K
  refine norm_ (a' := ?_) ?_ ?_
  rotate_left
  · show Act.put _ (some 45) _ = _
    simp only [Act.put, List.setIfInBounds_toArray, List.set_cons_zero, List.set_cons_succ, i64_w, i32_w]
    rfl
  refine done_ (by kernel_rfl) ?_
  
  clear htm0 htm1 huw hHeld
  have k6 := Q7.out.cell 6 _ rfl
  obtain ⟨o4, ho4⟩ : ∃ y, w7.cell? ⟨g4, 4, none⟩ = some y := ⟨_, X7.out.cell 4 _ rfl⟩
  have f4 := X7.out.free 4
  go_upto_region 13 with fail
  clear k6 ho4 f4
  have X8 := Aside0.mk (X7.out.puts (cs' := (nums .u8 (e32 e.f3 ++ [e.f4, 0, 0, 0, 0])).toArray) 4 (.int .u8 e.f4) rfl)
  have B8 := Aside0.mk (low_set B7.out (g := g4) (by rw [HG4.out]; exact Nat.le_refl _) 4 (.int .u8 e.f4))
  clear X7 B7 Q7
  generalize w7.setCell ⟨g4, 4, none⟩ (.int .u8 e.f4) = w8 at *
  have k7 := (T3.out.below B8.out).box.cell 7 _ rfl
  have hu7 := u16_range e.f6
  have hu70 := hu7.1
  have hu71 := hu7.2
  obtain ⟨u6, hu6⟩ : ∃ u, u = IntKind.u16.wrap e.f6 := ⟨_, rfl⟩
  rw [← hu6] at hu70 hu71
  have hu6' : IntKind.u16.wrap e.f6 = u6 := hu6.symm
  have HU6 := Aside0.mk hu6'
  clear hu7 hu6
  go_wp2
  go_still_tail 10, (by kernel_rfl)
  change wpList _ _ _ _ _ w8.drew
  go_upto_region 14 with (first | (go_at_call 69; refine (put16_any g4 5 _ u6 (e32 e.f3 ++ [e.f4, 0, 0, 0, 0]) w8.drew X8.out.drew (by simp [e32]) hu70 hu71).mono ?_; rintro e_ w9 ⟨rfl, hbx, hg_⟩; have X9 := Aside0.mk (show Box w9 g4 5 (nums .u8 (e32 e.f3 ++ (e.f4 :: (e16 u6 ++ [0, 0])))).toArray from hbx); have B9 := Aside0.mk (low_grown (low_below B8.out B8.out.size (below_drew (Below.refl _ _))) B8.out.size hg_ (fun j hj => by injection hj with hj; rw [← hj, HG4.out]; exact Nat.le_refl _)); clear hbx hg_) | fail)
  clear X8 B8 k7 hu70 hu71 hu6'
  have k8 := (T3.out.below B9.out).box.cell 8 _ rfl
  have hz8 : IntKind.u16.wrap (e.f7.size : Int) = e.f7.size := by have := HE.out.key; simp [IntKind.wrap, IntKind.bits, IntKind.signed]; omega
  have hz80 : (0 : Int) ≤ (e.f7.size : Int) := by omega
  have hz81 : (e.f7.size : Int) < 65536 := by have := HE.out.key; omega
  go_wp2
  go_still_tail 11, (by kernel_rfl)
  change wpList _ _ _ _ _ w9.drew
  go_upto_region 18 with (first | (go_at_call 69; refine (put16_any g4 7 _ e.f7.size (e32 e.f3 ++ (e.f4 :: (e16 u6 ++ [0, 0]))) w9.drew X9.out.drew (by simp [e32, e16]) hz80 hz81).mono ?_; rintro e_ w10 ⟨rfl, hbx, hg_⟩; have X10 := Aside0.mk (show Box w10 g4 5 (nums .u8 (e32 e.f3 ++ (e.f4 :: (e16 u6 ++ e16 e.f7.size)))).toArray from hbx); have B10 := Aside0.mk (low_grown (low_below B9.out B9.out.size (below_drew (Below.refl _ _))) B9.out.size hg_ (fun j hj => by injection hj with hj; rw [← hj, HG4.out]; exact Nat.le_refl _)); have T10 := Aside0.mk (T3.out.below B10.out); have R10 := Aside0.mk (row_reads (row_box X10.out (Nat.le_refl _) (by simp [e32, e16]))).2; clear hbx hg_) | ((with_reducible refine gate_builtin (b := .append) (xs := #[.tmp 73, .tmp 74]) rfl ?_); at_builtin; refine Kd.R_append_rows (Kd.int .u8) (Rr := fun (x : Int) (cs : List Value) => cs = [.int .u8 x]) (w0 := w10) w.heap.size rfl (.tmp 73) (.tmp 74) 35 5 (.int .u8 0) 1 rfl Try.underlying35 info5 rfl (by decide) (by decide) (v3) (prinB e.f0 e.f1 e.f2) ((e32 e.f3 ++ (e.f4 :: (e16 u6 ++ e16 e.f7.size)))) (some ⟨g4, 0, none⟩) (9) (_) (fun _ => True) (fun _ => False) rfl rfl T10.out.row R10.out (fun _ _ h => h) (fun _ h => h.elim) (fun _ _ => trivial) (Below.refl _ _) T10.out.size (by have := LP.out; have : ((e32 e.f3 ++ (e.f4 :: (e16 u6 ++ e16 e.f7.size)))).length = 9 := rfl; omega) ?_; intro v_ w_ ho hb hg hat; have T11 := Aside0.mk (T10.out.app (by decide) ho hb hg); generalize w_ = w11 at *; generalize v_ = v11 at *; have k81 := T11.out.box.cell 8 _ rfl; have R11 := Aside0.mk (Kd.C_below H8.out T11.out.low); clear ho hb hg hat) | ((with_reducible refine gate_builtin (b := .append) (xs := #[.tmp 76, .tmp 79]) rfl ?_); at_builtin; refine Kd.R_append_rows (Kd.int .u8) (Rr := fun (x : Int) (cs : List Value) => cs = [.int .u8 x]) (w0 := w11) w.heap.size rfl (.tmp 76) (.tmp 79) 35 5 (.int .u8 0) 1 rfl Try.underlying35 info5 rfl (by decide) (by decide) (v11) (prinB e.f0 e.f1 e.f2 ++ (e32 e.f3 ++ (e.f4 :: (e16 u6 ++ e16 e.f7.size)))) (bytesOf e.f7) (A8) (e.f7.size) (c8) (fun _ => True) (fun _ => False) rfl rfl T11.out.row R11.out (fun _ _ h => h) (fun _ h => h.elim) (fun _ _ => trivial) (Below.refl _ _) T11.out.size (by have := LP.out; have := HE.out.key; have : ((e32 e.f3 ++ (e.f4 :: (e16 u6 ++ e16 e.f7.size)))).length = 9 := rfl; rw [List.length_append]; omega) ?_; intro v_ w_ ho hb hg hat; have T12 := Aside0.mk (T11.out.app (by decide) ho hb hg); generalize w_ = w12 at *; generalize v_ = v12 at *; clear ho hb hg hat) | fail)
  clear T3 X9 B9 k8 hz8 hz80 hz81 X10 B10 T10 R10 k81 R11 T11
  obtain ⟨g5, hg5⟩ : ∃ x, x = w12.heap.size := ⟨_, rfl⟩
  have X13 := Aside0.mk (show Box (w12.alloc (.cells (madeCells #[.int .u8 0] 4) 5)) g5 5 (nums .u8 [0, 0, 0, 0]).toArray from by rw [← zeros4, hg5]; exact Box.new _ _ _)
  have B13 := Aside0.mk (below_alloc (Below.refl w12.heap.size w12) (.cells (madeCells #[.int .u8 0] 4) 5))
  rw [← hg5]
  have HG5 := Aside0.mk hg5
  clear hg5
  generalize w12.alloc (.cells (madeCells #[.int .u8 0] 4) 5) = w13 at *
  have k9 := (T12.out.below B13.out).box.cell 9 _ rfl
  have hv0 : 0 ≤ e.f5 := Int.le_of_lt HE.out.ver.1
  have hv1 := HE.out.ver.2
  go_upto_region 21 with (first | (go_at_call 70; refine (put32_any g5 0 _ e.f5 [0, 0, 0, 0] w13 X13.out (by decide) hv0 hv1).mono ?_; rintro e_ w14 ⟨rfl, hbx, hg_⟩; have X14 := Aside0.mk (show Box w14 g5 5 (nums .u8 (e32 e.f5)).toArray from hbx); have T14 := Aside0.mk (T12.out.below (low_grown B13.out B13.out.size hg_ (fun j hj => by injection hj with hj; rw [← hj, HG5.out]; exact Nat.le_refl _))); have R14 := Aside0.mk (row_reads (row_box X14.out (Nat.le_refl _) (by simp [e32]))).2; clear hbx hg_) | ((with_reducible refine gate_builtin (b := .append) (xs := #[.tmp 87, .tmp 88]) rfl ?_); at_builtin; refine Kd.R_append_rows (Kd.int .u8) (Rr := fun (x : Int) (cs : List Value) => cs = [.int .u8 x]) (w0 := w14) w.heap.size rfl (.tmp 87) (.tmp 88) 35 5 (.int .u8 0) 1 rfl Try.underlying35 info5 rfl (by decide) (by decide) (v12) (prinB e.f0 e.f1 e.f2 ++ (e32 e.f3 ++ (e.f4 :: (e16 u6 ++ e16 e.f7.size))) ++ bytesOf e.f7) (e32 e.f5) (some ⟨g5, 0, none⟩) (4) (_) (fun _ => True) (fun _ => False) rfl rfl T14.out.row R14.out (fun _ _ h => h) (fun _ h => h.elim) (fun _ _ => trivial) (Below.refl _ _) T14.out.size (by have h1 := LP.out; rw [entB_parts e HU6.out, List.length_append] at h1; have : (e32 e.f5).length = 4 := rfl; omega) ?_; intro v_ w_ ho hb hg hat; have T15 := Aside0.mk (show Wr w w_ gb 91 #[.int .i16 e.f1.length, .string e.f0, .slice A2 e.f1.length c2, .int .i32 e.f2, .int .i64 e.f3, .bool true, .int .u8 e.f4, .int .i32 e.f6, .slice A8 e.f7.size c8, .int .u32 e.f5] v_ (entB e true) from by rw [entB_parts e HU6.out]; exact T14.out.app (by decide) ho hb hg); obtain ⟨A15, c15, rfl⟩ := Kd.R_slice T15.out.row; generalize w_ = w15 at *; clear ho hb hg hat) | fail)
  clear T12 X13 B13 HG5 k9 hv0 hv1 X14 T14 R14
  obtain ⟨g6, hg6⟩ : ∃ x, x = w15.heap.size := ⟨_, rfl⟩
  have X16 := Aside0.mk (show Box (w15.alloc (.cells (madeCells #[.int .u8 0] 4) 5)) g6 5 (nums .u8 [0, 0, 0, 0]).toArray from by rw [← zeros4, hg6]; exact Box.new _ _ _)
  have B16 := Aside0.mk (below_alloc (Below.refl w15.heap.size w15) (.cells (madeCells #[.int .u8 0] 4) 5))
  rw [← hg6]
  have HG6 := Aside0.mk hg6
  clear hg6
  generalize w15.alloc (.cells (madeCells #[.int .u8 0] 4) 5) = w16 at *
  obtain ⟨n6, hn6⟩ : ∃ n, n = (entB e true).length := ⟨_, rfl⟩
  have N6 := Aside0.mk hn6
  have hn7 : n6 ≤ 5000 := by rw [hn6]; exact LP.out.2.1
  rw [← hn6]
  have hz0 : IntKind.u32.wrap (n6 : Int) = n6 := by rw [IntKind.wrap_u32]; omega
  have hz1 : (0 : Int) ≤ (n6 : Int) := by omega
  have hz2 : (n6 : Int) < 4294967296 := by omega
  clear hn6
  go_wp2_with (first | (go_at_call 70; refine (put32_any g6 0 _ n6 [0, 0, 0, 0] w16 X16.out (by decide) hz1 hz2).mono ?_; rintro e_ w17 ⟨rfl, hbx, hg_⟩; have X17 := Aside0.mk (show Box w17 g6 5 (nums .u8 (e32 n6)).toArray from hbx); have T17 := Aside0.mk (T15.out.below (low_grown B16.out B16.out.size hg_ (fun j hj => by injection hj with hj; rw [← hj, HG6.out]; exact Nat.le_refl _))); have V17 := Aside0.mk (row_box X17.out (show w.heap.size ≤ g6 from by rw [HG6.out]; exact T15.out.size) (by simp [e32])); have R17 := Aside0.mk (show (Kd.int .u8).C w17 A15 n6 (entB e true) from by rw [N6.out]; exact (row_reads T17.out.row).2); clear hbx hg_) | ((with_reducible refine gate_builtin (b := .append) (xs := #[.tmp 97, .tmp 98]) rfl ?_); at_builtin; refine Kd.R_append_rows (Kd.int .u8) (Rr := fun (x : Int) (cs : List Value) => cs = [.int .u8 x]) (w0 := w17) w.heap.size rfl (.tmp 97) (.tmp 98) 35 5 (.int .u8 0) 1 rfl Try.underlying35 info5 rfl (by decide) (by decide) (.slice (some ⟨g6, 0, none⟩) 4 4) (e32 n6) (entB e true) (A15) (n6) (c15) (fun _ => True) (fun _ => False) rfl rfl V17.out R17.out (fun _ _ h => h) (fun _ h => h.elim) (fun _ _ => trivial) (Below.refl _ _) T17.out.size (by have : (e32 (n6 : Int)).length = 4 := rfl; omega) ?_; intro v_ w_ ho hb hg hat; have R18 := Aside0.mk ho; have L18 := Aside0.mk (low_trans T17.out.low hb); generalize w_ = w18 at *; generalize v_ = v18 at *; clear ho hb hg hat))
  obtain ⟨A18, c18, rfl⟩ := Kd.R_slice R18.out
  have hrow := R18.out
  have hlow := L18.out
  rw [N6.out] at hrow
  clear T15 X16 B16 X17 T17 V17 R17 R18 L18
  go_ret2
  exact ⟨A18, _, c18, rfl, hrow, hlow⟩
end Go.Proofs.Ytcbbipdiahmelaa.B

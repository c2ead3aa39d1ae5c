/- A principal is read: its type, its realm and its names; under what each theorem states. Written by a program of this session. -/
import Derived.Test.YtnipcocllhfaoaaB3
namespace Go.Proofs.Ytnipcocllhfaoaa.B
open Go.RowKit Go.Proofs.YtnipcocllhfaoaaW.PrintWords Go.Proofs.YtnipcocllhfaoaaW.PrintLast
set_option linter.unusedVariables false
set_option linter.unusedSimpArgs false
set_option maxRecDepth 100000
/-- A call of a Go function that may panic, by its contract. -/
theorem goesP_ {P : Program} {ops : Array Oper} {Q : Exit → Act → World → Prop} {oi : Oper} {N : Option Tmp} {a : Act} {w : World} {K : Act → World → Prop} {f : FuncId} {fn : Func} {opns : Array Operand} {ts : Array TypeId} (hf : P.funcs[f]? = some fn) (hname : (fn.name == "runtime.NumGoroutine") = false) (hb : fn.body.isSome = true) (args : Array Value)
    (hw : Region.wanted oi (yielded ops a.tmps) = true) (hN : oi.dst = N) (hop : oi.op = .call { callee := .value (.func f), args := opns, argTypes := ts }) (hargs : opns.map a.eval = args)
    (h : Calls P f args w fun e w' => (∃ v, e = .returned v ∧ K (a.put N v) w') ∨ ∃ ch, e = .panicked ch ∧ Q (.panic ch) a w') : if Region.wanted oi (yielded ops a.tmps) = true then Oper.wp P oi a w K Q else K (a.put N undef) w := by
  have he := enters_ hf hname hb args w
  rw [if_pos hw]
  subst hN
  unfold Oper.wp
  have hrun : (execOp a.eval oi).run P w = .ok (.enter f args) w := by
    unfold execOp
    simp [hop, resolve, Deferred.ofValue, invoke, Act.eval, hargs, he]
  rw [hrun, Oper.upon_enter]
  refine h.mono fun e w'' hh => ?_
  rcases hh with ⟨v, rfl, hk⟩ | ⟨ch, rfl, hk⟩
  · exact hk
  · exact hk
/-- A principal. -/
structure Prin where
  realm : ByteArray
  kind : Int
  names : List ByteArray
/-- Texts behind their numbers of bytes. -/
def rNames (l : List Int) : Nat → Nat → Option (List ByteArray × Nat)
  | 0, p => some ([], p)
  | n + 1, p => (rData l p).bind fun x => (rNames l n x.2).bind fun y => some (strOfNums x.1 :: y.1, y.2)
def rPrin (l : List Int) (p : Nat) : Option (Prin × Nat) :=
  (r32 l p).bind fun k => (r32 l k.2).bind fun n => (rData l n.2).bind fun r => (rNames l n.1.toNat r.2).bind fun m => some (⟨strOfNums r.1, k.1, m.1⟩, m.2)
theorem rData_le4 {l : List Int} {p p' : Nat} {a : List Int} (h : rData l p = some (a, p')) : p' ≤ l.length ∧ p + 4 ≤ p' := by
  unfold rData at h
  obtain ⟨⟨n, p1⟩, h1, h2⟩ := Option.bind_eq_some_iff.1 h
  have := rBytes_le h2
  unfold r32 at h1
  split at h1
  · obtain ⟨rfl, rfl⟩ := Prod.mk.inj (Option.some.inj h1); omega
  · cases h1
theorem rNames_le {l : List Int} : ∀ {n p p' : Nat} {a : List ByteArray}, p ≤ l.length → rNames l n p = some (a, p') → p' ≤ l.length ∧ p ≤ p'
  | 0, p, p', a, hp, h => by obtain ⟨_, rfl⟩ := Prod.mk.inj (Option.some.inj h); exact ⟨hp, Nat.le_refl _⟩
  | n + 1, p, p', a, hp, h => by
    simp only [rNames] at h
    obtain ⟨⟨b, p1⟩, h1, h2⟩ := Option.bind_eq_some_iff.1 h
    obtain ⟨⟨c, p2⟩, h3, h4⟩ := Option.bind_eq_some_iff.1 h2
    obtain ⟨_, rfl⟩ := Prod.mk.inj (Option.some.inj h4)
    have q1 := rData_le4 h1
    have q2 := rNames_le q1.1 h3
    omega
theorem rPrin_le {l : List Int} {p p' : Nat} {a : Prin} (h : rPrin l p = some (a, p')) : p' ≤ l.length ∧ p ≤ p' := by
  unfold rPrin at h
  obtain ⟨⟨k, p1⟩, h1, h⟩ := Option.bind_eq_some_iff.1 h
  obtain ⟨⟨n, p2⟩, h2, h⟩ := Option.bind_eq_some_iff.1 h
  obtain ⟨⟨r, p3⟩, h3, h⟩ := Option.bind_eq_some_iff.1 h
  obtain ⟨⟨m, p4⟩, h4, h⟩ := Option.bind_eq_some_iff.1 h
  obtain ⟨_, rfl⟩ := Prod.mk.inj (Option.some.inj h)
  have q1 := r32_le h1
  have q2 := r32_le h2
  have q3 := rData_le4 h3
  have q4 := rNames_le q3.1 h4
  simp only at *
  omega
/-- What a principal is in memory. -/
def PrinV (w0 : World) (a : Prin) (v : Value) (w' : World) : Prop := ∃ A c, v = .agg #[.string a.realm, .int .i32 a.kind, .slice A a.names.length c] ∧ Kd.string.R 9 w' w0.heap.size (fun _ => True) (.slice A a.names.length c) a.names
theorem info9 : (Try.prog.info? 9).map (fun i => (i.zero, i.size, i.bytes)) = some (some (.string ⟨#[]⟩), 1, 16) := by kernel_rfl
theorem info76 : (Try.prog.info? 76).map (·.size) = some 3 := by kernel_rfl
section
variable {α : Type} {d : Kd α} {w0 w w' : World} {gb gp ge p g t e base : Nat} {l : List Int} {v : Value} {xs : List α} {ok : Nat → Prop} {cs : Array Value}
theorem grown_then {w2 : World} {row row' : Option Nat} (h : w0.grownBy w row) (k : w.grownBy w2 row') (hr : ∀ j, row' = some j → w0.heap.size ≤ j) : w0.grownBy w2 row :=
  ⟨k.os.trans h.os, k.tape.trans h.tape, k.output.trans h.output, Nat.le_trans h.size k.size, fun i hi hn => (k.block i (Nat.lt_of_lt_of_le hi h.size) (fun e => by have := hr i e.symm; omega)).trans (h.block i hi hn)⟩
/-- A row of the call's own has been written or grown. -/
theorem At.row (h : At w0 w gb gp ge l p) (hR : d.R e w base ok v xs) (ht : e ≠ 3 ∧ e ≠ 5 ∧ e ≠ 117) (hb : w0.heap.size ≤ base) (hg : w.grownBy w' v.ownBlock) : At w0 w' gb gp ge l p :=
  ⟨⟨blk_grown h.src.row hg (Kd.R_ne hR h.src.row ht.2.1), blk_grown h.src.order hg (Kd.R_ne hR h.src.order ht.2.2)⟩, blk_grown h.pos hg (Kd.R_ne hR h.pos ht.1),
    grown_then h.grown hg fun j hj => Nat.le_trans hb (Kd.R_base hR j hj)⟩
theorem Box.row (h : Box w g t cs) (hR : d.R e w base ok v xs) (ht : e ≠ t) (hg : w.grownBy w' v.ownBlock) : Box w' g t cs := blk_grown h hg (Kd.R_ne hR h ht)
theorem At.drew (h : At w0 w gb gp ge l p) : At w0 w.drew gb gp ge l p := h.below (below_drew (Below.refl _ _))
theorem Box.drew (h : Box w g t cs) : Box w.drew g t cs := h
end
set_option maxHeartbeats 8000000 in
theorem parsePrincipal_any (gb gp ge gc p ver : Nat) (cs : Array Value) (l : List Int) (w : World) (hl : okBytes l) (hs : Src w gb ge l) (hp : Pos w gp p) (hpl : p ≤ l.length) (hc : Box w gc 79 cs) (hver : cs[0]? = some (.int .u8 ver)) (hv34 : ver = 3 ∨ ver = 4) :
    Calls Try.prog 49 #[.slice (some ⟨gb, 0, none⟩) l.length l.length, .pointer (some ⟨gp, 0, none⟩), .pointer (some ⟨gc, 0, none⟩), .pointer (some ⟨ge, 0, none⟩)] w (Ret (PrinV w) w gp (rPrin l p)) := by
  have HL := Aside0.mk hl
  have A0 := Aside0.mk (At.alloc (At.start hs hp) (.cells #[.string ⟨#[]⟩, .int .i32 0, .slice none 0 0] 76))
  have B0 := Aside0.mk (hc.alloc (.cells #[.string ⟨#[]⟩, .int .i32 0, .slice none 0 0] 76))
  have C0 := Aside0.mk (Box.new w #[.string ⟨#[]⟩, .int .i32 0, .slice none 0 0] 76)
  have HV := Aside0.mk hver
  have hv1 : ((ver : Int) == 1) = false := by rcases hv34 with rfl | rfl <;> rfl
  have hv1' : ((ver : Int) != 1) = true := by rcases hv34 with rfl | rfl <;> rfl
  have hu74 := Try.underlying74
  have hu76 := Try.underlying76
  have hcl := hc.cell 0 _ hver
  have hgc : gc < w.heap.size := hc.lt
  clear hl hs hp hc hver hv34
  go_enter Try.func49, Try.ntmps49
  go_wp2_with fail
  generalize w.alloc (Obj.cells #[.string ⟨#[]⟩, .int .i32 0, .slice none 0 0] 76) = w1 at *
  clear hcl
  with_reducible refine (readInt32_any gb gp ge p l _ HL.out A0.out.src A0.out.pos hpl).mono ?_
  intro e w2 h1
  rcases h1.cases with ⟨hr, ⟨dt, dx⟩, hg⟩ | ⟨nt, p1, v, hr, rfl, rfl, hg, hp1⟩
  · exact ⟨rfl, Ret.dies (by simp [rPrin, hr]) ⟨_, _⟩ (A0.out.grown.trans hg)⟩
  have HR1 := Aside0.mk hr
  have A1 := Aside0.mk (A0.out.call hg hp1)
  have B1 := Aside0.mk (B0.out.call A0.out.pos (by decide) hg)
  have C1 := Aside0.mk (C0.out.call A0.out.pos (by decide) hg)
  have c1 := C1.out.cell 1 (.int .i32 0) rfl
  have f1 := C1.out.free 1
  clear h1 hr hg hp1
  go_wp2_with fail
  have A2 := Aside0.mk (A1.out.set C1.out (by decide) (Nat.le_refl _) 1 (.int .i32 nt))
  have B2 := Aside0.mk (B1.out.far (g' := w.heap.size) (by omega) 1 (.int .i32 nt))
  have C2 := Aside0.mk (C1.out.puts (cs' := #[.string ⟨#[]⟩, .int .i32 nt, .slice none 0 0]) 1 (.int .i32 nt) rfl)
  clear c1 f1
  generalize w2.setCell ⟨w.heap.size, 1, none⟩ (.int .i32 nt) = w3 at *
  with_reducible refine (readInt32_any gb gp ge p1 l _ HL.out A2.out.src A2.out.pos (r32_le HR1.out).1).mono ?_
  intro e w4 h1
  rcases h1.cases with ⟨hr, ⟨dt, dx⟩, hg⟩ | ⟨nc, p2, v, hr, rfl, rfl, hg, hp1⟩
  · exact ⟨rfl, Ret.dies (by simp [rPrin, HR1.out, hr]) ⟨_, _⟩ (A2.out.grown.trans hg)⟩
  have HR2 := Aside0.mk hr
  have A3 := Aside0.mk (A2.out.call hg hp1)
  have B3 := Aside0.mk (B2.out.call A2.out.pos (by decide) hg)
  have C3 := Aside0.mk (C2.out.call A2.out.pos (by decide) hg)
  have d0 := B3.out.cell 0 _ HV.out
  obtain ⟨_, _, n0, n1⟩ := r32_le HR2.out
  clear h1 hr hg hp1
  go_wp2_with fail
  with_reducible refine (readInt32_any gb gp ge p2 l _ HL.out A3.out.src A3.out.pos (r32_le HR2.out).1).mono ?_
  intro e w5 h1
  rcases h1.cases with ⟨hr, ⟨dt, dx⟩, hg⟩ | ⟨lr, p3, v, hr, rfl, rfl, hg, hp1⟩
  · exact ⟨rfl, Ret.dies (by simp [rPrin, HR1.out, HR2.out, rData, hr]) ⟨_, _⟩ (A3.out.grown.trans hg)⟩
  have HR3 := Aside0.mk hr
  have A4 := Aside0.mk (A3.out.call hg hp1)
  have B4 := Aside0.mk (B3.out.call A3.out.pos (by decide) hg)
  have C4 := Aside0.mk (C3.out.call A3.out.pos (by decide) hg)
  obtain ⟨_, _, l0, l1⟩ := r32_le HR3.out
  clear h1 hr hg hp1 d0
  go_wp2_with fail
  with_reducible refine (readBytes_any gb gp ge p3 lr l _ HL.out A4.out.src A4.out.pos (r32_le HR3.out).1 (by have := r32_le HR3.out; omega)).mono ?_
  intro e w6 h1
  rcases h1.cases with ⟨hr, ⟨dt, dx⟩, hg⟩ | ⟨rb, p4, v, hr, rfl, hv, hg, hp1⟩
  · exact ⟨rfl, Ret.dies (by simp [rPrin, HR1.out, HR2.out, rData, HR3.out, hr]) ⟨_, _⟩ (A4.out.grown.trans hg)⟩
  have HR4 := Aside0.mk (show rData l p2 = some (rb, p4) from by simp [rData, HR3.out, hr])
  obtain ⟨Av, cv, ev⟩ := Kd.R_slice hv
  subst ev
  have A5 := Aside0.mk (A4.out.call hg hp1)
  have B5 := Aside0.mk (B4.out.call A4.out.pos (by decide) hg)
  have C5 := Aside0.mk (C4.out.call A4.out.pos (by decide) hg)
  have hcv : (convert 83 9 (.slice Av rb.length cv)).run Try.prog w6 = .ok (.string (strOfNums rb)) w6 := own_string Try.underlying83 Try.underlying5 Try.underlying9 (Kd.own_of_R hv)
  have c0 := C5.out.cell 0 (.string ⟨#[]⟩) rfl
  have f0 := C5.out.free 0
  clear h1 hr hg hp1 hv HR3
  go_wp2_with fail
  have A6 := Aside0.mk (A5.out.set C5.out (by decide) (Nat.le_refl _) 0 (.string (strOfNums rb)))
  have B6 := Aside0.mk (B5.out.far (g' := w.heap.size) (by omega) 0 (.string (strOfNums rb)))
  have C6 := Aside0.mk (C5.out.puts (cs' := #[.string (strOfNums rb), .int .i32 nt, .slice none 0 0]) 0 (.string (strOfNums rb)) rfl)
  clear c0 f0 hcv A0 A1 A2 A3 A4 A5 B0 B1 B2 B3 B4 B5 C0 C1 C2 C3 C4 C5
  generalize w6.setCell ⟨w.heap.size, 0, none⟩ (.string (strOfNums rb)) = w7 at *
  clear w1 w2 w3 w4 w5 w6
  obtain ⟨n, hn⟩ : ∃ n, n = nc.toNat := ⟨_, rfl⟩
  have HN := Aside0.mk hn
  clear hn
  have HP4 := Aside0.mk (show p4 ≤ l.length from (rData_le4 HR4.out).1)
  go_loopw [11] (fun i wr => ∃ (k pk : Nat) (acc : List ByteArray) (Au : Option Addr) (cu : Nat), k ≤ n ∧ i = .int .i64 k ∧ acc.length = k ∧ Aside0 (rNames l n p4 = (rNames l (n - k) pk).bind fun y => some (acc ++ y.1, y.2)) ∧ Aside0 (4 * k ≤ pk ∧ pk ≤ l.length) ∧
      Aside0 (At w wr gb gp ge l pk) ∧ Aside0 (Box wr gc 79 cs) ∧ Aside0 (Box wr w.heap.size 76 #[.string (strOfNums rb), .int .i32 nt, .slice Au acc.length cu]) ∧ Aside0 (Kd.string.R 9 wr w.heap.size (fun _ => True) (.slice Au acc.length cu) acc))
    (fun i _ => n - (intOf i).toNat)
  case atStart =>
    refine ⟨0, p4, [], none, 0, Nat.zero_le _, rfl, rfl, ⟨?_⟩, ⟨by omega, HP4.out⟩, A6, B6, C6, ⟨Kd.R_nil _ _ _ _ _⟩⟩
    rw [Nat.sub_zero]
    cases rNames l n p4 <;> rfl
  case round =>
    clear A6 B6 C6
    obtain ⟨k, pk, acc, Au, cu, hk, rfl, hlen, HRec, HPK, A6, B6, C6, V6⟩ := hrel
    by_cases hlt : k < n
    · have hlt' : (k : Int) < nc := by have := HN.out; omega
      have HK := Aside0.mk hlt
      have HLN := Aside0.mk hlen
      obtain ⟨m1, hm1⟩ : ∃ m1, n - k = m1 + 1 := ⟨n - k - 1, by omega⟩
      have hrec := HRec.out
      rw [hm1] at hrec
      have HRc := Aside0.mk hrec
      have HM1 := Aside0.mk hm1
      have hkb : (k : Int) ≤ 2147483648 := by omega
      have HNO : Aside0 (rData l pk = none → rPrin l p = none) := ⟨fun h => by simp [rPrin, HR1.out, HR2.out, HR4.out, ← HN.out, HRc.out, rNames, h]⟩
      clear hrec HRec hm1 hlen hk hlt
      go_wp2_with fail
      with_reducible refine (readInt32_any gb gp ge pk l _ HL.out A6.out.src A6.out.pos HPK.out.2).mono ?_
      intro e w5 h1
      rcases h1.cases with ⟨hr, ⟨dt, dx⟩, hg⟩ | ⟨m, p5, v, hr, rfl, rfl, hg, hp1⟩
      · refine ⟨rfl, Ret.dies ?_ ⟨_, _⟩ (A6.out.grown.trans hg)⟩
        exact HNO.out (by simp [rData, hr])
      have HR5 := Aside0.mk hr
      have HWM := Aside0.mk (show wrap64 m = m from by have := r32_le hr; unfold wrap64; omega)
      have HM31 := Aside0.mk (show -4294967296 ≤ m ∧ m ≤ 4294967296 from by have := r32_le hr; omega)
      have A7 := Aside0.mk (A6.out.call hg hp1).drew
      have B7 := Aside0.mk (B6.out.call A6.out.pos (by decide) hg).drew
      have C7 := Aside0.mk (C6.out.call A6.out.pos (by decide) hg).drew
      have V7 := Aside0.mk (Kd.R_drew (row_call V6.out A6.out.pos (by decide) hg))
      obtain ⟨_, _, m0, m2⟩ := r32_le HR5.out
      have HLEN := Aside0.mk (show (acc.length + 1) * 16 ≤ 140737488355328 from by have := HPK.out; have := HL.out.1; have := HLN.out; omega)
      clear h1 hr hg hp1 A6 B6 C6 V6
      have A6 := A7
      have B6 := B7
      have C6 := C7
      have V6 := V7
      clear A7 B7 C7 V7
      go_wp2_with fail
      refine start_ (n := 15) (S := fun w' => w'.cell? ⟨w.heap.size, 2, none⟩ = some (.slice Au acc.length cu)) (ds := [14]) #[false, false, false, false, false, false, false, false, false, false, false, false, false, false, false] (by kernel_rfl) rfl rfl ((C6.out.cell 2 _ rfl)) (fun hHeld => ?_)
      generalize w5.drew = w6 at A6 B6 C6 V6 hHeld ⊢
      refine pure_ (i := 0) (N := some 57) (v := ?_) (a' := ?_) #[true, false, false, false, false, false, false, false, false, false, false, false, false, false, false] rfl rfl (by kernel_rfl) (fun _ _ _ h => h) (Or.inl ⟨by rfl, ?_⟩) ?_ ?_
      rotate_left
      · intro w'
        go_simp
        with_reducible rfl
      rotate_left
      · simp only [Act.put, List.setIfInBounds_toArray, List.set_cons_zero, List.set_cons_succ, i64_w, i32_w]
        rfl
      refine pure_ (i := 1) (N := some 58) (v := ?_) (a' := ?_) #[true, true, false, false, false, false, false, false, false, false, false, false, false, false, false] rfl rfl (by kernel_rfl) (fun _ _ _ h => h) (Or.inl ⟨by rfl, ?_⟩) ?_ ?_
      rotate_left
      · intro w'
        go_simp
        with_reducible rfl
      rotate_left
      · simp only [Act.put, List.setIfInBounds_toArray, List.set_cons_zero, List.set_cons_succ, i64_w, i32_w]
        rfl
      refine pure_ (i := 3) (N := some 60) (v := ?_) (a' := ?_) #[true, true, false, true, false, false, false, false, false, false, false, false, false, false, false] rfl rfl (by kernel_rfl) (fun _ _ _ h => h) (Or.inl ⟨by rfl, ?_⟩) ?_ ?_
      rotate_left
      · intro w'
        go_simp
        with_reducible rfl
      rotate_left
      · simp only [Act.put, List.setIfInBounds_toArray, List.set_cons_zero, List.set_cons_succ, i64_w, i32_w]
        rfl
      refine pure_ (i := 4) (N := some 61) (v := ?_) (a' := ?_) #[true, true, false, true, true, false, false, false, false, false, false, false, false, false, false] rfl rfl (by kernel_rfl) (fun _ _ _ h => h) (Or.inl ⟨by rfl, ?_⟩) ?_ ?_
      rotate_left
      · intro w'
        go_simp
        with_reducible rfl
      rotate_left
      · simp only [Act.put, List.setIfInBounds_toArray, List.set_cons_zero, List.set_cons_succ, i64_w, i32_w]
        rfl
      refine pure_ (i := 5) (N := some 62) (v := ?_) (a' := ?_) #[true, true, false, true, true, true, false, false, false, false, false, false, false, false, false] rfl rfl (by kernel_rfl) (fun _ _ _ h => h) (Or.inl ⟨by rfl, ?_⟩) ?_ ?_
      rotate_left
      · intro w'
        go_simp
        with_reducible rfl
      rotate_left
      · simp only [Act.put, List.setIfInBounds_toArray, List.set_cons_zero, List.set_cons_succ, i64_w, i32_w]
        rfl
      refine pure_ (i := 6) (N := some 63) (v := ?_) (a' := ?_) #[true, true, false, true, true, true, true, false, false, false, false, false, false, false, false] rfl rfl (by kernel_rfl) (fun _ _ _ h => h) (Or.inl ⟨by rfl, ?_⟩) ?_ ?_
      rotate_left
      · intro w'
        go_simp
        with_reducible rfl
      rotate_left
      · simp only [Act.put, List.setIfInBounds_toArray, List.set_cons_zero, List.set_cons_succ, i64_w, i32_w]
        rfl
      refine pure_ (i := 7) (N := some 64) (v := ?_) (a' := ?_) #[true, true, false, true, true, true, true, true, false, false, false, false, false, false, false] rfl rfl (by kernel_rfl) (fun _ _ _ h => h) (Or.inl ⟨by rfl, ?_⟩) ?_ ?_
      rotate_left
      · intro w'
        go_simp
        with_reducible rfl
      rotate_left
      · simp only [Act.put, List.setIfInBounds_toArray, List.set_cons_zero, List.set_cons_succ, i64_w, i32_w]
        rfl
      refine take_ (i := 2) (N := some 59) (v := ?_) (a' := ?_) #[true, true, true, true, true, true, true, true, false, false, false, false, false, false, false] rfl rfl (by kernel_rfl) (fun _ _ _ h => h) (Or.inl ⟨by rfl, ?_⟩) hHeld ?_ ?_
      rotate_left
      · intro w' s0
        go_simp
        with_reducible rfl
      rotate_left
      · simp only [Act.put, List.setIfInBounds_toArray, List.set_cons_zero, List.set_cons_succ, i64_w, i32_w]
        rfl
      refine one_ (i := 8) (N := some 65) #[true, true, true, true, true, true, true, true, true, false, false, false, false, false, false] rfl rfl (by kernel_rfl) (by decide) (fun K hK => ?_)
      rw [HWM.out]
      refine goesP_ Try.func57 (by kernel_rfl) rfl #[.slice (some ⟨gb, 0, none⟩) l.length l.length, .pointer (some ⟨gp, 0, none⟩), .int .i64 m, .pointer (some ⟨ge, 0, none⟩)] (by rfl) rfl rfl (by simp only [List.map_toArray, List.map_cons, List.map_nil]; rfl) ?_
      with_reducible refine (readBytes_any gb gp ge p5 m l _ HL.out A6.out.src A6.out.pos (r32_le HR5.out).1 HM31.out).mono ?_
      intro e w7 h7
      rcases h7.cases with ⟨hr, ⟨dt, dx⟩, hg⟩ | ⟨bs, p6, v, hr, rfl, hv, hg, hp6⟩
      · exact .inr ⟨_, rfl, rfl, Ret.dies (HNO.out (by simp [rData, HR5.out, hr])) ⟨_, _⟩ (A6.out.grown.trans hg)⟩
      obtain ⟨Av, cv, ev⟩ := Kd.R_slice hv
      subst ev
      have HR6 := Aside0.mk hr
      have A7 := Aside0.mk (A6.out.call hg hp6)
      have B7 := Aside0.mk (B6.out.call A6.out.pos (by decide) hg)
      have C7 := Aside0.mk (C6.out.call A6.out.pos (by decide) hg)
      have V7 := Aside0.mk (row_call V6.out A6.out.pos (by decide) hg)
      have HS7 := Aside0.mk (show (convert 83 9 (.slice Av bs.length cv)).run Try.prog w7 = .ok (.string (strOfNums bs)) w7 from own_string Try.underlying83 Try.underlying5 Try.underlying9 (Kd.own_of_R hv))
      clear h7 hr hv hg hp6
      refine .inl ⟨_, rfl, ?_⟩
      refine hK.out _ _ ((C7.out.cell 2 _ rfl)) (fun hHeld => ?_)
      clear hK K
      refine norm_ (a' := ?_) ?_ ?_
      rotate_left
      · show Act.put _ (some 65) _ = _
        simp only [Act.put, List.setIfInBounds_toArray, List.set_cons_zero, List.set_cons_succ, i64_w, i32_w]
        rfl
      refine one_ (i := 9) (N := some 66) #[true, true, true, true, true, true, true, true, true, true, false, false, false, false, false] rfl rfl (by kernel_rfl) (by decide) (fun K hK => ?_)
      have hcv := HS7.out
      refine value_ (w1 := ?_) (v := ?_) (by rfl) rfl ?_ ?_
      rotate_left 2
      · go_simp
        constructor
        · rfl
        · rfl
      clear hcv HS7
      refine hK.out _ _ ((C7.out.cell 2 _ rfl)) (fun hHeld => ?_)
      clear hK K
      refine norm_ (a' := ?_) ?_ ?_
      rotate_left
      · show Act.put _ (some 66) _ = _
        simp only [Act.put, List.setIfInBounds_toArray, List.set_cons_zero, List.set_cons_succ, i64_w, i32_w]
        rfl
      refine one_ (i := 10) (N := some 67) #[true, true, true, true, true, true, true, true, true, true, true, false, false, false, false] rfl rfl (by kernel_rfl) (by decide) (fun K hK => ?_)
      refine value_ (w1 := ?_) (v := ?_) (by rfl) rfl ?_ ?_
      rotate_left 2
      · go_simp
        constructor
        · rfl
        · rfl
      refine hK.out _ _ (((C7.out.alloc _).cell 2 _ rfl)) (fun hHeld => ?_)
      clear hK K
      refine norm_ (a' := ?_) ?_ ?_
      rotate_left
      · show Act.put _ (some 67) _ = _
        simp only [Act.put, List.setIfInBounds_toArray, List.set_cons_zero, List.set_cons_succ, i64_w, i32_w]
        rfl
      refine one_ (i := 11) (N := some 68) #[true, true, true, true, true, true, true, true, true, true, true, true, false, false, false] rfl rfl (by kernel_rfl) (by decide) (fun K hK => ?_)
      refine Kd.R_append_step Kd.string (w0 := w7) w.heap.size (by rfl) (.tmp 59) (.tmp 67) 22 9 (.string ⟨#[]⟩) 16 (by rfl) Try.underlying22 info9 rfl (by decide) (by decide) (.slice Au acc.length cu) acc (strOfNums bs) [.string (strOfNums bs)] (fun _ => True) (fun _ => False) (by rfl) (by rfl) rfl (fun _ h => h.elim) (fun _ _ => trivial) V7.out (Below.refl _ _) A7.out.size HLEN.out ?_
      intro v9 w9 hv9 hb9 hg9 hat9
      obtain ⟨acc1, hacc⟩ : ∃ a_, a_ = acc ++ [strOfNums bs] := ⟨_, rfl⟩
      rw [← hacc] at hv9
      have HACC := Aside0.mk hacc
      clear hacc
      obtain ⟨A9, c9, ev9⟩ := Kd.R_slice hv9
      subst ev9
      have A9' := Aside0.mk (A7.out.row V7.out (by decide) (Nat.le_refl _) hg9)
      have B9 := Aside0.mk (B7.out.row V7.out (by decide) hg9)
      have C9 := Aside0.mk (C7.out.row V7.out (by decide) hg9)
      have V9 := Aside0.mk hv9
      clear hv9 hb9 hg9 hat9
      refine hK.out _ _ ((C9.out.cell 2 _ rfl)) (fun hHeld => ?_)
      clear hK K
      refine norm_ (a' := ?_) ?_ ?_
      rotate_left
      · show Act.put _ (some 68) _ = _
        simp only [Act.put, List.setIfInBounds_toArray, List.set_cons_zero, List.set_cons_succ, i64_w, i32_w]
        rfl
      refine pure_ (i := 12) (N := some 69) (v := ?_) (a' := ?_) #[true, true, true, true, true, true, true, true, true, true, true, true, true, false, false] rfl rfl (by kernel_rfl) (fun _ _ _ h => h) (Or.inl ⟨by rfl, ?_⟩) ?_ ?_
      rotate_left
      · intro w'
        go_simp
        with_reducible rfl
      rotate_left
      · simp only [Act.put, List.setIfInBounds_toArray, List.set_cons_zero, List.set_cons_succ, i64_w, i32_w]
        rfl
      refine pure_ (i := 13) (N := some 70) (v := ?_) (a' := ?_) #[true, true, true, true, true, true, true, true, true, true, true, true, true, true, false] rfl rfl (by kernel_rfl) (fun _ _ _ h => h) (Or.inl ⟨by rfl, ?_⟩) ?_ ?_
      rotate_left
      · intro w'
        go_simp
        with_reducible rfl
      rotate_left
      · simp only [Act.put, List.setIfInBounds_toArray, List.set_cons_zero, List.set_cons_succ, i64_w, i32_w]
        rfl
      refine last_ (i := 14) (N := none) #[true, true, true, true, true, true, true, true, true, true, true, true, true, true, true] rfl rfl (by kernel_rfl) (by decide) (fun K hK => ?_)
      have c2 := C9.out.cell 2 _ rfl
      have f2 := C9.out.free 2
      refine skip_ (w1 := ?_) (by rfl) rfl ?_ ?_
      rotate_left
      · go_simp
        rfl
      clear c2 f2
      refine hK.out _ _ ?_
      clear hK K
      refine done_ (by kernel_rfl) ?_

      have HD := Aside0.mk (show rData l pk = some (bs, p6) from by simp [rData, HR5.out, HR6.out])
      have A10 := Aside0.mk (A9'.out.set C9.out (by decide) (Nat.le_refl _) 2 (.slice A9 acc1.length c9))
      have B10 := Aside0.mk (B9.out.far (g' := w.heap.size) (by omega) 2 (.slice A9 acc1.length c9))
      have C10 := Aside0.mk (C9.out.puts (cs' := #[.string (strOfNums rb), .int .i32 nt, .slice A9 acc1.length c9]) 2 (.slice A9 acc1.length c9) rfl)
      have V10 := Aside0.mk (row_set V9.out C9.out (by decide) 2 (.slice A9 acc1.length c9))
      clear A9' B9 C9 V9 A6 B6 C6 V6 A7 B7 C7 V7
      go_wp2
      go_roundw
      case rel =>
        have q := rData_le4 HD.out
        have hk := HPK.out
        have hk1 := HK.out
        refine ⟨k + 1, p6, acc1, A9, c9, by omega, by go_num, by rw [HACC.out]; simp [HLN.out], ⟨?_⟩, ⟨by omega, q.1⟩, A10, B10, C10, V10⟩
        rw [HRc.out, show n - (k + 1) = m1 from by have := HM1.out; omega]
        simp only [rNames, HD.out, Option.bind_some]
        cases rNames l m1 p6 with
        | none => rfl
        | some y => simp [HACC.out]
      case measure => have := HK.out; simp [intOf]; omega
    · obtain rfl : k = n := by omega
      have HRc := Aside0.mk (show rNames l k p4 = some (acc, pk) from by have := HRec.out; rw [Nat.sub_self] at this; simpa [rNames] using this)
      have hnlt : ¬ ((k : Int) < nc) := by have := HN.out; omega
      have k0 := C6.out.cell 0 (.string (strOfNums rb)) rfl
      have k1 := C6.out.cell 1 (.int .i32 nt) rfl
      have k2 := C6.out.cell 2 (.slice Au acc.length cu) rfl
      have HLN := Aside0.mk hlen
      clear hlen
      have f0 := C6.out.free 0
      have f1 := C6.out.free 1
      have f2 := C6.out.free 2
      clear HRec hlt hk
      go_wp2
      have A9 := ((A6.out.set C6.out (by decide) (Nat.le_refl _) 0 (.string (strOfNums rb))).set (C6.out.put 0 (.string (strOfNums rb))) (by decide) (Nat.le_refl _) 1 (.int .i32 nt)).set ((C6.out.put 0 (.string (strOfNums rb))).put 1 (.int .i32 nt)) (by decide) (Nat.le_refl _) 2 (.slice Au acc.length cu)
      have C9 := ((C6.out.puts 0 (.string (strOfNums rb)) rfl).puts 1 (.int .i32 nt) rfl).puts (cs' := #[.string (strOfNums rb), .int .i32 nt, .slice Au acc.length cu]) 2 (.slice Au acc.length cu) rfl
      have V9 := row_set (row_set (row_set V6.out C6.out (by decide) 0 (.string (strOfNums rb))) (C6.out.put 0 (.string (strOfNums rb))) (by decide) 1 (.int .i32 nt)) ((C6.out.put 0 (.string (strOfNums rb))).put 1 (.int .i32 nt)) (by decide) 2 (.slice Au acc.length cu)
      refine bodyPost_ret (results_cell_row rfl _ _ w.heap.size 76 #[.string (strOfNums rb), .int .i32 nt, .slice Au acc.length cu] (0, 0) _ rfl C9 Try.underlying76 rfl info76) rfl ?_
      exact Ret.gives (a := ⟨strOfNums rb, nt, acc⟩) (p' := pk) (by simp [rPrin, HR1.out, HR2.out, HR4.out, ← HN.out, HRc.out]) rfl ⟨Au, cu, rfl, V9⟩ A9.grown A9.pos
end Go.Proofs.Ytnipcocllhfaoaa.B

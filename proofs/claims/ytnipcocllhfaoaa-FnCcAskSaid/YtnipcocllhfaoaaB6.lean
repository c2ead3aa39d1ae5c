/- A credential is read; under what each theorem states. Written by a program of this session. -/
import Derived.Test.YtnipcocllhfaoaaB5
namespace Go.Proofs.Ytnipcocllhfaoaa.B
open Go.RowKit Go.Proofs.YtnipcocllhfaoaaW.PrintWords Go.Proofs.YtnipcocllhfaoaaW.PrintLast
set_option linter.unusedVariables false
set_option linter.unusedSimpArgs false
set_option maxRecDepth 100000
/-- A credential as it is read. -/
structure PCred where
  client : Prin
  server : Prin
  kt : Int
  key : List Int
  t1 : Int
  t2 : Int
  t3 : Int
  t4 : Int
  ik : Int
  fl : List Int
  ad : List (Int × List Int)
  au : List (Int × List Int)
  tk : List Int
  sc : List Int
def rPartList (l : List Int) : Nat → Nat → Option (List (Int × List Int) × Nat)
  | 0, p => some ([], p)
  | n + 1, p => (rPart l p).bind fun x => (rPartList l n x.2).bind fun y => some (x.1 :: y.1, y.2)
def rParts (l : List Int) (p : Nat) : Option (List (Int × List Int) × Nat) := (r32 l p).bind fun n => if 0 ≤ n.1 then rPartList l n.1.toNat n.2 else none
def rType (ver : Nat) (l : List Int) (p : Nat) : Option (Int × Nat) := (r16 l p).bind fun k => if ver = 3 then r16 l k.2 else some k
def rCred (ver : Nat) (l : List Int) (p : Nat) : Option (PCred × Nat) :=
  (rPrin l p).bind fun c => (rPrin l c.2).bind fun s => (rType ver l s.2).bind fun kt => (rData l kt.2).bind fun key => (r32 l key.2).bind fun t1 => (r32 l t1.2).bind fun t2 => (r32 l t2.2).bind fun t3 => (r32 l t3.2).bind fun t4 =>
  (r8 l t4.2).bind fun ik => (rBytes l ik.2 4).bind fun fl => (rParts l fl.2).bind fun ad => (rParts l ad.2).bind fun au => (rData l au.2).bind fun tk => (rData l tk.2).bind fun sc =>
  some (⟨c.1, s.1, kt.1, key.1, t1.1, t2.1, t3.1, t4.1, ik.1, fl.1, ad.1, au.1, tk.1, sc.1⟩, sc.2)
def kPart : Kd (Int × List Int) := Kd.pair (Kd.int .i32) (Kd.slice 5 (Kd.int .u8))
/-- A credential in memory: its block, and the rows that it leads to. -/
def CredAt (base : Nat) (w : World) (g : Nat) (a : PCred) : Prop :=
  ∃ (A2 A5 A7 A17 A19 A20 A21 A22 : Option Addr) (c2 c5 c7 c17 c19 c20 c21 c22 : Nat),
    Box w g 96 #[.string a.client.realm, .int .i32 a.client.kind, .slice A2 a.client.names.length c2, .string a.server.realm, .int .i32 a.server.kind, .slice A5 a.server.names.length c5, .int .i32 a.kt, .slice A7 a.key.length c7,
      .int .i64 a.t1, .bool true, .int .i64 a.t2, .bool true, .int .i64 a.t3, .bool true, .int .i64 a.t4, .bool true, .bool (decide (a.ik ≠ 0)), .slice A17 a.fl.length c17, .int .i64 32, .slice A19 a.ad.length c19, .slice A20 a.au.length c20, .slice A21 a.tk.length c21, .slice A22 a.sc.length c22] ∧
    Kd.string.R 9 w base (fun _ => True) (.slice A2 a.client.names.length c2) a.client.names ∧ Kd.string.R 9 w base (fun _ => True) (.slice A5 a.server.names.length c5) a.server.names ∧
    (Kd.int .u8).R 5 w base (fun _ => True) (.slice A7 a.key.length c7) a.key ∧ (Kd.int .u8).R 5 w base (fun _ => True) (.slice A17 a.fl.length c17) a.fl ∧
    kPart.Q 100 w base (fun _ => True) (.slice A19 a.ad.length c19) a.ad ∧ kPart.Q 103 w base (fun _ => True) (.slice A20 a.au.length c20) a.au ∧
    (Kd.int .u8).R 5 w base (fun _ => True) (.slice A21 a.tk.length c21) a.tk ∧ (Kd.int .u8).R 5 w base (fun _ => True) (.slice A22 a.sc.length c22) a.sc
theorem info100z : (Try.prog.info? 100).map (fun i => (i.zero, i.size, i.bytes)) = some (some (.agg #[.int .i32 0, .slice none 0 0]), 2, 32) := by kernel_rfl
theorem info103z : (Try.prog.info? 103).map (fun i => (i.zero, i.size, i.bytes)) = some (some (.agg #[.int .i32 0, .slice none 0 0]), 2, 32) := by kernel_rfl
theorem rParts_n {l : List Int} {p : Nat} (h : r32 l p = none) : rParts l p = none := by simp [rParts, h]
theorem rParts_neg {l : List Int} {p q : Nat} {n : Int} (h : r32 l p = some (n, q)) (hn : ¬ 0 ≤ n) : rParts l p = none := by simp [rParts, h, hn]
theorem rParts_of {l : List Int} {p q : Nat} {n : Int} (h : r32 l p = some (n, q)) (hn : 0 ≤ n) : rParts l p = rPartList l n.toNat q := by simp [rParts, h, hn]
theorem rPartList_le {l : List Int} : ∀ {n p p' : Nat} {a : List (Int × List Int)}, p ≤ l.length → rPartList l n p = some (a, p') → p' ≤ l.length ∧ p ≤ p'
  | 0, p, p', a, hp, h => by obtain ⟨_, rfl⟩ := Prod.mk.inj (Option.some.inj h); exact ⟨hp, Nat.le_refl _⟩
  | n + 1, p, p', a, hp, h => by
    simp only [rPartList] at h
    obtain ⟨⟨b, p1⟩, h1, h2⟩ := Option.bind_eq_some_iff.1 h
    obtain ⟨⟨c, p2⟩, h3, h4⟩ := Option.bind_eq_some_iff.1 h2
    obtain ⟨_, rfl⟩ := Prod.mk.inj (Option.some.inj h4)
    have q1 := rPart_le h1
    have q2 := rPartList_le q1.1 h3
    omega
theorem rParts_le {l : List Int} {p p' : Nat} {a : List (Int × List Int)} (h : rParts l p = some (a, p')) : p' ≤ l.length ∧ p ≤ p' := by
  unfold rParts at h
  obtain ⟨⟨n, p1⟩, h1, h2⟩ := Option.bind_eq_some_iff.1 h
  have q1 := r32_le h1
  split at h2
  · have q2 := rPartList_le q1.1 h2
    simp only at *
    omega
  · cases h2
theorem rType_le {ver : Nat} {l : List Int} {p p' : Nat} {a : Int} (h : rType ver l p = some (a, p')) : p' ≤ l.length ∧ p ≤ p' := by
  unfold rType at h
  obtain ⟨⟨n, p1⟩, h1, h2⟩ := Option.bind_eq_some_iff.1 h
  have q1 := r16_le h1
  split at h2
  · have q2 := r16_le h2
    simp only at *
    omega
  · obtain ⟨_, rfl⟩ := Prod.mk.inj (Option.some.inj h2)
    exact q1
theorem below_of_grown {w w' : World} (hg : w.grownBy w' none) : Below w.heap.size w w' := ⟨hg.os, hg.tape, hg.output, hg.size, fun i hi => hg.block i hi (by simp)⟩
theorem Rows.get {X : List Nat} {w : World} {L : List (World → Prop)} {P : World → Prop} (h : Rows X w L) (i : Nat) (hi : L[i]? = some P) : P w := (h.all P (List.mem_of_getElem? hi)).2
section
variable {w0 w w' : World} {gb gp ge p g t g' t' : Nat} {l : List Int} {cs cs' : Array Value}
theorem At.blk (h : At w0 w gb gp ge l p) (hb : Box w g t cs) (ht : t ≠ 3 ∧ t ≠ 5 ∧ t ≠ 117) (hge : w0.heap.size ≤ g) (hg : w.grownBy w' (some g)) : At w0 w' gb gp ge l p :=
  ⟨⟨blk_grown h.src.row hg (fun e => by injection e with e; exact ht.2.1 (by have := blk_ne (t := t) (t' := 5) (e ▸ hb) h.src.row; exact Classical.byContradiction fun q => (this q) rfl)), blk_grown h.src.order hg (fun e => by injection e with e; exact ht.2.2 (by have := blk_ne (t := t) (t' := 117) (e ▸ hb) h.src.order; exact Classical.byContradiction fun q => (this q) rfl))⟩,
    blk_grown h.pos hg (fun e => by injection e with e; exact ht.1 (by have := blk_ne (t := t) (t' := 3) (e ▸ hb) h.pos; exact Classical.byContradiction fun q => (this q) rfl)), grown_then h.grown hg fun j hj => by injection hj with hj; omega⟩
theorem Box.blk (h : Box w g' t' cs') (hb : Box w g t cs) (ht : t' ≠ t) (hg : w.grownBy w' (some g)) : Box w' g' t' cs' := blk_grown h hg (fun e => by injection e with e; exact blk_ne h hb ht e)
theorem Kp.blk {X : List Nat} (hb : Box w g t cs) (ht : t ∈ X) (hg : w.grownBy w' (some g)) : Kp X w w' := ⟨hg.size, fun k hk hn => hg.block k hk fun e => by injection e with e; subst e; exact hn t ht _ hb⟩
end
theorem set_done {α : Type} (done : List α) (z x : α) (m : Nat) : (done ++ List.replicate (m + 1) z).set done.length x = (done ++ [x]) ++ List.replicate m z := by
  rw [List.set_append_right _ _ (Nat.le_refl _), Nat.sub_self, List.replicate_succ, List.set_cons_zero]
  simp
/-- One part is stored into a row of parts. -/
theorem parts_put {e base g o n cap k : Nat} {W : World} {xs : List (Int × List Int)} {a : Int} {bs : List Int} {u : Value} (h : kPart.Q e W base (fun _ => True) (.slice (some ⟨g, o, none⟩) n cap) xs) (he : e ≠ 5) (hk : k < n) (hu : (Kd.int .u8).R 5 W base (fun _ => True) u bs) :
    kPart.Q e ((W.setCell ⟨g, o + k * 2, none⟩ (.int .i32 a)).setCell ⟨g, o + k * 2 + 1, none⟩ u) base (fun _ => True) (.slice (some ⟨g, o, none⟩) n cap) (xs.set k (a, bs)) ∧ W.grownBy ((W.setCell ⟨g, o + k * 2, none⟩ (.int .i32 a)).setCell ⟨g, o + k * 2 + 1, none⟩ u) (some g) := by
  obtain ⟨c, hcl, _, hcc, _⟩ := Kd.Q_elem h ((0, []) : Int × List Int) (k : Int) (by omega) (by omega)
  have hcl2 : c.length = 2 := hcl
  obtain ⟨g', o', cap', hv, _, _, cells, hg⟩ := Kd.Q_form h (by have := (Kd.Q_reads' h).1; omega)
  injection hv with hv _ _
  injection hv with hv
  injection hv with hv _ _
  subst hv
  have hM : kPart.M W base (fun k => True ∧ k ≠ g) (a, bs) (c.take 0 ++ [.int .i32 a, u] ++ c.drop (0 + [Value.int .i32 a, u].length)) := by
    have e0 : c.drop (0 + [Value.int .i32 a, u].length) = [] := List.drop_eq_nil_of_le (by simp; omega)
    rw [e0]
    exact ⟨[.int .i32 a], [u], by simp, rfl, u, rfl, Kd.R_types hu hg (by simp [Kd.int, Kd.scalar]; omega)⟩
  have := Kd.Q_seg h (k : Int) (by omega) (by omega) (c := c) (seg := [.int .i32 a, u]) (j := 0) hcl hcc (by simp [kPart, Kd.pair, Kd.int, Kd.scalar, Kd.slice]) hM (fun _ h => h)
  simpa [World.setCells, kPart, Kd.pair, Kd.int, Kd.scalar, Kd.slice] using this
set_option maxHeartbeats 16000000 in
theorem parseCredential_any (gb gp ge gc p ver : Nat) (cs : Array Value) (l : List Int) (w : World) (hl : okBytes l) (hs : Src w gb ge l) (hp : Pos w gp p) (hpl : p ≤ l.length) (hc : Box w gc 79 cs) (hver : cs[0]? = some (.int .u8 ver)) (hv34 : ver = 3 ∨ ver = 4) :
    Calls Try.prog 50 #[.slice (some ⟨gb, 0, none⟩) l.length l.length, .pointer (some ⟨gp, 0, none⟩), .pointer (some ⟨gc, 0, none⟩), .pointer (some ⟨ge, 0, none⟩)] w
      (Ret (fun a v w' => ∃ g, v = .tuple #[.pointer (some ⟨g, 0, none⟩), .nilIface] ∧ w.heap.size ≤ g ∧ CredAt w.heap.size w' g a) w gp (rCred ver l p)) := by
  have HL := Aside0.mk hl
  have A0 := Aside0.mk (At.alloc (At.start hs hp) (.cells #[.string ⟨#[]⟩, .int .i32 0, .slice none 0 0, .string ⟨#[]⟩, .int .i32 0, .slice none 0 0, .int .i32 0, .slice none 0 0, .int .i64 0, .bool false, .int .i64 0, .bool false, .int .i64 0, .bool false, .int .i64 0, .bool false, .bool false, .slice none 0 0, .int .i64 0, .slice none 0 0, .slice none 0 0, .slice none 0 0, .slice none 0 0] 96))
  have C0 := Aside0.mk (hc.alloc (.cells #[.string ⟨#[]⟩, .int .i32 0, .slice none 0 0, .string ⟨#[]⟩, .int .i32 0, .slice none 0 0, .int .i32 0, .slice none 0 0, .int .i64 0, .bool false, .int .i64 0, .bool false, .int .i64 0, .bool false, .int .i64 0, .bool false, .bool false, .slice none 0 0, .int .i64 0, .slice none 0 0, .slice none 0 0, .slice none 0 0, .slice none 0 0] 96))
  have B0 := Aside0.mk (Box.new w #[.string ⟨#[]⟩, .int .i32 0, .slice none 0 0, .string ⟨#[]⟩, .int .i32 0, .slice none 0 0, .int .i32 0, .slice none 0 0, .int .i64 0, .bool false, .int .i64 0, .bool false, .int .i64 0, .bool false, .int .i64 0, .bool false, .bool false, .slice none 0 0, .int .i64 0, .slice none 0 0, .slice none 0 0, .slice none 0 0, .slice none 0 0] 96)
  have R0 := Aside0.mk (Rows.nil [3, 79, 88, 96, 100, 103] (w.alloc (.cells #[.string ⟨#[]⟩, .int .i32 0, .slice none 0 0, .string ⟨#[]⟩, .int .i32 0, .slice none 0 0, .int .i32 0, .slice none 0 0, .int .i64 0, .bool false, .int .i64 0, .bool false, .int .i64 0, .bool false, .int .i64 0, .bool false, .bool false, .slice none 0 0, .int .i64 0, .slice none 0 0, .slice none 0 0, .slice none 0 0, .slice none 0 0] 96)))
  have HV := Aside0.mk hver
  have HV34 := Aside0.mk hv34
  have hu74 := Try.underlying74
  have hu76 := Try.underlying76
  have hu88 := Try.underlying88
  have hu90 := Try.underlying90
  have hu92 := Try.underlying92
  have hu96 := Try.underlying96
  have hgc : gc < w.heap.size := hc.lt
  clear hl hs hp hc hver hv34
  go_enter Try.func50, Try.ntmps50
  go_wp2_with fail
  generalize w.alloc (.cells #[.string ⟨#[]⟩, .int .i32 0, .slice none 0 0, .string ⟨#[]⟩, .int .i32 0, .slice none 0 0, .int .i32 0, .slice none 0 0, .int .i64 0, .bool false, .int .i64 0, .bool false, .int .i64 0, .bool false, .int .i64 0, .bool false, .bool false, .slice none 0 0, .int .i64 0, .slice none 0 0, .slice none 0 0, .slice none 0 0, .slice none 0 0] 96) = w1 at *
  with_reducible refine (parsePrincipal_any gb gp ge gc p ver cs l _ HL.out A0.out.src A0.out.pos hpl C0.out HV.out HV34.out).mono ?_
  intro e w2 h1
  rcases h1.cases with ⟨hr, ⟨dt, dx⟩, hg⟩ | ⟨cl, q2, v, hr, rfl, hv, hg, hp1⟩
  · exact ⟨rfl, Ret.dies (by simp [rCred, hr]) ⟨_, _⟩ (A0.out.grown.trans hg)⟩
  obtain ⟨Acl, ccl, ev, hv⟩ := hv
  subst ev
  have Vcl := Aside0.mk (Kd.R_lower hv A0.out.size)
  clear hv
  have Hcl := Aside0.mk hr
  have A1 := Aside0.mk (A0.out.call hg hp1)
  have C1 := Aside0.mk (C0.out.call A0.out.pos (by decide) hg)
  have B1 := Aside0.mk (B0.out.call A0.out.pos (by decide) hg)
  have R1 := Aside0.mk (R0.out.kp (Kp.call A0.out.pos (by decide) hg))
  clear A0 C0 B0 R0
  clear h1 hr hg hp1
  have R2 := Aside0.mk (R1.out.add (Stable.row _ Kd.string 9 w.heap.size (.slice Acl cl.names.length ccl) cl.names (by decide)) (Vcl.out))
  clear R1
  have A2 := A1
  clear A1
  have C2 := C1
  clear C1
  have B2 := B1
  clear B1
  clear Vcl
  have c0 := B2.out.cell 0 (.string ⟨#[]⟩) rfl
  have f0 := B2.out.free 0
  have c1 := B2.out.cell 1 (.int .i32 0) rfl
  have f1 := B2.out.free 1
  have c2 := B2.out.cell 2 (.slice none 0 0) rfl
  have f2 := B2.out.free 2
  go_wp2_with fail
  have A3 := Aside0.mk (A2.out.set B2.out (by decide) (Nat.le_refl _) 0 (.string cl.realm))
  have C3 := Aside0.mk (C2.out.far (g' := w.heap.size) (by omega) 0 (.string cl.realm))
  have B3 := Aside0.mk (B2.out.puts (cs' := #[.string cl.realm, .int .i32 0, .slice none 0 0, .string ⟨#[]⟩, .int .i32 0, .slice none 0 0, .int .i32 0, .slice none 0 0, .int .i64 0, .bool false, .int .i64 0, .bool false, .int .i64 0, .bool false, .int .i64 0, .bool false, .bool false, .slice none 0 0, .int .i64 0, .slice none 0 0, .slice none 0 0, .slice none 0 0, .slice none 0 0]) 0 (.string cl.realm) rfl)
  have R3 := Aside0.mk (R2.out.kp (Kp.set B2.out (by decide) 0 (.string cl.realm)))
  clear A2 C2 B2 R2
  have A4 := Aside0.mk (A3.out.set B3.out (by decide) (Nat.le_refl _) 1 (.int .i32 cl.kind))
  have C4 := Aside0.mk (C3.out.far (g' := w.heap.size) (by omega) 1 (.int .i32 cl.kind))
  have B4 := Aside0.mk (B3.out.puts (cs' := #[.string cl.realm, .int .i32 cl.kind, .slice none 0 0, .string ⟨#[]⟩, .int .i32 0, .slice none 0 0, .int .i32 0, .slice none 0 0, .int .i64 0, .bool false, .int .i64 0, .bool false, .int .i64 0, .bool false, .int .i64 0, .bool false, .bool false, .slice none 0 0, .int .i64 0, .slice none 0 0, .slice none 0 0, .slice none 0 0, .slice none 0 0]) 1 (.int .i32 cl.kind) rfl)
  have R4 := Aside0.mk (R3.out.kp (Kp.set B3.out (by decide) 1 (.int .i32 cl.kind)))
  clear A3 C3 B3 R3
  have A5 := Aside0.mk (A4.out.set B4.out (by decide) (Nat.le_refl _) 2 (.slice Acl cl.names.length ccl))
  have C5 := Aside0.mk (C4.out.far (g' := w.heap.size) (by omega) 2 (.slice Acl cl.names.length ccl))
  have B5 := Aside0.mk (B4.out.puts (cs' := #[.string cl.realm, .int .i32 cl.kind, .slice Acl cl.names.length ccl, .string ⟨#[]⟩, .int .i32 0, .slice none 0 0, .int .i32 0, .slice none 0 0, .int .i64 0, .bool false, .int .i64 0, .bool false, .int .i64 0, .bool false, .int .i64 0, .bool false, .bool false, .slice none 0 0, .int .i64 0, .slice none 0 0, .slice none 0 0, .slice none 0 0, .slice none 0 0]) 2 (.slice Acl cl.names.length ccl) rfl)
  have R5 := Aside0.mk (R4.out.kp (Kp.set B4.out (by decide) 2 (.slice Acl cl.names.length ccl)))
  clear A4 C4 B4 R4
  clear c0 f0 c1 f1 c2 f2
  generalize (((w2.setCell ⟨w.heap.size, 0, none⟩ (.string cl.realm)).setCell ⟨w.heap.size, 1, none⟩ (.int .i32 cl.kind)).setCell ⟨w.heap.size, 2, none⟩ (.slice Acl cl.names.length ccl)) = w3 at *
  with_reducible refine (parsePrincipal_any gb gp ge gc q2 ver cs l _ HL.out A5.out.src A5.out.pos (rPrin_le Hcl.out).1 C5.out HV.out HV34.out).mono ?_
  intro e w4 h1
  rcases h1.cases with ⟨hr, ⟨dt, dx⟩, hg⟩ | ⟨sv, q4, v, hr, rfl, hv, hg, hp1⟩
  · exact ⟨rfl, Ret.dies (by simp [rCred, Hcl.out, hr]) ⟨_, _⟩ (A5.out.grown.trans hg)⟩
  obtain ⟨Asv, csv, ev, hv⟩ := hv
  subst ev
  have Vsv := Aside0.mk (Kd.R_lower hv A5.out.size)
  clear hv
  have Hsv := Aside0.mk hr
  have A6 := Aside0.mk (A5.out.call hg hp1)
  have C6 := Aside0.mk (C5.out.call A5.out.pos (by decide) hg)
  have B6 := Aside0.mk (B5.out.call A5.out.pos (by decide) hg)
  have R6 := Aside0.mk (R5.out.kp (Kp.call A5.out.pos (by decide) hg))
  clear A5 C5 B5 R5
  clear h1 hr hg hp1
  have R7 := Aside0.mk (R6.out.add (Stable.row _ Kd.string 9 w.heap.size (.slice Asv sv.names.length csv) sv.names (by decide)) (Vsv.out))
  clear R6
  have A7 := A6
  clear A6
  have C7 := C6
  clear C6
  have B7 := B6
  clear B6
  clear Vsv
  have HGZ := Aside0.mk A7.out.size
  have c3 := B7.out.cell 3 (.string ⟨#[]⟩) rfl
  have f3 := B7.out.free 3
  have c4 := B7.out.cell 4 (.int .i32 0) rfl
  have f4 := B7.out.free 4
  have c5 := B7.out.cell 5 (.slice none 0 0) rfl
  have f5 := B7.out.free 5
  go_wp2_with fail
  have A8 := Aside0.mk (A7.out.set B7.out (by decide) (Nat.le_refl _) 3 (.string sv.realm))
  have C8 := Aside0.mk (C7.out.far (g' := w.heap.size) (by omega) 3 (.string sv.realm))
  have B8 := Aside0.mk (B7.out.puts (cs' := #[.string cl.realm, .int .i32 cl.kind, .slice Acl cl.names.length ccl, .string sv.realm, .int .i32 0, .slice none 0 0, .int .i32 0, .slice none 0 0, .int .i64 0, .bool false, .int .i64 0, .bool false, .int .i64 0, .bool false, .int .i64 0, .bool false, .bool false, .slice none 0 0, .int .i64 0, .slice none 0 0, .slice none 0 0, .slice none 0 0, .slice none 0 0]) 3 (.string sv.realm) rfl)
  have R8 := Aside0.mk (R7.out.kp (Kp.set B7.out (by decide) 3 (.string sv.realm)))
  clear A7 C7 B7 R7
  have A9 := Aside0.mk (A8.out.set B8.out (by decide) (Nat.le_refl _) 4 (.int .i32 sv.kind))
  have C9 := Aside0.mk (C8.out.far (g' := w.heap.size) (by omega) 4 (.int .i32 sv.kind))
  have B9 := Aside0.mk (B8.out.puts (cs' := #[.string cl.realm, .int .i32 cl.kind, .slice Acl cl.names.length ccl, .string sv.realm, .int .i32 sv.kind, .slice none 0 0, .int .i32 0, .slice none 0 0, .int .i64 0, .bool false, .int .i64 0, .bool false, .int .i64 0, .bool false, .int .i64 0, .bool false, .bool false, .slice none 0 0, .int .i64 0, .slice none 0 0, .slice none 0 0, .slice none 0 0, .slice none 0 0]) 4 (.int .i32 sv.kind) rfl)
  have R9 := Aside0.mk (R8.out.kp (Kp.set B8.out (by decide) 4 (.int .i32 sv.kind)))
  clear A8 C8 B8 R8
  have A10 := Aside0.mk (A9.out.set B9.out (by decide) (Nat.le_refl _) 5 (.slice Asv sv.names.length csv))
  have C10 := Aside0.mk (C9.out.far (g' := w.heap.size) (by omega) 5 (.slice Asv sv.names.length csv))
  have B10 := Aside0.mk (B9.out.puts (cs' := #[.string cl.realm, .int .i32 cl.kind, .slice Acl cl.names.length ccl, .string sv.realm, .int .i32 sv.kind, .slice Asv sv.names.length csv, .int .i32 0, .slice none 0 0, .int .i64 0, .bool false, .int .i64 0, .bool false, .int .i64 0, .bool false, .int .i64 0, .bool false, .bool false, .slice none 0 0, .int .i64 0, .slice none 0 0, .slice none 0 0, .slice none 0 0, .slice none 0 0]) 5 (.slice Asv sv.names.length csv) rfl)
  have R10 := Aside0.mk (R9.out.kp (Kp.set B9.out (by decide) 5 (.slice Asv sv.names.length csv)))
  clear A9 C9 B9 R9
  clear c3 f3 c4 f4 c5 f5
  skip
  have hgz : (((w4.setCell ⟨w.heap.size, 3, none⟩ (.string sv.realm)).setCell ⟨w.heap.size, 4, none⟩ (.int .i32 sv.kind)).setCell ⟨w.heap.size, 5, none⟩ (.slice Asv sv.names.length csv)).heap.size = w4.heap.size := by simp
  have hK := Box.new (((w4.setCell ⟨w.heap.size, 3, none⟩ (.string sv.realm)).setCell ⟨w.heap.size, 4, none⟩ (.int .i32 sv.kind)).setCell ⟨w.heap.size, 5, none⟩ (.slice Asv sv.names.length csv)) #[.int .i32 0, .slice none 0 0] 88
  rw [hgz] at hK
  obtain ⟨gk, hgk⟩ : ∃ g, g = w4.heap.size := ⟨_, rfl⟩
  have HGK := Aside0.mk (show w.heap.size ≤ gk from hgk ▸ HGZ.out)
  rw [← hgk] at hK
  rw [← hgk]
  have K11 := Aside0.mk hK
  have hb : Below (((w4.setCell ⟨w.heap.size, 3, none⟩ (.string sv.realm)).setCell ⟨w.heap.size, 4, none⟩ (.int .i32 sv.kind)).setCell ⟨w.heap.size, 5, none⟩ (.slice Asv sv.names.length csv)).heap.size (((w4.setCell ⟨w.heap.size, 3, none⟩ (.string sv.realm)).setCell ⟨w.heap.size, 4, none⟩ (.int .i32 sv.kind)).setCell ⟨w.heap.size, 5, none⟩ (.slice Asv sv.names.length csv)) ((((w4.setCell ⟨w.heap.size, 3, none⟩ (.string sv.realm)).setCell ⟨w.heap.size, 4, none⟩ (.int .i32 sv.kind)).setCell ⟨w.heap.size, 5, none⟩ (.slice Asv sv.names.length csv)).alloc (.cells #[.int .i32 0, .slice none 0 0] 88)) := below_alloc (Below.refl _ _) _
  have A11 := Aside0.mk (A10.out.below hb)
  have C11 := Aside0.mk (C10.out.below hb)
  have B11 := Aside0.mk (B10.out.below hb)
  have R11 := Aside0.mk (R10.out.kp (Kp.below _ hb))
  clear A10 C10 B10 R10
  clear hb hgk hgz hK HGZ
  generalize (((w4.setCell ⟨w.heap.size, 3, none⟩ (.string sv.realm)).setCell ⟨w.heap.size, 4, none⟩ (.int .i32 sv.kind)).setCell ⟨w.heap.size, 5, none⟩ (.slice Asv sv.names.length csv)).alloc (.cells #[.int .i32 0, .slice none 0 0] 88) = w5 at *
  with_reducible refine (readInt16_any gb gp ge q4 l _ HL.out A11.out.src A11.out.pos (rPrin_le Hsv.out).1).mono ?_
  intro e w6 h1
  rcases h1.cases with ⟨hr, ⟨dt, dx⟩, hg⟩ | ⟨ka, q6, v, hr, rfl, rfl, hg, hp1⟩
  · exact ⟨rfl, Ret.dies (by simp [rCred, Hcl.out, Hsv.out, rType, hr]) ⟨_, _⟩ (A11.out.grown.trans hg)⟩
  have Hka := Aside0.mk hr
  obtain ⟨ka0, ka1⟩ := r16_range hr
  have A12 := Aside0.mk (A11.out.call hg hp1)
  have C12 := Aside0.mk (C11.out.call A11.out.pos (by decide) hg)
  have B12 := Aside0.mk (B11.out.call A11.out.pos (by decide) hg)
  have R12 := Aside0.mk (R11.out.kp (Kp.call A11.out.pos (by decide) hg))
  have K12 := Aside0.mk (K11.out.call A11.out.pos (by decide) hg)
  clear A11 C11 B11 R11 K11
  clear h1 hr hg hp1
  have k0 := K12.out.cell 0 (.int .i32 0) rfl
  have f0 := K12.out.free 0
  have d0 := C12.out.cell 0 _ HV.out
  have hne1 : gc ≠ gk := C12.out.ne K12.out (by decide)
  have hne2 : gk ≠ gc := Ne.symm hne1
  go_upto_if 43 with fail
  clear d0 hne1 hne2
  have A13 := Aside0.mk (A12.out.set K12.out (by decide) HGK.out 0 (.int .i32 ka))
  have C13 := Aside0.mk (C12.out.far (C12.out.ne K12.out (by decide)) 0 (.int .i32 ka))
  have B13 := Aside0.mk (B12.out.far (B12.out.ne K12.out (by decide)) 0 (.int .i32 ka))
  have R13 := Aside0.mk (R12.out.kp (Kp.set K12.out (by decide) 0 (.int .i32 ka)))
  have K13 := Aside0.mk (K12.out.puts (cs' := #[.int .i32 ka, .slice none 0 0]) 0 (.int .i32 ka) rfl)
  clear A12 C12 B12 R12 K12
  clear k0 f0
  generalize w6.setCell ⟨gk, 0, none⟩ (.int .i32 ka) = w7 at *
  go_cut [] (fun wx => ∃ (kt : Int) (pk : Nat), Aside0 (rType ver l q4 = some (kt, pk)) ∧ Aside0 (At w wx gb gp ge l pk) ∧ Aside0 (Box wx gc 79 cs) ∧ Aside0 (Box wx w.heap.size 96 #[.string cl.realm, .int .i32 cl.kind, .slice Acl cl.names.length ccl, .string sv.realm, .int .i32 sv.kind, .slice Asv sv.names.length csv, .int .i32 0, .slice none 0 0, .int .i64 0, .bool false, .int .i64 0, .bool false, .int .i64 0, .bool false, .int .i64 0, .bool false, .bool false, .slice none 0 0, .int .i64 0, .slice none 0 0, .slice none 0 0, .slice none 0 0, .slice none 0 0]) ∧ Aside0 (Rows [3, 79, 88, 96, 100, 103] wx [fun w_ => Kd.string.R 9 w_ w.heap.size (fun _ => True) (.slice Asv sv.names.length csv) sv.names, fun w_ => Kd.string.R 9 w_ w.heap.size (fun _ => True) (.slice Acl cl.names.length ccl) cl.names]) ∧ Aside0 (Box wx gk 88 #[.int .i32 kt, .slice none 0 0]))
  case first =>
    rcases HV34.out with rfl | rfl
    · have hb : (((3 : Nat) : Int) == 3) = true := rfl
      go_wp2_with fail
      with_reducible refine (readInt16_any gb gp ge q6 l _ HL.out A13.out.src A13.out.pos (r16_le Hka.out).1).mono ?_
      intro e x1 h1
      rcases h1.cases with ⟨hr, ⟨dt, dx⟩, hg⟩ | ⟨kb, pb, v, hr, rfl, rfl, hg, hp1⟩
      · exact ⟨rfl, Ret.dies (by simp [rCred, Hcl.out, Hsv.out, rType, Hka.out, hr]) ⟨_, _⟩ (A13.out.grown.trans hg)⟩
      have HR := Aside0.mk hr
      obtain ⟨kb0, kb1⟩ := r16_range hr
      have At1 := Aside0.mk (A13.out.call hg hp1)
      have Ct1 := Aside0.mk (C13.out.call A13.out.pos (by decide) hg)
      have Bt1 := Aside0.mk (B13.out.call A13.out.pos (by decide) hg)
      have Rt1 := Aside0.mk (R13.out.kp (Kp.call A13.out.pos (by decide) hg))
      have Kt1 := Aside0.mk (K13.out.call A13.out.pos (by decide) hg)
      have k0 := Kt1.out.cell 0 (.int .i32 ka) rfl
      have f0 := Kt1.out.free 0
      clear h1 hr hg hp1
      go_wp2_with fail
      go_meet
      exact ⟨kb, pb, ⟨by simp [rType, Hka.out, HR.out]⟩, ⟨At1.out.set Kt1.out (by decide) HGK.out 0 (.int .i32 kb)⟩, ⟨Ct1.out.far (Ct1.out.ne Kt1.out (by decide)) 0 (.int .i32 kb)⟩, ⟨Bt1.out.far (Bt1.out.ne Kt1.out (by decide)) 0 (.int .i32 kb)⟩, ⟨Rt1.out.kp (Kp.set Kt1.out (by decide) 0 (.int .i32 kb))⟩, ⟨Kt1.out.puts (cs' := #[.int .i32 kb, .slice none 0 0]) 0 (.int .i32 kb) rfl⟩⟩
    · have hb : (((4 : Nat) : Int) == 3) = false := rfl
      go_wp2_with fail
      go_meet
      exact ⟨ka, _, ⟨by simp [rType, Hka.out]⟩, A13, C13, B13, R13, K13⟩
  clear A13 C13 B13 R13 K13
  obtain ⟨kt, pk, Hkt, A13, C13, B13, R13, K13⟩ := hcut
  clear Hka
  generalize wc = w8 at *
  go_wp2_with fail
  with_reducible refine (readData_any gb gp ge pk l _ HL.out A13.out.src A13.out.pos (rType_le Hkt.out).1).mono ?_
  intro e w9 h1
  rcases h1.cases with ⟨hr, ⟨dt, dx⟩, hg⟩ | ⟨key, q9, v, hr, rfl, hv, hg, hp1⟩
  · exact ⟨rfl, Ret.dies (by simp [rCred, Hcl.out, Hsv.out, Hkt.out, hr]) ⟨_, _⟩ (A13.out.grown.trans hg)⟩
  obtain ⟨Akey, ckey, ev⟩ := Kd.R_slice hv
  subst ev
  have Vkey := Aside0.mk (Kd.R_lower hv A13.out.size)
  clear hv
  have Hkey := Aside0.mk hr
  have A14 := Aside0.mk (A13.out.call hg hp1)
  have C14 := Aside0.mk (C13.out.call A13.out.pos (by decide) hg)
  have B14 := Aside0.mk (B13.out.call A13.out.pos (by decide) hg)
  have R14 := Aside0.mk (R13.out.kp (Kp.call A13.out.pos (by decide) hg))
  have K14 := Aside0.mk (K13.out.call A13.out.pos (by decide) hg)
  clear A13 C13 B13 R13 K13
  clear h1 hr hg hp1
  have R15 := Aside0.mk (R14.out.add (Stable.row _ (Kd.int .u8) 5 w.heap.size (.slice Akey key.length ckey) key (by decide)) (Vkey.out))
  clear R14
  have A15 := A14
  clear A14
  have C15 := C14
  clear C14
  have B15 := B14
  clear B14
  have K15 := K14
  clear K14
  clear Vkey
  have k0 := K15.out.cell 0 (.int .i32 kt) rfl
  have k1 := K15.out.cell 1 (.slice none 0 0) rfl
  have f1 := K15.out.free 1
  have c6 := B15.out.cell 6 (.int .i32 0) rfl
  have f6 := B15.out.free 6
  have c7 := B15.out.cell 7 (.slice none 0 0) rfl
  have f7 := B15.out.free 7
  have hne1 : w.heap.size ≠ gk := B15.out.ne K15.out (by decide)
  have hne2 : gk ≠ w.heap.size := Ne.symm hne1
  go_wp2_with fail
  clear hne1 hne2 k0 k1 f1 c6 f6 c7 f7
  have A16 := Aside0.mk (A15.out.set K15.out (by decide) HGK.out 1 (.slice Akey key.length ckey))
  have C16 := Aside0.mk (C15.out.far (C15.out.ne K15.out (by decide)) 1 (.slice Akey key.length ckey))
  have B16 := Aside0.mk (B15.out.far (B15.out.ne K15.out (by decide)) 1 (.slice Akey key.length ckey))
  have R16 := Aside0.mk (R15.out.kp (Kp.set K15.out (by decide) 1 (.slice Akey key.length ckey)))
  have K16 := Aside0.mk (K15.out.puts (cs' := #[.int .i32 kt, .slice Akey key.length ckey]) 1 (.slice Akey key.length ckey) rfl)
  clear A15 C15 B15 R15 K15
  generalize w9.setCell ⟨gk, 1, none⟩ (.slice Akey key.length ckey) = w10 at *
  clear K16 HGK
  have A17 := Aside0.mk (A16.out.set B16.out (by decide) (Nat.le_refl _) 6 (.int .i32 kt))
  have C17 := Aside0.mk (C16.out.far (g' := w.heap.size) (by omega) 6 (.int .i32 kt))
  have B17 := Aside0.mk (B16.out.puts (cs' := #[.string cl.realm, .int .i32 cl.kind, .slice Acl cl.names.length ccl, .string sv.realm, .int .i32 sv.kind, .slice Asv sv.names.length csv, .int .i32 kt, .slice none 0 0, .int .i64 0, .bool false, .int .i64 0, .bool false, .int .i64 0, .bool false, .int .i64 0, .bool false, .bool false, .slice none 0 0, .int .i64 0, .slice none 0 0, .slice none 0 0, .slice none 0 0, .slice none 0 0]) 6 (.int .i32 kt) rfl)
  have R17 := Aside0.mk (R16.out.kp (Kp.set B16.out (by decide) 6 (.int .i32 kt)))
  clear A16 C16 B16 R16
  have A18 := Aside0.mk (A17.out.set B17.out (by decide) (Nat.le_refl _) 7 (.slice Akey key.length ckey))
  have C18 := Aside0.mk (C17.out.far (g' := w.heap.size) (by omega) 7 (.slice Akey key.length ckey))
  have B18 := Aside0.mk (B17.out.puts (cs' := #[.string cl.realm, .int .i32 cl.kind, .slice Acl cl.names.length ccl, .string sv.realm, .int .i32 sv.kind, .slice Asv sv.names.length csv, .int .i32 kt, .slice Akey key.length ckey, .int .i64 0, .bool false, .int .i64 0, .bool false, .int .i64 0, .bool false, .int .i64 0, .bool false, .bool false, .slice none 0 0, .int .i64 0, .slice none 0 0, .slice none 0 0, .slice none 0 0, .slice none 0 0]) 7 (.slice Akey key.length ckey) rfl)
  have R18 := Aside0.mk (R17.out.kp (Kp.set B17.out (by decide) 7 (.slice Akey key.length ckey)))
  clear A17 C17 B17 R17
  generalize ((w10.setCell ⟨w.heap.size, 6, none⟩ (.int .i32 kt)).setCell ⟨w.heap.size, 7, none⟩ (.slice Akey key.length ckey)) = w11 at *
  with_reducible refine (readTimestamp_any gb gp ge q9 l _ HL.out A18.out.src A18.out.pos (rData_le Hkey.out).1).mono ?_
  intro e w12 h1
  rcases h1.cases with ⟨hr, ⟨dt, dx⟩, hg⟩ | ⟨t1, q12, v, hr, rfl, hv, hg, hp1⟩
  · exact ⟨rfl, Ret.dies (by simp [rCred, Hcl.out, Hsv.out, Hkt.out, Hkey.out, hr]) ⟨_, _⟩ (A18.out.grown.trans hg)⟩
  subst hv
  have Ht1 := Aside0.mk hr
  have A19 := Aside0.mk (A18.out.call hg hp1)
  have C19 := Aside0.mk (C18.out.call A18.out.pos (by decide) hg)
  have B19 := Aside0.mk (B18.out.call A18.out.pos (by decide) hg)
  have R19 := Aside0.mk (R18.out.kp (Kp.call A18.out.pos (by decide) hg))
  clear A18 C18 B18 R18
  clear h1 hr hg hp1
  have c8 := B19.out.cell 8 (.int .i64 0) rfl
  have f8 := B19.out.free 8
  have c9 := B19.out.cell 9 (.bool false) rfl
  have f9 := B19.out.free 9
  go_wp2_with fail
  have A20 := Aside0.mk (A19.out.set B19.out (by decide) (Nat.le_refl _) 8 (.int .i64 t1))
  have C20 := Aside0.mk (C19.out.far (g' := w.heap.size) (by omega) 8 (.int .i64 t1))
  have B20 := Aside0.mk (B19.out.puts (cs' := #[.string cl.realm, .int .i32 cl.kind, .slice Acl cl.names.length ccl, .string sv.realm, .int .i32 sv.kind, .slice Asv sv.names.length csv, .int .i32 kt, .slice Akey key.length ckey, .int .i64 t1, .bool false, .int .i64 0, .bool false, .int .i64 0, .bool false, .int .i64 0, .bool false, .bool false, .slice none 0 0, .int .i64 0, .slice none 0 0, .slice none 0 0, .slice none 0 0, .slice none 0 0]) 8 (.int .i64 t1) rfl)
  have R20 := Aside0.mk (R19.out.kp (Kp.set B19.out (by decide) 8 (.int .i64 t1)))
  clear A19 C19 B19 R19
  have A21 := Aside0.mk (A20.out.set B20.out (by decide) (Nat.le_refl _) 9 (.bool true))
  have C21 := Aside0.mk (C20.out.far (g' := w.heap.size) (by omega) 9 (.bool true))
  have B21 := Aside0.mk (B20.out.puts (cs' := #[.string cl.realm, .int .i32 cl.kind, .slice Acl cl.names.length ccl, .string sv.realm, .int .i32 sv.kind, .slice Asv sv.names.length csv, .int .i32 kt, .slice Akey key.length ckey, .int .i64 t1, .bool true, .int .i64 0, .bool false, .int .i64 0, .bool false, .int .i64 0, .bool false, .bool false, .slice none 0 0, .int .i64 0, .slice none 0 0, .slice none 0 0, .slice none 0 0, .slice none 0 0]) 9 (.bool true) rfl)
  have R21 := Aside0.mk (R20.out.kp (Kp.set B20.out (by decide) 9 (.bool true)))
  clear A20 C20 B20 R20
  clear c8 f8 c9 f9
  generalize ((w12.setCell ⟨w.heap.size, 8, none⟩ (.int .i64 t1)).setCell ⟨w.heap.size, 9, none⟩ (.bool true)) = w13 at *
  with_reducible refine (readTimestamp_any gb gp ge q12 l _ HL.out A21.out.src A21.out.pos (r32_le Ht1.out).1).mono ?_
  intro e w14 h1
  rcases h1.cases with ⟨hr, ⟨dt, dx⟩, hg⟩ | ⟨t2, q14, v, hr, rfl, hv, hg, hp1⟩
  · exact ⟨rfl, Ret.dies (by simp [rCred, Hcl.out, Hsv.out, Hkt.out, Hkey.out, Ht1.out, hr]) ⟨_, _⟩ (A21.out.grown.trans hg)⟩
  subst hv
  have Ht2 := Aside0.mk hr
  have A22 := Aside0.mk (A21.out.call hg hp1)
  have C22 := Aside0.mk (C21.out.call A21.out.pos (by decide) hg)
  have B22 := Aside0.mk (B21.out.call A21.out.pos (by decide) hg)
  have R22 := Aside0.mk (R21.out.kp (Kp.call A21.out.pos (by decide) hg))
  clear A21 C21 B21 R21
  clear h1 hr hg hp1
  have c10 := B22.out.cell 10 (.int .i64 0) rfl
  have f10 := B22.out.free 10
  have c11 := B22.out.cell 11 (.bool false) rfl
  have f11 := B22.out.free 11
  go_wp2_with fail
  have A23 := Aside0.mk (A22.out.set B22.out (by decide) (Nat.le_refl _) 10 (.int .i64 t2))
  have C23 := Aside0.mk (C22.out.far (g' := w.heap.size) (by omega) 10 (.int .i64 t2))
  have B23 := Aside0.mk (B22.out.puts (cs' := #[.string cl.realm, .int .i32 cl.kind, .slice Acl cl.names.length ccl, .string sv.realm, .int .i32 sv.kind, .slice Asv sv.names.length csv, .int .i32 kt, .slice Akey key.length ckey, .int .i64 t1, .bool true, .int .i64 t2, .bool false, .int .i64 0, .bool false, .int .i64 0, .bool false, .bool false, .slice none 0 0, .int .i64 0, .slice none 0 0, .slice none 0 0, .slice none 0 0, .slice none 0 0]) 10 (.int .i64 t2) rfl)
  have R23 := Aside0.mk (R22.out.kp (Kp.set B22.out (by decide) 10 (.int .i64 t2)))
  clear A22 C22 B22 R22
  have A24 := Aside0.mk (A23.out.set B23.out (by decide) (Nat.le_refl _) 11 (.bool true))
  have C24 := Aside0.mk (C23.out.far (g' := w.heap.size) (by omega) 11 (.bool true))
  have B24 := Aside0.mk (B23.out.puts (cs' := #[.string cl.realm, .int .i32 cl.kind, .slice Acl cl.names.length ccl, .string sv.realm, .int .i32 sv.kind, .slice Asv sv.names.length csv, .int .i32 kt, .slice Akey key.length ckey, .int .i64 t1, .bool true, .int .i64 t2, .bool true, .int .i64 0, .bool false, .int .i64 0, .bool false, .bool false, .slice none 0 0, .int .i64 0, .slice none 0 0, .slice none 0 0, .slice none 0 0, .slice none 0 0]) 11 (.bool true) rfl)
  have R24 := Aside0.mk (R23.out.kp (Kp.set B23.out (by decide) 11 (.bool true)))
  clear A23 C23 B23 R23
  clear c10 f10 c11 f11
  generalize ((w14.setCell ⟨w.heap.size, 10, none⟩ (.int .i64 t2)).setCell ⟨w.heap.size, 11, none⟩ (.bool true)) = w15 at *
  with_reducible refine (readTimestamp_any gb gp ge q14 l _ HL.out A24.out.src A24.out.pos (r32_le Ht2.out).1).mono ?_
  intro e w16 h1
  rcases h1.cases with ⟨hr, ⟨dt, dx⟩, hg⟩ | ⟨t3, q16, v, hr, rfl, hv, hg, hp1⟩
  · exact ⟨rfl, Ret.dies (by simp [rCred, Hcl.out, Hsv.out, Hkt.out, Hkey.out, Ht1.out, Ht2.out, hr]) ⟨_, _⟩ (A24.out.grown.trans hg)⟩
  subst hv
  have Ht3 := Aside0.mk hr
  have A25 := Aside0.mk (A24.out.call hg hp1)
  have C25 := Aside0.mk (C24.out.call A24.out.pos (by decide) hg)
  have B25 := Aside0.mk (B24.out.call A24.out.pos (by decide) hg)
  have R25 := Aside0.mk (R24.out.kp (Kp.call A24.out.pos (by decide) hg))
  clear A24 C24 B24 R24
  clear h1 hr hg hp1
  have c12 := B25.out.cell 12 (.int .i64 0) rfl
  have f12 := B25.out.free 12
  have c13 := B25.out.cell 13 (.bool false) rfl
  have f13 := B25.out.free 13
  go_wp2_with fail
  have A26 := Aside0.mk (A25.out.set B25.out (by decide) (Nat.le_refl _) 12 (.int .i64 t3))
  have C26 := Aside0.mk (C25.out.far (g' := w.heap.size) (by omega) 12 (.int .i64 t3))
  have B26 := Aside0.mk (B25.out.puts (cs' := #[.string cl.realm, .int .i32 cl.kind, .slice Acl cl.names.length ccl, .string sv.realm, .int .i32 sv.kind, .slice Asv sv.names.length csv, .int .i32 kt, .slice Akey key.length ckey, .int .i64 t1, .bool true, .int .i64 t2, .bool true, .int .i64 t3, .bool false, .int .i64 0, .bool false, .bool false, .slice none 0 0, .int .i64 0, .slice none 0 0, .slice none 0 0, .slice none 0 0, .slice none 0 0]) 12 (.int .i64 t3) rfl)
  have R26 := Aside0.mk (R25.out.kp (Kp.set B25.out (by decide) 12 (.int .i64 t3)))
  clear A25 C25 B25 R25
  have A27 := Aside0.mk (A26.out.set B26.out (by decide) (Nat.le_refl _) 13 (.bool true))
  have C27 := Aside0.mk (C26.out.far (g' := w.heap.size) (by omega) 13 (.bool true))
  have B27 := Aside0.mk (B26.out.puts (cs' := #[.string cl.realm, .int .i32 cl.kind, .slice Acl cl.names.length ccl, .string sv.realm, .int .i32 sv.kind, .slice Asv sv.names.length csv, .int .i32 kt, .slice Akey key.length ckey, .int .i64 t1, .bool true, .int .i64 t2, .bool true, .int .i64 t3, .bool true, .int .i64 0, .bool false, .bool false, .slice none 0 0, .int .i64 0, .slice none 0 0, .slice none 0 0, .slice none 0 0, .slice none 0 0]) 13 (.bool true) rfl)
  have R27 := Aside0.mk (R26.out.kp (Kp.set B26.out (by decide) 13 (.bool true)))
  clear A26 C26 B26 R26
  clear c12 f12 c13 f13
  generalize ((w16.setCell ⟨w.heap.size, 12, none⟩ (.int .i64 t3)).setCell ⟨w.heap.size, 13, none⟩ (.bool true)) = w17 at *
  with_reducible refine (readTimestamp_any gb gp ge q16 l _ HL.out A27.out.src A27.out.pos (r32_le Ht3.out).1).mono ?_
  intro e w18 h1
  rcases h1.cases with ⟨hr, ⟨dt, dx⟩, hg⟩ | ⟨t4, q18, v, hr, rfl, hv, hg, hp1⟩
  · exact ⟨rfl, Ret.dies (by simp [rCred, Hcl.out, Hsv.out, Hkt.out, Hkey.out, Ht1.out, Ht2.out, Ht3.out, hr]) ⟨_, _⟩ (A27.out.grown.trans hg)⟩
  subst hv
  have Ht4 := Aside0.mk hr
  have A28 := Aside0.mk (A27.out.call hg hp1)
  have C28 := Aside0.mk (C27.out.call A27.out.pos (by decide) hg)
  have B28 := Aside0.mk (B27.out.call A27.out.pos (by decide) hg)
  have R28 := Aside0.mk (R27.out.kp (Kp.call A27.out.pos (by decide) hg))
  clear A27 C27 B27 R27
  clear h1 hr hg hp1
  have c14 := B28.out.cell 14 (.int .i64 0) rfl
  have f14 := B28.out.free 14
  have c15 := B28.out.cell 15 (.bool false) rfl
  have f15 := B28.out.free 15
  go_wp2_with fail
  have A29 := Aside0.mk (A28.out.set B28.out (by decide) (Nat.le_refl _) 14 (.int .i64 t4))
  have C29 := Aside0.mk (C28.out.far (g' := w.heap.size) (by omega) 14 (.int .i64 t4))
  have B29 := Aside0.mk (B28.out.puts (cs' := #[.string cl.realm, .int .i32 cl.kind, .slice Acl cl.names.length ccl, .string sv.realm, .int .i32 sv.kind, .slice Asv sv.names.length csv, .int .i32 kt, .slice Akey key.length ckey, .int .i64 t1, .bool true, .int .i64 t2, .bool true, .int .i64 t3, .bool true, .int .i64 t4, .bool false, .bool false, .slice none 0 0, .int .i64 0, .slice none 0 0, .slice none 0 0, .slice none 0 0, .slice none 0 0]) 14 (.int .i64 t4) rfl)
  have R29 := Aside0.mk (R28.out.kp (Kp.set B28.out (by decide) 14 (.int .i64 t4)))
  clear A28 C28 B28 R28
  have A30 := Aside0.mk (A29.out.set B29.out (by decide) (Nat.le_refl _) 15 (.bool true))
  have C30 := Aside0.mk (C29.out.far (g' := w.heap.size) (by omega) 15 (.bool true))
  have B30 := Aside0.mk (B29.out.puts (cs' := #[.string cl.realm, .int .i32 cl.kind, .slice Acl cl.names.length ccl, .string sv.realm, .int .i32 sv.kind, .slice Asv sv.names.length csv, .int .i32 kt, .slice Akey key.length ckey, .int .i64 t1, .bool true, .int .i64 t2, .bool true, .int .i64 t3, .bool true, .int .i64 t4, .bool true, .bool false, .slice none 0 0, .int .i64 0, .slice none 0 0, .slice none 0 0, .slice none 0 0, .slice none 0 0]) 15 (.bool true) rfl)
  have R30 := Aside0.mk (R29.out.kp (Kp.set B29.out (by decide) 15 (.bool true)))
  clear A29 C29 B29 R29
  clear c14 f14 c15 f15
  generalize ((w18.setCell ⟨w.heap.size, 14, none⟩ (.int .i64 t4)).setCell ⟨w.heap.size, 15, none⟩ (.bool true)) = w19 at *
  with_reducible refine (readInt8_any gb gp ge q18 l _ HL.out A30.out.src A30.out.pos (r32_le Ht4.out).1).mono ?_
  intro e w20 h1
  rcases h1.cases with ⟨hr, ⟨dt, dx⟩, hg⟩ | ⟨ik, q20, v, hr, rfl, hv, hg, hp1⟩
  · exact ⟨rfl, Ret.dies (by simp [rCred, Hcl.out, Hsv.out, Hkt.out, Hkey.out, Ht1.out, Ht2.out, Ht3.out, Ht4.out, hr]) ⟨_, _⟩ (A30.out.grown.trans hg)⟩
  subst hv
  have Hik := Aside0.mk hr
  have A31 := Aside0.mk (A30.out.call hg hp1)
  have C31 := Aside0.mk (C30.out.call A30.out.pos (by decide) hg)
  have B31 := Aside0.mk (B30.out.call A30.out.pos (by decide) hg)
  have R31 := Aside0.mk (R30.out.kp (Kp.call A30.out.pos (by decide) hg))
  clear A30 C30 B30 R30
  clear h1 hr hg hp1
  go_upto_if 92 with fail
  go_cut [] (fun wx => Aside0 (At w wx gb gp ge l q20) ∧ Aside0 (Box wx gc 79 cs) ∧ Aside0 (Box wx w.heap.size 96 #[.string cl.realm, .int .i32 cl.kind, .slice Acl cl.names.length ccl, .string sv.realm, .int .i32 sv.kind, .slice Asv sv.names.length csv, .int .i32 kt, .slice Akey key.length ckey, .int .i64 t1, .bool true, .int .i64 t2, .bool true, .int .i64 t3, .bool true, .int .i64 t4, .bool true, .bool (decide (ik ≠ 0)), .slice none 0 0, .int .i64 0, .slice none 0 0, .slice none 0 0, .slice none 0 0, .slice none 0 0]) ∧ Aside0 (Rows [3, 79, 88, 96, 100, 103] wx [fun w_ => (Kd.int .u8).R 5 w_ w.heap.size (fun _ => True) (.slice Akey key.length ckey) key, fun w_ => Kd.string.R 9 w_ w.heap.size (fun _ => True) (.slice Asv sv.names.length csv) sv.names, fun w_ => Kd.string.R 9 w_ w.heap.size (fun _ => True) (.slice Acl cl.names.length ccl) cl.names]))
  case first =>
    have c16 := B31.out.cell 16 (.bool false) rfl
    have f16 := B31.out.free 16
    by_cases hik : ik = 0
    · have hb : (ik == 0) = true := by simp [hik]
      have HD := Aside0.mk (show decide (ik ≠ 0) = false from by simp [hik])
      clear hik
      go_wp2_with fail
      go_meet
      rw [HD.out]
      exact ⟨⟨A31.out.set B31.out (by decide) (Nat.le_refl _) 16 (.bool false)⟩, ⟨C31.out.far (g' := w.heap.size) (by omega) 16 (.bool false)⟩, ⟨B31.out.puts 16 (.bool false) rfl⟩, ⟨R31.out.kp (Kp.set B31.out (by decide) 16 (.bool false))⟩⟩
    · have hb : (ik == 0) = false := by simp [hik]
      have HD := Aside0.mk (show decide (ik ≠ 0) = true from by simp [hik])
      clear hik
      go_wp2_with fail
      go_meet
      rw [HD.out]
      exact ⟨⟨A31.out.set B31.out (by decide) (Nat.le_refl _) 16 (.bool true)⟩, ⟨C31.out.far (g' := w.heap.size) (by omega) 16 (.bool true)⟩, ⟨B31.out.puts 16 (.bool true) rfl⟩, ⟨R31.out.kp (Kp.set B31.out (by decide) 16 (.bool true))⟩⟩
  clear A31 C31 B31 R31
  obtain ⟨A31, C31, B31, R31⟩ := hcut
  generalize wc = w21 at *
  go_wp2_with fail
  with_reducible refine (flags_any _).mono ?_
  rintro e w22 ⟨Af, cf, rfl, hb⟩
  have A32 := Aside0.mk (A31.out.below hb)
  have C32 := Aside0.mk (C31.out.below hb)
  have B32 := Aside0.mk (B31.out.below hb)
  have R32 := Aside0.mk (R31.out.kp (Kp.below _ hb))
  clear A31 C31 B31 R31
  clear hb
  have c17 := B32.out.cell 17 (.slice none 0 0) rfl
  have f17 := B32.out.free 17
  have c18 := B32.out.cell 18 (.int .i64 0) rfl
  have f18 := B32.out.free 18
  go_wp2_with fail
  have A33 := Aside0.mk (A32.out.set B32.out (by decide) (Nat.le_refl _) 17 (.slice Af 4 cf))
  have C33 := Aside0.mk (C32.out.far (g' := w.heap.size) (by omega) 17 (.slice Af 4 cf))
  have B33 := Aside0.mk (B32.out.puts (cs' := #[.string cl.realm, .int .i32 cl.kind, .slice Acl cl.names.length ccl, .string sv.realm, .int .i32 sv.kind, .slice Asv sv.names.length csv, .int .i32 kt, .slice Akey key.length ckey, .int .i64 t1, .bool true, .int .i64 t2, .bool true, .int .i64 t3, .bool true, .int .i64 t4, .bool true, .bool (decide (ik ≠ 0)), .slice Af 4 cf, .int .i64 0, .slice none 0 0, .slice none 0 0, .slice none 0 0, .slice none 0 0]) 17 (.slice Af 4 cf) rfl)
  have R33 := Aside0.mk (R32.out.kp (Kp.set B32.out (by decide) 17 (.slice Af 4 cf)))
  clear A32 C32 B32 R32
  have A34 := Aside0.mk (A33.out.set B33.out (by decide) (Nat.le_refl _) 18 (.int .i64 32))
  have C34 := Aside0.mk (C33.out.far (g' := w.heap.size) (by omega) 18 (.int .i64 32))
  have B34 := Aside0.mk (B33.out.puts (cs' := #[.string cl.realm, .int .i32 cl.kind, .slice Acl cl.names.length ccl, .string sv.realm, .int .i32 sv.kind, .slice Asv sv.names.length csv, .int .i32 kt, .slice Akey key.length ckey, .int .i64 t1, .bool true, .int .i64 t2, .bool true, .int .i64 t3, .bool true, .int .i64 t4, .bool true, .bool (decide (ik ≠ 0)), .slice Af 4 cf, .int .i64 32, .slice none 0 0, .slice none 0 0, .slice none 0 0, .slice none 0 0]) 18 (.int .i64 32) rfl)
  have R34 := Aside0.mk (R33.out.kp (Kp.set B33.out (by decide) 18 (.int .i64 32)))
  clear A33 C33 B33 R33
  clear c17 f17 c18 f18
  generalize ((w22.setCell ⟨w.heap.size, 17, none⟩ (.slice Af 4 cf)).setCell ⟨w.heap.size, 18, none⟩ (.int .i64 32)) = w23 at *
  with_reducible refine (readBytes_any gb gp ge q20 4 l _ HL.out A34.out.src A34.out.pos (r8_le Hik.out).1 (by omega)).mono ?_
  intro e w24 h1
  rcases h1.cases with ⟨hr, ⟨dt, dx⟩, hg⟩ | ⟨fl, q24, v, hr, rfl, hv, hg, hp1⟩
  · exact ⟨rfl, Ret.dies (by simp [rCred, Hcl.out, Hsv.out, Hkt.out, Hkey.out, Ht1.out, Ht2.out, Ht3.out, Ht4.out, Hik.out, hr]) ⟨_, _⟩ (A34.out.grown.trans hg)⟩
  obtain ⟨Afl, cfl, ev⟩ := Kd.R_slice hv
  subst ev
  have Vfl := Aside0.mk (Kd.R_lower hv A34.out.size)
  clear hv
  have Hfl := Aside0.mk hr
  have A35 := Aside0.mk (A34.out.call hg hp1)
  have C35 := Aside0.mk (C34.out.call A34.out.pos (by decide) hg)
  have B35 := Aside0.mk (B34.out.call A34.out.pos (by decide) hg)
  have R35 := Aside0.mk (R34.out.kp (Kp.call A34.out.pos (by decide) hg))
  clear A34 C34 B34 R34
  clear h1 hr hg hp1
  have R36 := Aside0.mk (R35.out.add (Stable.row _ (Kd.int .u8) 5 w.heap.size (.slice Afl fl.length cfl) fl (by decide)) (Vfl.out))
  clear R35
  have A36 := A35
  clear A35
  have C36 := C35
  clear C35
  have B36 := B35
  clear B35
  clear Vfl
  have c17 := B36.out.cell 17 (.slice Af 4 cf) rfl
  have f17 := B36.out.free 17
  go_wp2_with fail
  have A37 := Aside0.mk (A36.out.set B36.out (by decide) (Nat.le_refl _) 17 (.slice Afl fl.length cfl))
  have C37 := Aside0.mk (C36.out.far (g' := w.heap.size) (by omega) 17 (.slice Afl fl.length cfl))
  have B37 := Aside0.mk (B36.out.puts (cs' := #[.string cl.realm, .int .i32 cl.kind, .slice Acl cl.names.length ccl, .string sv.realm, .int .i32 sv.kind, .slice Asv sv.names.length csv, .int .i32 kt, .slice Akey key.length ckey, .int .i64 t1, .bool true, .int .i64 t2, .bool true, .int .i64 t3, .bool true, .int .i64 t4, .bool true, .bool (decide (ik ≠ 0)), .slice Afl fl.length cfl, .int .i64 32, .slice none 0 0, .slice none 0 0, .slice none 0 0, .slice none 0 0]) 17 (.slice Afl fl.length cfl) rfl)
  have R37 := Aside0.mk (R36.out.kp (Kp.set B36.out (by decide) 17 (.slice Afl fl.length cfl)))
  clear A36 C36 B36 R36
  clear c17 f17
  generalize (w24.setCell ⟨w.heap.size, 17, none⟩ (.slice Afl fl.length cfl)) = w25 at *
  with_reducible refine (readInt32_any gb gp ge q24 l _ HL.out A37.out.src A37.out.pos (rBytes_le Hfl.out).1).mono ?_
  intro e w26 h1
  rcases h1.cases with ⟨hr, ⟨dt, dx⟩, hg⟩ | ⟨nad, q26, v, hr, rfl, hv, hg, hp1⟩
  · exact ⟨rfl, Ret.dies (by simp [rCred, Hcl.out, Hsv.out, Hkt.out, Hkey.out, Ht1.out, Ht2.out, Ht3.out, Ht4.out, Hik.out, Hfl.out, rParts_n hr]) ⟨_, _⟩ (A37.out.grown.trans hg)⟩
  subst hv
  have Hnad := Aside0.mk hr
  obtain ⟨_, _, n0ad, n1ad⟩ := r32_le hr
  have A38 := Aside0.mk (A37.out.call hg hp1)
  have C38 := Aside0.mk (C37.out.call A37.out.pos (by decide) hg)
  have B38 := Aside0.mk (B37.out.call A37.out.pos (by decide) hg)
  have R38 := Aside0.mk (R37.out.kp (Kp.call A37.out.pos (by decide) hg))
  clear A37 C37 B37 R37
  clear h1 hr hg hp1
  by_cases h0ad : 0 ≤ nad
  case neg =>
    obtain ⟨i0_, hi0_, _, _, hby_⟩ := info_parts info100z
    have hmk : ∀ W : World, (Instr.makeSlice 93 (.int .i64 nad) (.int .i64 nad)).run Try.prog W = .halt (.panic (lenPanic Try.prog)) W := fun W => run_make_len_refused W 93 100 i0_ Try.underlying93 hi0_ .i64 .i64 nad (by omega) (by omega) (.inl (by omega))
    have HN0 := Aside0.mk (show nad < 0 from by omega)
    clear h0ad hby_
    go_wp2_with fail
    exact ⟨rfl, Ret.dies (by simp [rCred, Hcl.out, Hsv.out, Hkt.out, Hkey.out, Ht1.out, Ht2.out, Ht3.out, Ht4.out, Hik.out, Hfl.out, rParts_neg Hnad.out (by have := HN0.out; omega)]) ⟨_, _⟩ A38.out.grown⟩
  have HNad := Aside0.mk h0ad
  have c19 := B38.out.cell 19 (.slice none 0 0) rfl
  have f19 := B38.out.free 19
  have HSZ := Aside0.mk A38.out.size
  go_wp2_with ((with_reducible refine gate_dst (N := 119) rfl ?_); refine Kd.R_make kPart (w0 := w26) w.heap.size 100 rfl (N := 119) rfl 93 _ _ rfl nad rfl rfl Try.underlying93 (.agg #[.int .i32 0, .slice none 0 0]) 32 info100z rfl (by decide) (by decide) ((0, []) : Int × List Int) (ok := fun _ => True) (okp := fun _ => True) ⟨[_], [_], rfl, rfl, _, rfl, Kd.R_nil _ _ _ _ _⟩ (fun _ hk => hk) trivial (by omega) (by omega) (Below.refl _ _) HSZ.out ?_; intro vad w27 ho hb_ hg_ hnew_; have hb := below_of_grown hg_; clear hb_ hg_ hnew_; obtain ⟨xsad, hxs⟩ : ∃ xs_, xs_ = List.replicate nad.toNat ((0, []) : Int × List Int) := ⟨_, rfl⟩; rw [← hxs] at ho; have HXS := Aside0.mk hxs; clear hxs; obtain ⟨Aad, cad, ev⟩ := Kd.R_slice ho; subst ev; have HO := Aside0.mk ho; have HBB := Aside0.mk hb; have c19 := (B38.out.below hb).cell 19 (.slice none 0 0) rfl; have f19 := (B38.out.below hb).free 19; clear ho hb)
  have hb := HBB.out
  have A39 := Aside0.mk (A38.out.below hb)
  have C39 := Aside0.mk (C38.out.below hb)
  have B39 := Aside0.mk (B38.out.below hb)
  have R39 := Aside0.mk (R38.out.kp (Kp.below _ hb))
  clear A38 C38 B38 R38
  clear hb HBB HSZ
  have VQ := Aside0.mk (Kd.Q_of_R (row_set HO.out B39.out (by decide) 19 (.slice Aad xsad.length cad)))
  clear HO
  have A40 := Aside0.mk (A39.out.set B39.out (by decide) (Nat.le_refl _) 19 (.slice Aad xsad.length cad))
  have C40 := Aside0.mk (C39.out.far (g' := w.heap.size) (by omega) 19 (.slice Aad xsad.length cad))
  have B40 := Aside0.mk (B39.out.puts (cs' := #[.string cl.realm, .int .i32 cl.kind, .slice Acl cl.names.length ccl, .string sv.realm, .int .i32 sv.kind, .slice Asv sv.names.length csv, .int .i32 kt, .slice Akey key.length ckey, .int .i64 t1, .bool true, .int .i64 t2, .bool true, .int .i64 t3, .bool true, .int .i64 t4, .bool true, .bool (decide (ik ≠ 0)), .slice Afl fl.length cfl, .int .i64 32, .slice Aad xsad.length cad, .slice none 0 0, .slice none 0 0, .slice none 0 0]) 19 (.slice Aad xsad.length cad) rfl)
  have R40 := Aside0.mk (R39.out.kp (Kp.set B39.out (by decide) 19 (.slice Aad xsad.length cad)))
  clear A39 C39 B39 R39
  clear c19 f19
  generalize (w27.setCell ⟨w.heap.size, 19, none⟩ (.slice Aad xsad.length cad)) = w28 at *
  have HNN := Aside0.mk (show xsad.length = nad.toNat from by rw [HXS.out]; simp)
  have hnn : xsad.length ≤ 2147483648 := by have := HNN.out; omega
  have HQN := Aside0.mk (show q26 ≤ l.length from (r32_le Hnad.out).1)
  go_loopw [127] (fun i wr => ∃ (k pkad : Nat) (ad : List (Int × List Int)), k ≤ xsad.length ∧ i = .int .i64 k ∧ Aside0 (ad.length = k) ∧ Aside0 (rPartList l xsad.length q26 = (rPartList l (xsad.length - k) pkad).bind fun y => some (ad ++ y.1, y.2)) ∧ Aside0 (pkad ≤ l.length) ∧ Aside0 (At w wr gb gp ge l pkad) ∧ Aside0 (Box wr gc 79 cs) ∧ Aside0 (Box wr w.heap.size 96 #[.string cl.realm, .int .i32 cl.kind, .slice Acl cl.names.length ccl, .string sv.realm, .int .i32 sv.kind, .slice Asv sv.names.length csv, .int .i32 kt, .slice Akey key.length ckey, .int .i64 t1, .bool true, .int .i64 t2, .bool true, .int .i64 t3, .bool true, .int .i64 t4, .bool true, .bool (decide (ik ≠ 0)), .slice Afl fl.length cfl, .int .i64 32, .slice Aad xsad.length cad, .slice none 0 0, .slice none 0 0, .slice none 0 0]) ∧ Aside0 (Rows [3, 79, 88, 96, 100, 103] wr [fun w_ => (Kd.int .u8).R 5 w_ w.heap.size (fun _ => True) (.slice Afl fl.length cfl) fl, fun w_ => (Kd.int .u8).R 5 w_ w.heap.size (fun _ => True) (.slice Akey key.length ckey) key, fun w_ => Kd.string.R 9 w_ w.heap.size (fun _ => True) (.slice Asv sv.names.length csv) sv.names, fun w_ => Kd.string.R 9 w_ w.heap.size (fun _ => True) (.slice Acl cl.names.length ccl) cl.names]) ∧ Aside0 (kPart.Q 100 wr w.heap.size (fun _ => True) (.slice Aad xsad.length cad) (ad ++ List.replicate (xsad.length - k) ((0, []) : Int × List Int)))) (fun i _ => xsad.length - (intOf i).toNat)
  case atStart =>
    have HXX : ([] : List (Int × List Int)) ++ List.replicate (xsad.length - 0) ((0, []) : Int × List Int) = xsad := by rw [Nat.sub_zero, HNN.out, List.nil_append]; exact HXS.out.symm
    exact ⟨0, q26, [], Nat.zero_le _, rfl, ⟨rfl⟩, ⟨by rw [Nat.sub_zero]; cases rPartList l xsad.length q26 <;> rfl⟩, HQN, A40, C40, B40, R40, ⟨by rw [HXX]; exact VQ.out⟩⟩
  clear A40 C40 B40 R40 VQ
  obtain ⟨k, pkad, ad, hk, rfl, HD, HRec, HPK, A40, C40, B40, R40, V40⟩ := hrel
  by_cases hlt : k < xsad.length
  case pos =>
    have hlt' : (k : Int) < (xsad.length : Int) := by omega
    have hk0 : (0 : Int) ≤ (k : Int) := by omega
    obtain ⟨m1, hm1⟩ : ∃ m1, xsad.length - k = m1 + 1 := ⟨xsad.length - k - 1, by omega⟩
    have hrec := HRec.out
    have hv0 := V40.out
    rw [hm1] at hrec hv0
    have HM1 := Aside0.mk hm1
    have HLT := Aside0.mk hlt
    have HRc := Aside0.mk hrec
    have hrp : rParts l q24 = (rPartList l (m1 + 1) pkad).bind fun y => some (ad ++ y.1, y.2) := by rw [rParts_of Hnad.out HNad.out, ← HNN.out]; exact hrec
    have HNO : Aside0 (rPart l pkad = none → rCred ver l p = none) := ⟨fun h => by simp [rCred, Hcl.out, Hsv.out, Hkt.out, Hkey.out, Ht1.out, Ht2.out, Ht3.out, Ht4.out, Hik.out, Hfl.out, hrp, rPartList, h]⟩
    obtain ⟨ga, o_, cap_, ev, hge, lt_, cells0_, box_⟩ := Kd.Q_form hv0 (by simp; omega)
    have ev1 : Aad = some ⟨ga, o_, none⟩ := by injection ev with e_ _ _
    clear ev box_ lt_ cells0_
    subst ev1
    have HGE := Aside0.mk hge
    have A41 := Aside0.mk A40.out.drew
    have C41 := Aside0.mk C40.out.drew
    have B41 := Aside0.mk B40.out.drew
    have R41 := Aside0.mk (R40.out.kp (Kp.below _ (below_drew (Below.refl _ _))))
    have V41 := Aside0.mk (Kd.Q_drew hv0)
    clear hrec hv0 hm1 hlt hrp hge HRec hk V40 A40 C40 B40 R40
    go_wp2_with fail
    refine start_ (n := 11) (S := fun w' => w'.cell? ⟨w.heap.size, 19, none⟩ = some (.slice (some ⟨ga, o_, none⟩) xsad.length cad)) (ds := [10]) #[false, false, false, false, false, false, false, false, false, false, false] (by kernel_rfl) rfl rfl ((B41.out.cell 19 _ rfl)) (fun hHeld => ?_)
    generalize wr.drew = wx at A41 C41 B41 R41 V41 hHeld ⊢
    refine pure_ (i := 0) (N := some 130) (v := ?_) (a' := ?_) #[true, false, false, false, false, false, false, false, false, false, false] rfl rfl (by kernel_rfl) (fun _ _ _ h => h) (Or.inl ⟨by rfl, ?_⟩) ?_ ?_
    rotate_left
    · intro w'
      go_simp
      with_reducible rfl
    rotate_left
    · simp only [Act.put, List.setIfInBounds_toArray, List.set_cons_zero, List.set_cons_succ, i64_w, i32_w]
      rfl
    refine pure_ (i := 1) (N := some 131) (v := ?_) (a' := ?_) #[true, true, false, false, false, false, false, false, false, false, false] rfl rfl (by kernel_rfl) (fun _ _ _ h => h) (Or.inl ⟨by rfl, ?_⟩) ?_ ?_
    rotate_left
    · intro w'
      go_simp
      with_reducible rfl
    rotate_left
    · simp only [Act.put, List.setIfInBounds_toArray, List.set_cons_zero, List.set_cons_succ, i64_w, i32_w]
      rfl
    refine pure_ (i := 2) (N := some 132) (v := ?_) (a' := ?_) #[true, true, true, false, false, false, false, false, false, false, false] rfl rfl (by kernel_rfl) (fun _ _ _ h => h) (Or.inl ⟨by rfl, ?_⟩) ?_ ?_
    rotate_left
    · intro w'
      go_simp
      with_reducible rfl
    rotate_left
    · simp only [Act.put, List.setIfInBounds_toArray, List.set_cons_zero, List.set_cons_succ, i64_w, i32_w]
      rfl
    refine pure_ (i := 4) (N := some 134) (v := ?_) (a' := ?_) #[true, true, true, false, true, false, false, false, false, false, false] rfl rfl (by kernel_rfl) (fun _ _ _ h => h) (Or.inl ⟨by rfl, ?_⟩) ?_ ?_
    rotate_left
    · intro w'
      go_simp
      with_reducible rfl
    rotate_left
    · simp only [Act.put, List.setIfInBounds_toArray, List.set_cons_zero, List.set_cons_succ, i64_w, i32_w]
      rfl
    refine pure_ (i := 5) (N := some 135) (v := ?_) (a' := ?_) #[true, true, true, false, true, true, false, false, false, false, false] rfl rfl (by kernel_rfl) (fun _ _ _ h => h) (Or.inl ⟨by rfl, ?_⟩) ?_ ?_
    rotate_left
    · intro w'
      go_simp
      with_reducible rfl
    rotate_left
    · simp only [Act.put, List.setIfInBounds_toArray, List.set_cons_zero, List.set_cons_succ, i64_w, i32_w]
      rfl
    refine pure_ (i := 6) (N := some 136) (v := ?_) (a' := ?_) #[true, true, true, false, true, true, true, false, false, false, false] rfl rfl (by kernel_rfl) (fun _ _ _ h => h) (Or.inl ⟨by rfl, ?_⟩) ?_ ?_
    rotate_left
    · intro w'
      go_simp
      with_reducible rfl
    rotate_left
    · simp only [Act.put, List.setIfInBounds_toArray, List.set_cons_zero, List.set_cons_succ, i64_w, i32_w]
      rfl
    refine pure_ (i := 7) (N := some 137) (v := ?_) (a' := ?_) #[true, true, true, false, true, true, true, true, false, false, false] rfl rfl (by kernel_rfl) (fun _ _ _ h => h) (Or.inl ⟨by rfl, ?_⟩) ?_ ?_
    rotate_left
    · intro w'
      go_simp
      with_reducible rfl
    rotate_left
    · simp only [Act.put, List.setIfInBounds_toArray, List.set_cons_zero, List.set_cons_succ, i64_w, i32_w]
      rfl
    refine take_ (i := 3) (N := some 133) (v := ?_) (a' := ?_) #[true, true, true, true, true, true, true, true, false, false, false] rfl rfl (by kernel_rfl) (fun _ _ _ h => h) (Or.inl ⟨by rfl, ?_⟩) hHeld ?_ ?_
    rotate_left
    · intro w' s0
      go_simp
      with_reducible rfl
    rotate_left
    · simp only [Act.put, List.setIfInBounds_toArray, List.set_cons_zero, List.set_cons_succ, i64_w, i32_w]
      rfl
    refine one_ (i := 8) (N := some 138) #[true, true, true, true, true, true, true, true, true, false, false] rfl rfl (by kernel_rfl) (by decide) (fun K hK => ?_)
    refine goesP_ Try.func62 (by kernel_rfl) rfl #[.slice (some ⟨gb, 0, none⟩) l.length l.length, .pointer (some ⟨gp, 0, none⟩), .pointer (some ⟨ge, 0, none⟩)] (by rfl) rfl rfl (by simp only [List.map_toArray, List.map_cons, List.map_nil]; rfl) ?_
    with_reducible refine (readAddress_any gb gp ge pkad l _ HL.out A41.out.src A41.out.pos HPK.out).mono ?_
    intro e wy h7
    rcases h7.cases with ⟨hr, ⟨dt, dx⟩, hg⟩ | ⟨part, pq, v, hr, rfl, hv, hg, hp6⟩
    · exact .inr ⟨_, rfl, rfl, Ret.dies (HNO.out hr) ⟨_, _⟩ (A41.out.grown.trans hg)⟩
    obtain ⟨u_, rfl, hu⟩ := hv
    obtain ⟨Au_, cu_, eu⟩ := Kd.R_slice hu
    subst eu
    have HR6 := Aside0.mk hr
    have U42 := Aside0.mk (Kd.R_lower hu A41.out.size)
    have V42 := Aside0.mk ((Stable.rowQ [3] kPart 100 w.heap.size (.slice (some ⟨ga, o_, none⟩) xsad.length cad) _ (by decide)) _ _ V41.out (Kp.call A41.out.pos (by decide) hg))
    have C42 := Aside0.mk (C41.out.call A41.out.pos (by decide) hg)
    have B42 := Aside0.mk (B41.out.call A41.out.pos (by decide) hg)
    have R42 := Aside0.mk (R41.out.kp (Kp.call A41.out.pos (by decide) hg))
    have A42 := Aside0.mk (A41.out.call hg hp6)
    clear h7 hr hg hp6 hu HNO
    refine .inl ⟨_, rfl, ?_⟩
    refine hK.out _ _ ((B42.out.cell 19 _ rfl)) (fun hHeld => ?_)
    clear hK K
    refine norm_ (a' := ?_) ?_ ?_
    rotate_left
    · show Act.put _ (some 138) _ = _
      simp only [Act.put, List.setIfInBounds_toArray, List.set_cons_zero, List.set_cons_succ, i64_w, i32_w]
      rfl
    refine pure_ (i := 9) (N := some 139) (v := ?_) (a' := ?_) #[true, true, true, true, true, true, true, true, true, true, false] rfl rfl (by kernel_rfl) (fun _ _ _ h => h) (Or.inl ⟨by rfl, ?_⟩) ?_ ?_
    rotate_left
    · intro w'
      go_simp
      with_reducible rfl
    rotate_left
    · simp only [Act.put, List.setIfInBounds_toArray, List.set_cons_zero, List.set_cons_succ, i64_w, i32_w]
      rfl
    refine last_ (i := 10) (N := none) #[true, true, true, true, true, true, true, true, true, true, true] rfl rfl (by kernel_rfl) (by decide) (fun K hK => ?_)
    obtain ⟨c_, hcl_, _, hcc_, hfz_⟩ := Kd.Q_elem V42.out ((0, []) : Int × List Int) (k : Int) (by omega) (by omega)
    obtain ⟨x0_, x1_, rfl⟩ : ∃ x0 x1, c_ = [x0, x1] := by match c_, hcl_ with | [a_, b_], _ => exact ⟨a_, b_, rfl⟩
    have e0_ : wy.cell? ⟨ga, o_ + k * 2, none⟩ = some x0_ := hcc_ 0 x0_ rfl
    have e1_ : wy.cell? ⟨ga, o_ + k * 2 + 1, none⟩ = some x1_ := hcc_ 1 x1_ rfl
    have f0_ : wy.frozen? ⟨ga, o_ + k * 2, none⟩ = false := hfz_ 0
    have f1_ : wy.frozen? ⟨ga, o_ + k * 2 + 1, none⟩ = false := hfz_ 1
    clear hcc_ hfz_ hcl_
    refine skip_ (w1 := ?_) (by rfl) rfl ?_ ?_
    rotate_left
    · go_simp
      rfl
    clear e0_ e1_ f0_ f1_
    refine hK.out _ _ ?_
    clear hK K
    refine done_ (by kernel_rfl) ?_

    obtain ⟨hq, hgq⟩ := parts_put (a := part.1) V42.out (by decide) HLT.out U42.out
    obtain ⟨g2_, o2_, cap2_, ev2, y1_, y2_, cells_, hbx⟩ := Kd.Q_form V42.out (by simp; omega)
    have ev3 : ga = g2_ := by injection ev2 with e_ _ _; injection e_ with e_; injection e_ with e_ _ _
    clear ev2
    subst ev3
    have hset : (ad ++ List.replicate (m1 + 1) ((0, []) : Int × List Int)).set k (part.1, part.2) = (ad ++ [part]) ++ List.replicate m1 ((0, []) : Int × List Int) := by have := set_done ad ((0, []) : Int × List Int) part m1; rwa [HD.out] at this
    rw [hset] at hq
    have A9_ := Aside0.mk (A42.out.blk hbx (by decide) HGE.out hgq)
    have C9_ := Aside0.mk (C42.out.blk hbx (by decide) hgq)
    have B9_ := Aside0.mk (B42.out.blk hbx (by decide) hgq)
    have R9_ := Aside0.mk (R42.out.kp (Kp.blk hbx (by decide) hgq))
    have V9_ := Aside0.mk hq
    clear hq hgq hbx hset V42 U42 A42 C42 B42 R42
    go_wp2
    go_roundw
    case rel =>
      have hlt := HLT.out
      have hm1 := HM1.out
      refine ⟨k + 1, pq, ad ++ [part], by omega, by go_num, ⟨by simp [HD.out]⟩, ⟨?_⟩, ⟨(rPart_le HR6.out).1⟩, A9_, C9_, B9_, R9_, ⟨?_⟩⟩
      · rw [HRc.out, show xsad.length - (k + 1) = m1 from by omega]
        simp only [rPartList, HR6.out, Option.bind_some]
        cases rPartList l m1 pq with
        | none => rfl
        | some y => simp
      · have h9 := V9_.out
        rwa [show m1 = xsad.length - (k + 1) from by omega] at h9
    case measure => have := HLT.out; simp [intOf]; omega
  obtain rfl : k = xsad.length := by omega
  have hv0 := V40.out
  have hrec := HRec.out
  rw [Nat.sub_self] at hv0 hrec
  rw [List.replicate_zero, List.append_nil, ← HD.out] at hv0
  simp only [rPartList, Option.bind_some, List.append_nil] at hrec
  have Had := Aside0.mk (show rParts l q24 = some (ad, pkad) from by rw [rParts_of Hnad.out HNad.out, ← HNN.out]; exact hrec)
  have V9_ := Aside0.mk hv0
  have hb0 := B40.out
  rw [← HD.out] at hb0
  clear B40
  have B40 := Aside0.mk hb0
  clear hb0 hv0 hrec HRec V40 hlt hk
  have D40 := Aside0.mk ((Rows.nil [3, 79, 88, 96, 103] wr).add (Stable.rowQ _ kPart 100 w.heap.size (.slice Aad ad.length cad) ad (by decide)) V9_.out)
  clear V9_
  have hnl : ¬ (((xsad.length : Nat) : Int) < ((xsad.length : Nat) : Int)) := by omega
  obtain ⟨w29, hw_⟩ : ∃ w_, w_ = wr := ⟨_, rfl⟩
  subst hw_
  go_wp2_with fail
  clear hnl
  with_reducible refine (readInt32_any gb gp ge pkad l _ HL.out A40.out.src A40.out.pos (rParts_le Had.out).1).mono ?_
  intro e w30 h1
  rcases h1.cases with ⟨hr, ⟨dt, dx⟩, hg⟩ | ⟨nau, q30, v, hr, rfl, hv, hg, hp1⟩
  · exact ⟨rfl, Ret.dies (by simp [rCred, Hcl.out, Hsv.out, Hkt.out, Hkey.out, Ht1.out, Ht2.out, Ht3.out, Ht4.out, Hik.out, Hfl.out, Had.out, rParts_n hr]) ⟨_, _⟩ (A40.out.grown.trans hg)⟩
  subst hv
  have Hnau := Aside0.mk hr
  obtain ⟨_, _, n0au, n1au⟩ := r32_le hr
  have A41 := Aside0.mk (A40.out.call hg hp1)
  have C41 := Aside0.mk (C40.out.call A40.out.pos (by decide) hg)
  have B41 := Aside0.mk (B40.out.call A40.out.pos (by decide) hg)
  have R41 := Aside0.mk (R40.out.kp (Kp.call A40.out.pos (by decide) hg))
  have D41 := Aside0.mk (D40.out.kp (Kp.call A40.out.pos (by decide) hg))
  clear A40 C40 B40 R40 D40
  clear h1 hr hg hp1
  by_cases h0au : 0 ≤ nau
  case neg =>
    obtain ⟨i0_, hi0_, _, _, hby_⟩ := info_parts info103z
    have hmk : ∀ W : World, (Instr.makeSlice 94 (.int .i64 nau) (.int .i64 nau)).run Try.prog W = .halt (.panic (lenPanic Try.prog)) W := fun W => run_make_len_refused W 94 103 i0_ Try.underlying94 hi0_ .i64 .i64 nau (by omega) (by omega) (.inl (by omega))
    have HN0 := Aside0.mk (show nau < 0 from by omega)
    clear h0au hby_
    go_wp2_with fail
    exact ⟨rfl, Ret.dies (by simp [rCred, Hcl.out, Hsv.out, Hkt.out, Hkey.out, Ht1.out, Ht2.out, Ht3.out, Ht4.out, Hik.out, Hfl.out, Had.out, rParts_neg Hnau.out (by have := HN0.out; omega)]) ⟨_, _⟩ A41.out.grown⟩
  have HNau := Aside0.mk h0au
  have c20 := B41.out.cell 20 (.slice none 0 0) rfl
  have f20 := B41.out.free 20
  have HSZ := Aside0.mk A41.out.size
  go_wp2_with ((with_reducible refine gate_dst (N := 149) rfl ?_); refine Kd.R_make kPart (w0 := w30) w.heap.size 103 rfl (N := 149) rfl 94 _ _ rfl nau rfl rfl Try.underlying94 (.agg #[.int .i32 0, .slice none 0 0]) 32 info103z rfl (by decide) (by decide) ((0, []) : Int × List Int) (ok := fun _ => True) (okp := fun _ => True) ⟨[_], [_], rfl, rfl, _, rfl, Kd.R_nil _ _ _ _ _⟩ (fun _ hk => hk) trivial (by omega) (by omega) (Below.refl _ _) HSZ.out ?_; intro vau w31 ho hb_ hg_ hnew_; have hb := below_of_grown hg_; clear hb_ hg_ hnew_; obtain ⟨xsau, hxs⟩ : ∃ xs_, xs_ = List.replicate nau.toNat ((0, []) : Int × List Int) := ⟨_, rfl⟩; rw [← hxs] at ho; have HXS := Aside0.mk hxs; clear hxs; obtain ⟨Aau, cau, ev⟩ := Kd.R_slice ho; subst ev; have HO := Aside0.mk ho; have HBB := Aside0.mk hb; have c20 := (B41.out.below hb).cell 20 (.slice none 0 0) rfl; have f20 := (B41.out.below hb).free 20; clear ho hb)
  have hb := HBB.out
  have A42 := Aside0.mk (A41.out.below hb)
  have C42 := Aside0.mk (C41.out.below hb)
  have B42 := Aside0.mk (B41.out.below hb)
  have R42 := Aside0.mk (R41.out.kp (Kp.below _ hb))
  have D42 := Aside0.mk (D41.out.kp (Kp.below _ hb))
  clear A41 C41 B41 R41 D41
  clear hb HBB HSZ
  have VQ := Aside0.mk (Kd.Q_of_R (row_set HO.out B42.out (by decide) 20 (.slice Aau xsau.length cau)))
  clear HO
  have A43 := Aside0.mk (A42.out.set B42.out (by decide) (Nat.le_refl _) 20 (.slice Aau xsau.length cau))
  have C43 := Aside0.mk (C42.out.far (g' := w.heap.size) (by omega) 20 (.slice Aau xsau.length cau))
  have B43 := Aside0.mk (B42.out.puts (cs' := #[.string cl.realm, .int .i32 cl.kind, .slice Acl cl.names.length ccl, .string sv.realm, .int .i32 sv.kind, .slice Asv sv.names.length csv, .int .i32 kt, .slice Akey key.length ckey, .int .i64 t1, .bool true, .int .i64 t2, .bool true, .int .i64 t3, .bool true, .int .i64 t4, .bool true, .bool (decide (ik ≠ 0)), .slice Afl fl.length cfl, .int .i64 32, .slice Aad ad.length cad, .slice Aau xsau.length cau, .slice none 0 0, .slice none 0 0]) 20 (.slice Aau xsau.length cau) rfl)
  have R43 := Aside0.mk (R42.out.kp (Kp.set B42.out (by decide) 20 (.slice Aau xsau.length cau)))
  have D43 := Aside0.mk (D42.out.kp (Kp.set B42.out (by decide) 20 (.slice Aau xsau.length cau)))
  clear A42 C42 B42 R42 D42
  clear c20 f20
  generalize (w31.setCell ⟨w.heap.size, 20, none⟩ (.slice Aau xsau.length cau)) = w32 at *
  have HNN := Aside0.mk (show xsau.length = nau.toNat from by rw [HXS.out]; simp)
  have hnn : xsau.length ≤ 2147483648 := by have := HNN.out; omega
  have HQN := Aside0.mk (show q30 ≤ l.length from (r32_le Hnau.out).1)
  go_loopw [157] (fun i wr => ∃ (k pkau : Nat) (au : List (Int × List Int)), k ≤ xsau.length ∧ i = .int .i64 k ∧ Aside0 (au.length = k) ∧ Aside0 (rPartList l xsau.length q30 = (rPartList l (xsau.length - k) pkau).bind fun y => some (au ++ y.1, y.2)) ∧ Aside0 (pkau ≤ l.length) ∧ Aside0 (At w wr gb gp ge l pkau) ∧ Aside0 (Box wr gc 79 cs) ∧ Aside0 (Box wr w.heap.size 96 #[.string cl.realm, .int .i32 cl.kind, .slice Acl cl.names.length ccl, .string sv.realm, .int .i32 sv.kind, .slice Asv sv.names.length csv, .int .i32 kt, .slice Akey key.length ckey, .int .i64 t1, .bool true, .int .i64 t2, .bool true, .int .i64 t3, .bool true, .int .i64 t4, .bool true, .bool (decide (ik ≠ 0)), .slice Afl fl.length cfl, .int .i64 32, .slice Aad ad.length cad, .slice Aau xsau.length cau, .slice none 0 0, .slice none 0 0]) ∧ Aside0 (Rows [3, 79, 88, 96, 100, 103] wr [fun w_ => (Kd.int .u8).R 5 w_ w.heap.size (fun _ => True) (.slice Afl fl.length cfl) fl, fun w_ => (Kd.int .u8).R 5 w_ w.heap.size (fun _ => True) (.slice Akey key.length ckey) key, fun w_ => Kd.string.R 9 w_ w.heap.size (fun _ => True) (.slice Asv sv.names.length csv) sv.names, fun w_ => Kd.string.R 9 w_ w.heap.size (fun _ => True) (.slice Acl cl.names.length ccl) cl.names]) ∧ Aside0 (Rows [3, 79, 88, 96, 103] wr [fun w_ => kPart.Q 100 w_ w.heap.size (fun _ => True) (.slice Aad ad.length cad) ad]) ∧ Aside0 (kPart.Q 103 wr w.heap.size (fun _ => True) (.slice Aau xsau.length cau) (au ++ List.replicate (xsau.length - k) ((0, []) : Int × List Int)))) (fun i _ => xsau.length - (intOf i).toNat)
  case atStart =>
    have HXX : ([] : List (Int × List Int)) ++ List.replicate (xsau.length - 0) ((0, []) : Int × List Int) = xsau := by rw [Nat.sub_zero, HNN.out, List.nil_append]; exact HXS.out.symm
    exact ⟨0, q30, [], Nat.zero_le _, rfl, ⟨rfl⟩, ⟨by rw [Nat.sub_zero]; cases rPartList l xsau.length q30 <;> rfl⟩, HQN, A43, C43, B43, R43, D43, ⟨by rw [HXX]; exact VQ.out⟩⟩
  clear A43 C43 B43 R43 D43 VQ
  obtain ⟨k, pkau, au, hk, rfl, HD, HRec, HPK, A43, C43, B43, R43, D43, V43⟩ := hrel
  by_cases hlt : k < xsau.length
  case pos =>
    have hlt' : (k : Int) < (xsau.length : Int) := by omega
    have hk0 : (0 : Int) ≤ (k : Int) := by omega
    obtain ⟨m1, hm1⟩ : ∃ m1, xsau.length - k = m1 + 1 := ⟨xsau.length - k - 1, by omega⟩
    have hrec := HRec.out
    have hv0 := V43.out
    rw [hm1] at hrec hv0
    have HM1 := Aside0.mk hm1
    have HLT := Aside0.mk hlt
    have HRc := Aside0.mk hrec
    have hrp : rParts l pkad = (rPartList l (m1 + 1) pkau).bind fun y => some (au ++ y.1, y.2) := by rw [rParts_of Hnau.out HNau.out, ← HNN.out]; exact hrec
    have HNO : Aside0 (rPart l pkau = none → rCred ver l p = none) := ⟨fun h => by simp [rCred, Hcl.out, Hsv.out, Hkt.out, Hkey.out, Ht1.out, Ht2.out, Ht3.out, Ht4.out, Hik.out, Hfl.out, Had.out, hrp, rPartList, h]⟩
    obtain ⟨ga, o_, cap_, ev, hge, lt_, cells0_, box_⟩ := Kd.Q_form hv0 (by simp; omega)
    have ev1 : Aau = some ⟨ga, o_, none⟩ := by injection ev with e_ _ _
    clear ev box_ lt_ cells0_
    subst ev1
    have HGE := Aside0.mk hge
    have A44 := Aside0.mk A43.out.drew
    have C44 := Aside0.mk C43.out.drew
    have B44 := Aside0.mk B43.out.drew
    have R44 := Aside0.mk (R43.out.kp (Kp.below _ (below_drew (Below.refl _ _))))
    have D44 := Aside0.mk (D43.out.kp (Kp.below _ (below_drew (Below.refl _ _))))
    have V44 := Aside0.mk (Kd.Q_drew hv0)
    clear hrec hv0 hm1 hlt hrp hge HRec hk V43 A43 C43 B43 R43 D43
    go_wp2_with fail
    refine start_ (n := 11) (S := fun w' => w'.cell? ⟨w.heap.size, 20, none⟩ = some (.slice (some ⟨ga, o_, none⟩) xsau.length cau)) (ds := [10]) #[false, false, false, false, false, false, false, false, false, false, false] (by kernel_rfl) rfl rfl ((B44.out.cell 20 _ rfl)) (fun hHeld => ?_)
    generalize wr.drew = wx at A44 C44 B44 R44 D44 V44 hHeld ⊢
    refine pure_ (i := 0) (N := some 160) (v := ?_) (a' := ?_) #[true, false, false, false, false, false, false, false, false, false, false] rfl rfl (by kernel_rfl) (fun _ _ _ h => h) (Or.inl ⟨by rfl, ?_⟩) ?_ ?_
    rotate_left
    · intro w'
      go_simp
      with_reducible rfl
    rotate_left
    · simp only [Act.put, List.setIfInBounds_toArray, List.set_cons_zero, List.set_cons_succ, i64_w, i32_w]
      rfl
    refine pure_ (i := 1) (N := some 161) (v := ?_) (a' := ?_) #[true, true, false, false, false, false, false, false, false, false, false] rfl rfl (by kernel_rfl) (fun _ _ _ h => h) (Or.inl ⟨by rfl, ?_⟩) ?_ ?_
    rotate_left
    · intro w'
      go_simp
      with_reducible rfl
    rotate_left
    · simp only [Act.put, List.setIfInBounds_toArray, List.set_cons_zero, List.set_cons_succ, i64_w, i32_w]
      rfl
    refine pure_ (i := 2) (N := some 162) (v := ?_) (a' := ?_) #[true, true, true, false, false, false, false, false, false, false, false] rfl rfl (by kernel_rfl) (fun _ _ _ h => h) (Or.inl ⟨by rfl, ?_⟩) ?_ ?_
    rotate_left
    · intro w'
      go_simp
      with_reducible rfl
    rotate_left
    · simp only [Act.put, List.setIfInBounds_toArray, List.set_cons_zero, List.set_cons_succ, i64_w, i32_w]
      rfl
    refine pure_ (i := 4) (N := some 164) (v := ?_) (a' := ?_) #[true, true, true, false, true, false, false, false, false, false, false] rfl rfl (by kernel_rfl) (fun _ _ _ h => h) (Or.inl ⟨by rfl, ?_⟩) ?_ ?_
    rotate_left
    · intro w'
      go_simp
      with_reducible rfl
    rotate_left
    · simp only [Act.put, List.setIfInBounds_toArray, List.set_cons_zero, List.set_cons_succ, i64_w, i32_w]
      rfl
    refine pure_ (i := 5) (N := some 165) (v := ?_) (a' := ?_) #[true, true, true, false, true, true, false, false, false, false, false] rfl rfl (by kernel_rfl) (fun _ _ _ h => h) (Or.inl ⟨by rfl, ?_⟩) ?_ ?_
    rotate_left
    · intro w'
      go_simp
      with_reducible rfl
    rotate_left
    · simp only [Act.put, List.setIfInBounds_toArray, List.set_cons_zero, List.set_cons_succ, i64_w, i32_w]
      rfl
    refine pure_ (i := 6) (N := some 166) (v := ?_) (a' := ?_) #[true, true, true, false, true, true, true, false, false, false, false] rfl rfl (by kernel_rfl) (fun _ _ _ h => h) (Or.inl ⟨by rfl, ?_⟩) ?_ ?_
    rotate_left
    · intro w'
      go_simp
      with_reducible rfl
    rotate_left
    · simp only [Act.put, List.setIfInBounds_toArray, List.set_cons_zero, List.set_cons_succ, i64_w, i32_w]
      rfl
    refine pure_ (i := 7) (N := some 167) (v := ?_) (a' := ?_) #[true, true, true, false, true, true, true, true, false, false, false] rfl rfl (by kernel_rfl) (fun _ _ _ h => h) (Or.inl ⟨by rfl, ?_⟩) ?_ ?_
    rotate_left
    · intro w'
      go_simp
      with_reducible rfl
    rotate_left
    · simp only [Act.put, List.setIfInBounds_toArray, List.set_cons_zero, List.set_cons_succ, i64_w, i32_w]
      rfl
    refine take_ (i := 3) (N := some 163) (v := ?_) (a' := ?_) #[true, true, true, true, true, true, true, true, false, false, false] rfl rfl (by kernel_rfl) (fun _ _ _ h => h) (Or.inl ⟨by rfl, ?_⟩) hHeld ?_ ?_
    rotate_left
    · intro w' s0
      go_simp
      with_reducible rfl
    rotate_left
    · simp only [Act.put, List.setIfInBounds_toArray, List.set_cons_zero, List.set_cons_succ, i64_w, i32_w]
      rfl
    refine one_ (i := 8) (N := some 168) #[true, true, true, true, true, true, true, true, true, false, false] rfl rfl (by kernel_rfl) (by decide) (fun K hK => ?_)
    refine goesP_ Try.func63 (by kernel_rfl) rfl #[.slice (some ⟨gb, 0, none⟩) l.length l.length, .pointer (some ⟨gp, 0, none⟩), .pointer (some ⟨ge, 0, none⟩)] (by rfl) rfl rfl (by simp only [List.map_toArray, List.map_cons, List.map_nil]; rfl) ?_
    with_reducible refine (readAuthData_any gb gp ge pkau l _ HL.out A44.out.src A44.out.pos HPK.out).mono ?_
    intro e wy h7
    rcases h7.cases with ⟨hr, ⟨dt, dx⟩, hg⟩ | ⟨part, pq, v, hr, rfl, hv, hg, hp6⟩
    · exact .inr ⟨_, rfl, rfl, Ret.dies (HNO.out hr) ⟨_, _⟩ (A44.out.grown.trans hg)⟩
    obtain ⟨u_, rfl, hu⟩ := hv
    obtain ⟨Au_, cu_, eu⟩ := Kd.R_slice hu
    subst eu
    have HR6 := Aside0.mk hr
    have U45 := Aside0.mk (Kd.R_lower hu A44.out.size)
    have V45 := Aside0.mk ((Stable.rowQ [3] kPart 103 w.heap.size (.slice (some ⟨ga, o_, none⟩) xsau.length cau) _ (by decide)) _ _ V44.out (Kp.call A44.out.pos (by decide) hg))
    have C45 := Aside0.mk (C44.out.call A44.out.pos (by decide) hg)
    have B45 := Aside0.mk (B44.out.call A44.out.pos (by decide) hg)
    have R45 := Aside0.mk (R44.out.kp (Kp.call A44.out.pos (by decide) hg))
    have D45 := Aside0.mk (D44.out.kp (Kp.call A44.out.pos (by decide) hg))
    have A45 := Aside0.mk (A44.out.call hg hp6)
    clear h7 hr hg hp6 hu HNO
    refine .inl ⟨_, rfl, ?_⟩
    refine hK.out _ _ ((B45.out.cell 20 _ rfl)) (fun hHeld => ?_)
    clear hK K
    refine norm_ (a' := ?_) ?_ ?_
    rotate_left
    · show Act.put _ (some 168) _ = _
      simp only [Act.put, List.setIfInBounds_toArray, List.set_cons_zero, List.set_cons_succ, i64_w, i32_w]
      rfl
    refine pure_ (i := 9) (N := some 169) (v := ?_) (a' := ?_) #[true, true, true, true, true, true, true, true, true, true, false] rfl rfl (by kernel_rfl) (fun _ _ _ h => h) (Or.inl ⟨by rfl, ?_⟩) ?_ ?_
    rotate_left
    · intro w'
      go_simp
      with_reducible rfl
    rotate_left
    · simp only [Act.put, List.setIfInBounds_toArray, List.set_cons_zero, List.set_cons_succ, i64_w, i32_w]
      rfl
    refine last_ (i := 10) (N := none) #[true, true, true, true, true, true, true, true, true, true, true] rfl rfl (by kernel_rfl) (by decide) (fun K hK => ?_)
    obtain ⟨c_, hcl_, _, hcc_, hfz_⟩ := Kd.Q_elem V45.out ((0, []) : Int × List Int) (k : Int) (by omega) (by omega)
    obtain ⟨x0_, x1_, rfl⟩ : ∃ x0 x1, c_ = [x0, x1] := by match c_, hcl_ with | [a_, b_], _ => exact ⟨a_, b_, rfl⟩
    have e0_ : wy.cell? ⟨ga, o_ + k * 2, none⟩ = some x0_ := hcc_ 0 x0_ rfl
    have e1_ : wy.cell? ⟨ga, o_ + k * 2 + 1, none⟩ = some x1_ := hcc_ 1 x1_ rfl
    have f0_ : wy.frozen? ⟨ga, o_ + k * 2, none⟩ = false := hfz_ 0
    have f1_ : wy.frozen? ⟨ga, o_ + k * 2 + 1, none⟩ = false := hfz_ 1
    clear hcc_ hfz_ hcl_
    refine skip_ (w1 := ?_) (by rfl) rfl ?_ ?_
    rotate_left
    · go_simp
      rfl
    clear e0_ e1_ f0_ f1_
    refine hK.out _ _ ?_
    clear hK K
    refine done_ (by kernel_rfl) ?_

    obtain ⟨hq, hgq⟩ := parts_put (a := part.1) V45.out (by decide) HLT.out U45.out
    obtain ⟨g2_, o2_, cap2_, ev2, y1_, y2_, cells_, hbx⟩ := Kd.Q_form V45.out (by simp; omega)
    have ev3 : ga = g2_ := by injection ev2 with e_ _ _; injection e_ with e_; injection e_ with e_ _ _
    clear ev2
    subst ev3
    have hset : (au ++ List.replicate (m1 + 1) ((0, []) : Int × List Int)).set k (part.1, part.2) = (au ++ [part]) ++ List.replicate m1 ((0, []) : Int × List Int) := by have := set_done au ((0, []) : Int × List Int) part m1; rwa [HD.out] at this
    rw [hset] at hq
    have A9_ := Aside0.mk (A45.out.blk hbx (by decide) HGE.out hgq)
    have C9_ := Aside0.mk (C45.out.blk hbx (by decide) hgq)
    have B9_ := Aside0.mk (B45.out.blk hbx (by decide) hgq)
    have R9_ := Aside0.mk (R45.out.kp (Kp.blk hbx (by decide) hgq))
    have D9_ := Aside0.mk (D45.out.kp (Kp.blk hbx (by decide) hgq))
    have V9_ := Aside0.mk hq
    clear hq hgq hbx hset V45 U45 A45 C45 B45 R45 D45
    go_wp2
    go_roundw
    case rel =>
      have hlt := HLT.out
      have hm1 := HM1.out
      refine ⟨k + 1, pq, au ++ [part], by omega, by go_num, ⟨by simp [HD.out]⟩, ⟨?_⟩, ⟨(rPart_le HR6.out).1⟩, A9_, C9_, B9_, R9_, D9_, ⟨?_⟩⟩
      · rw [HRc.out, show xsau.length - (k + 1) = m1 from by omega]
        simp only [rPartList, HR6.out, Option.bind_some]
        cases rPartList l m1 pq with
        | none => rfl
        | some y => simp
      · have h9 := V9_.out
        rwa [show m1 = xsau.length - (k + 1) from by omega] at h9
    case measure => have := HLT.out; simp [intOf]; omega
  obtain rfl : k = xsau.length := by omega
  have hv0 := V43.out
  have hrec := HRec.out
  rw [Nat.sub_self] at hv0 hrec
  rw [List.replicate_zero, List.append_nil, ← HD.out] at hv0
  simp only [rPartList, Option.bind_some, List.append_nil] at hrec
  have Hau := Aside0.mk (show rParts l pkad = some (au, pkau) from by rw [rParts_of Hnau.out HNau.out, ← HNN.out]; exact hrec)
  have V9_ := Aside0.mk hv0
  have hb0 := B43.out
  rw [← HD.out] at hb0
  clear B43
  have B43 := Aside0.mk hb0
  clear hb0 hv0 hrec HRec V43 hlt hk
  have F43 := Aside0.mk ((Rows.nil [3, 79, 88, 96] wr).add (Stable.rowQ _ kPart 103 w.heap.size (.slice Aau au.length cau) au (by decide)) V9_.out)
  clear V9_
  have hnl : ¬ (((xsau.length : Nat) : Int) < ((xsau.length : Nat) : Int)) := by omega
  obtain ⟨w33, hw_⟩ : ∃ w_, w_ = wr := ⟨_, rfl⟩
  subst hw_
  go_wp2_with fail
  clear hnl
  with_reducible refine (readData_any gb gp ge pkau l _ HL.out A43.out.src A43.out.pos (rParts_le Hau.out).1).mono ?_
  intro e w34 h1
  rcases h1.cases with ⟨hr, ⟨dt, dx⟩, hg⟩ | ⟨tk, q34, v, hr, rfl, hv, hg, hp1⟩
  · exact ⟨rfl, Ret.dies (by simp [rCred, Hcl.out, Hsv.out, Hkt.out, Hkey.out, Ht1.out, Ht2.out, Ht3.out, Ht4.out, Hik.out, Hfl.out, Had.out, Hau.out, hr]) ⟨_, _⟩ (A43.out.grown.trans hg)⟩
  obtain ⟨Atk, ctk, ev⟩ := Kd.R_slice hv
  subst ev
  have Vtk := Aside0.mk (Kd.R_lower hv A43.out.size)
  clear hv
  have Htk := Aside0.mk hr
  have A44 := Aside0.mk (A43.out.call hg hp1)
  have C44 := Aside0.mk (C43.out.call A43.out.pos (by decide) hg)
  have B44 := Aside0.mk (B43.out.call A43.out.pos (by decide) hg)
  have R44 := Aside0.mk (R43.out.kp (Kp.call A43.out.pos (by decide) hg))
  have D44 := Aside0.mk (D43.out.kp (Kp.call A43.out.pos (by decide) hg))
  have F44 := Aside0.mk (F43.out.kp (Kp.call A43.out.pos (by decide) hg))
  clear A43 C43 B43 R43 D43 F43
  clear h1 hr hg hp1
  have R45 := Aside0.mk (R44.out.add (Stable.row _ (Kd.int .u8) 5 w.heap.size (.slice Atk tk.length ctk) tk (by decide)) (Vtk.out))
  clear R44
  have A45 := A44
  clear A44
  have C45 := C44
  clear C44
  have B45 := B44
  clear B44
  have D45 := D44
  clear D44
  have F45 := F44
  clear F44
  clear Vtk
  have c21 := B45.out.cell 21 (.slice none 0 0) rfl
  have f21 := B45.out.free 21
  go_wp2_with fail
  have A46 := Aside0.mk (A45.out.set B45.out (by decide) (Nat.le_refl _) 21 (.slice Atk tk.length ctk))
  have C46 := Aside0.mk (C45.out.far (g' := w.heap.size) (by omega) 21 (.slice Atk tk.length ctk))
  have B46 := Aside0.mk (B45.out.puts (cs' := #[.string cl.realm, .int .i32 cl.kind, .slice Acl cl.names.length ccl, .string sv.realm, .int .i32 sv.kind, .slice Asv sv.names.length csv, .int .i32 kt, .slice Akey key.length ckey, .int .i64 t1, .bool true, .int .i64 t2, .bool true, .int .i64 t3, .bool true, .int .i64 t4, .bool true, .bool (decide (ik ≠ 0)), .slice Afl fl.length cfl, .int .i64 32, .slice Aad ad.length cad, .slice Aau au.length cau, .slice Atk tk.length ctk, .slice none 0 0]) 21 (.slice Atk tk.length ctk) rfl)
  have R46 := Aside0.mk (R45.out.kp (Kp.set B45.out (by decide) 21 (.slice Atk tk.length ctk)))
  have D46 := Aside0.mk (D45.out.kp (Kp.set B45.out (by decide) 21 (.slice Atk tk.length ctk)))
  have F46 := Aside0.mk (F45.out.kp (Kp.set B45.out (by decide) 21 (.slice Atk tk.length ctk)))
  clear A45 C45 B45 R45 D45 F45
  clear c21 f21
  generalize (w34.setCell ⟨w.heap.size, 21, none⟩ (.slice Atk tk.length ctk)) = w35 at *
  with_reducible refine (readData_any gb gp ge q34 l _ HL.out A46.out.src A46.out.pos (rData_le4 Htk.out).1).mono ?_
  intro e w36 h1
  rcases h1.cases with ⟨hr, ⟨dt, dx⟩, hg⟩ | ⟨sc, q36, v, hr, rfl, hv, hg, hp1⟩
  · exact ⟨rfl, Ret.dies (by simp [rCred, Hcl.out, Hsv.out, Hkt.out, Hkey.out, Ht1.out, Ht2.out, Ht3.out, Ht4.out, Hik.out, Hfl.out, Had.out, Hau.out, Htk.out, hr]) ⟨_, _⟩ (A46.out.grown.trans hg)⟩
  obtain ⟨Asc, csc, ev⟩ := Kd.R_slice hv
  subst ev
  have Vsc := Aside0.mk (Kd.R_lower hv A46.out.size)
  clear hv
  have Hsc := Aside0.mk hr
  have A47 := Aside0.mk (A46.out.call hg hp1)
  have C47 := Aside0.mk (C46.out.call A46.out.pos (by decide) hg)
  have B47 := Aside0.mk (B46.out.call A46.out.pos (by decide) hg)
  have R47 := Aside0.mk (R46.out.kp (Kp.call A46.out.pos (by decide) hg))
  have D47 := Aside0.mk (D46.out.kp (Kp.call A46.out.pos (by decide) hg))
  have F47 := Aside0.mk (F46.out.kp (Kp.call A46.out.pos (by decide) hg))
  clear A46 C46 B46 R46 D46 F46
  clear h1 hr hg hp1
  have R48 := Aside0.mk (R47.out.add (Stable.row _ (Kd.int .u8) 5 w.heap.size (.slice Asc sc.length csc) sc (by decide)) (Vsc.out))
  clear R47
  have A48 := A47
  clear A47
  have C48 := C47
  clear C47
  have B48 := B47
  clear B47
  have D48 := D47
  clear D47
  have F48 := F47
  clear F47
  clear Vsc
  have c22 := B48.out.cell 22 (.slice none 0 0) rfl
  have f22 := B48.out.free 22
  go_wp2
  have A49 := Aside0.mk (A48.out.set B48.out (by decide) (Nat.le_refl _) 22 (.slice Asc sc.length csc))
  have C49 := Aside0.mk (C48.out.far (g' := w.heap.size) (by omega) 22 (.slice Asc sc.length csc))
  have B49 := Aside0.mk (B48.out.puts (cs' := #[.string cl.realm, .int .i32 cl.kind, .slice Acl cl.names.length ccl, .string sv.realm, .int .i32 sv.kind, .slice Asv sv.names.length csv, .int .i32 kt, .slice Akey key.length ckey, .int .i64 t1, .bool true, .int .i64 t2, .bool true, .int .i64 t3, .bool true, .int .i64 t4, .bool true, .bool (decide (ik ≠ 0)), .slice Afl fl.length cfl, .int .i64 32, .slice Aad ad.length cad, .slice Aau au.length cau, .slice Atk tk.length ctk, .slice Asc sc.length csc]) 22 (.slice Asc sc.length csc) rfl)
  have R49 := Aside0.mk (R48.out.kp (Kp.set B48.out (by decide) 22 (.slice Asc sc.length csc)))
  have D49 := Aside0.mk (D48.out.kp (Kp.set B48.out (by decide) 22 (.slice Asc sc.length csc)))
  have F49 := Aside0.mk (F48.out.kp (Kp.set B48.out (by decide) 22 (.slice Asc sc.length csc)))
  clear A48 C48 B48 R48 D48 F48
  clear c22 f22
  skip
  go_ret2
  exact Ret.gives (a := ⟨cl, sv, kt, key, t1, t2, t3, t4, ik, fl, ad, au, tk, sc⟩) (p' := q36) (by simp [rCred, Hcl.out, Hsv.out, Hkt.out, Hkey.out, Ht1.out, Ht2.out, Ht3.out, Ht4.out, Hik.out, Hfl.out, Had.out, Hau.out, Htk.out, Hsc.out]) rfl ⟨w.heap.size, rfl, Nat.le_refl _, Acl, Asv, Akey, Afl, Aad, Aau, Atk, Asc, ccl, csv, ckey, cfl, cad, cau, ctk, csc, B49.out, R49.out.get 5 rfl, R49.out.get 4 rfl, R49.out.get 3 rfl, R49.out.get 2 rfl, D49.out.get 0 rfl, F49.out.get 0 rfl, R49.out.get 1 rfl, R49.out.get 0 rfl⟩ A49.out.grown A49.out.pos
end Go.Proofs.Ytnipcocllhfaoaa.B

/- CacheRead tells what it has read; under what each theorem states. Written by a program of this session. -/
import Derived.Test.YtnipcocllhfaoaaB11
namespace Go.Proofs.Ytnipcocllhfaoaa.B
open Go.RowKit Go.Proofs.YtnipcocllhfaoaaW.PrintWords Go.Proofs.YtnipcocllhfaoaaW.PrintLast
open Go.Proofs.Ytnipcocllhfaoaa.A (S37 S47 S101 k101 k47 k47_mkM k101_mkM)
set_option linter.unusedVariables false
set_option linter.unusedSimpArgs false
set_option maxRecDepth 100000
theorem info101 : (Try.prog.info? 101).map (fun i => (i.zero, i.size, i.bytes)) = some (some (.agg #[.int .i32 0, .string ⟨#[]⟩]), 2, 24) := by kernel_rfl
theorem info47 : (Try.prog.info? 47).map (fun i => (i.zero, i.size, i.bytes)) = some (some (.agg #[.string ⟨#[]⟩, .slice none 0 0, .int .i32 0, .string ⟨#[]⟩, .slice none 0 0, .int .i32 0, .int .i32 0, .string ⟨#[]⟩, .int .i64 0, .int .i64 0, .int .i64 0, .int .i64 0, .bool false, .int .u32 0, .slice none 0 0, .slice none 0 0, .string ⟨#[]⟩, .string ⟨#[]⟩]), 18, 240) := by kernel_rfl
abbrev zero47 : Array Value := #[.string ⟨#[]⟩, .slice none 0 0, .int .i32 0, .string ⟨#[]⟩, .slice none 0 0, .int .i32 0, .int .i32 0, .string ⟨#[]⟩, .int .i64 0, .int .i64 0, .int .i64 0, .int .i64 0, .bool false, .int .u32 0, .slice none 0 0, .slice none 0 0, .string ⟨#[]⟩, .string ⟨#[]⟩]
def flagStep (a b : Int) : Int := bits .or .u32 (a * 256 % 4294967296) (b % 4294967296)
def flagsOf (l : List Int) : Int := l.foldl flagStep 0
def cred47 (c : PCred) (X2 : Option Addr) (z2 : Nat) (X5 : Option Addr) (z5 : Nat) (fl : Int) (v14 v15 : Value) : Array Value := #[.string c.client.realm, .slice X2 c.client.names.length z2, .int .i32 c.client.kind, .string c.server.realm, .slice X5 c.server.names.length z5, .int .i32 c.server.kind, .int .i32 c.kt, .string (strOfNums c.key), .int .i64 c.t1, .int .i64 c.t2, .int .i64 c.t3, .int .i64 c.t4, .bool (decide (c.ik ≠ 0)), .int .u32 fl, v14, v15, .string (strOfNums c.tk), .string (strOfNums c.sc)]
def toPart (a : Int × List Int) : S101 := ⟨a.1, strOfNums a.2⟩
def toCred (c : PCred) : S47 := ⟨⟨c.client.realm, c.client.names, c.client.kind⟩, ⟨c.server.realm, c.server.names, c.server.kind⟩, c.kt, strOfNums c.key, c.t1, c.t2, c.t3, c.t4, decide (c.ik ≠ 0), flagsOf c.fl, c.ad.map toPart, c.au.map toPart, strOfNums c.tk, strOfNums c.sc⟩
/-- What CacheRead tells. -/
def Told (w : World) (ver : Nat) (a : Prin) (r : List PCred) (e : Ending) (w' : World) : Prop :=
  ∃ v v' : Value, e = .returned (.tuple #[.int .u8 ver, .agg #[.string a.realm, v, .int .i32 a.kind], v', .bool true]) ∧ Kd.string.R 9 w' w.heap.size (fun _ => True) v a.names ∧ k47.R 47 w' w.heap.size (fun _ => True) v' (r.map toCred) ∧ Below w.heap.size w w'
/-- What stays while CacheRead goes over the credentials. -/
structure Still (base gc h0 h1 h3 : Nat) (cs : Array Value) (v5 v6 : Value) (names : List ByteArray) (gs : List Nat) (r : List PCred) (w : World) : Prop where
  b0 : Box w h0 5 #[.int .u8 0]
  b1 : ∃ a b, Box w h1 37 #[.string ⟨#[]⟩, a, b]
  b3 : Box w h3 4 #[.bool false]
  cache : Box w gc 79 cs
  names : Kd.string.R 9 w base (fun _ => True) v5 names
  ptrs : kPtr.R 85 w base (fun _ => True) v6 gs
  creds : CredsAt base w gs r
theorem Still.kp {base gc h0 h1 h3 : Nat} {cs : Array Value} {v5 v6 : Value} {names : List ByteArray} {gs : List Nat} {r : List PCred} {w w' : World} (h : Still base gc h0 h1 h3 cs v5 v6 names gs r w) (hk : Kp [47, 101, 38] w w') : Still base gc h0 h1 h3 cs v5 v6 names gs r w' :=
  ⟨Stable.box _ _ _ _ (by decide) _ _ h.b0 hk, by obtain ⟨a, b, hh⟩ := h.b1; exact ⟨a, b, Stable.box _ _ _ _ (by decide) _ _ hh hk⟩, Stable.box _ _ _ _ (by decide) _ _ h.b3 hk, Stable.box _ _ _ _ (by decide) _ _ h.cache hk,
    Stable.row _ _ _ _ _ _ (by decide) _ _ h.names hk, Stable.row _ _ _ _ _ _ (by decide) _ _ h.ptrs hk, CredsAt.stable _ _ _ _ (by decide) _ _ h.creds hk⟩
theorem CredsAt.lower {base base' : Nat} {w : World} {gs : List Nat} {cs : List PCred} (h : CredsAt base w gs cs) (hb : base' ≤ base) : CredsAt base' w gs cs := ⟨h.1, fun i g c hg hc => (h.2 i g c hg hc).lower hb⟩
/-- A pointer in a row of pointers. -/
theorem ptr_at {w : World} {base : Nat} {A : Option Addr} {n c : Nat} {gs : List Nat} (h : kPtr.R 85 w base (fun _ => True) (.slice A n c) gs) (k : Nat) (hk : k < n) (hn : n = gs.length) :
    ∃ gq, A = some ⟨gq, 0, none⟩ ∧ w.cell? ⟨gq, k, none⟩ = some (.pointer (some ⟨gs.getD k 0, 0, none⟩)) := by
  cases A with
  | none =>
    obtain ⟨A', c', e, h1, hC⟩ := Kd.R_reads h
    injection e with e1 e2 e3
    subst e1
    obtain ⟨ad, e, _⟩ := hC.2.2 (by omega)
    cases e
  | some ad =>
    obtain ⟨gq, rfl⟩ := Kd.R_head h
    obtain ⟨cc, hl, hM, hc⟩ := Kd.R_getA h 0 (k : Int) (by omega) (by omega)
    refine ⟨gq, rfl, ?_⟩
    have hM' : cc = [.pointer (some ⟨gs.getD k 0, 0, none⟩)] := by simpa [kPtr, Kd.scalar] using hM
    subst hM'
    have := hc 0 _ rfl
    simpa [kPtr, Kd.scalar, add_at] using this
/-- A byte in a row of bytes. -/
theorem byte_at {w : World} {base : Nat} {A : Option Addr} {n c : Nat} {l : List Int} (h : (Kd.int .u8).R 5 w base (fun _ => True) (.slice A n c) l) (k : Nat) (hk : k < n) (hn : n = l.length) :
    ∃ gq, A = some ⟨gq, 0, none⟩ ∧ w.cell? ⟨gq, k, none⟩ = some (.int .u8 (l.getD k 0)) := by
  cases A with
  | none =>
    obtain ⟨A', c', e, h1, hC⟩ := Kd.R_reads h
    injection e with e1 e2 e3
    subst e1
    obtain ⟨ad, e, _⟩ := hC.2.2 (by omega)
    cases e
  | some ad =>
    obtain ⟨gq, rfl⟩ := Kd.R_head h
    obtain ⟨cc, hl, hM, hc⟩ := Kd.R_getA h 0 (k : Int) (by omega) (by omega)
    refine ⟨gq, rfl, ?_⟩
    have hM' : cc = [.int .u8 (l.getD k 0)] := by simpa [Kd.int, Kd.scalar] using hM
    subst hM'
    have := hc 0 _ rfl
    simpa [Kd.int, Kd.scalar, add_at] using this
theorem rPartList_len {l : List Int} : ∀ {n p p' : Nat} {a : List (Int × List Int)}, rPartList l n p = some (a, p') → a.length = n
  | 0, p, p', a, h => by obtain ⟨rfl, _⟩ := Prod.mk.inj (Option.some.inj h); rfl
  | n + 1, p, p', a, h => by
    simp only [rPartList] at h
    obtain ⟨⟨b, p1⟩, h1, h2⟩ := Option.bind_eq_some_iff.1 h
    obtain ⟨⟨c, p2⟩, h3, h4⟩ := Option.bind_eq_some_iff.1 h2
    obtain ⟨rfl, _⟩ := Prod.mk.inj (Option.some.inj h4)
    simp [rPartList_len h3]
theorem rParts_len {l : List Int} {p p' : Nat} {a : List (Int × List Int)} (h : rParts l p = some (a, p')) : a.length ≤ 2147483648 := by
  unfold rParts at h
  obtain ⟨⟨n, p1⟩, h1, h2⟩ := Option.bind_eq_some_iff.1 h
  obtain ⟨_, _, q0, q1⟩ := r32_le h1
  split at h2
  · have q2 := rPartList_len h2
    simp only at *
    omega
  · cases h2
theorem rBytes_len {l : List Int} {p p' : Nat} {s : Int} {a : List Int} (h : rBytes l p s = some (a, p')) : a.length ≤ s.toNat := by
  unfold rBytes at h
  split at h
  · obtain ⟨rfl, _⟩ := Prod.mk.inj (Option.some.inj h)
    simp
    omega
  · cases h
def Small (c : PCred) : Prop := c.ad.length ≤ 2147483648 ∧ c.au.length ≤ 2147483648 ∧ c.fl.length ≤ 4
theorem rCred_small {ver : Nat} {l : List Int} {p p' : Nat} {a : PCred} (h : rCred ver l p = some (a, p')) : Small a := by
  unfold rCred at h
  obtain ⟨x1, h1, h⟩ := Option.bind_eq_some_iff.1 h
  obtain ⟨x2, h2, h⟩ := Option.bind_eq_some_iff.1 h
  obtain ⟨x3, h3, h⟩ := Option.bind_eq_some_iff.1 h
  obtain ⟨x4, h4, h⟩ := Option.bind_eq_some_iff.1 h
  obtain ⟨x5, h5, h⟩ := Option.bind_eq_some_iff.1 h
  obtain ⟨x6, h6, h⟩ := Option.bind_eq_some_iff.1 h
  obtain ⟨x7, h7, h⟩ := Option.bind_eq_some_iff.1 h
  obtain ⟨x8, h8, h⟩ := Option.bind_eq_some_iff.1 h
  obtain ⟨x9, h9, h⟩ := Option.bind_eq_some_iff.1 h
  obtain ⟨x10, h10, h⟩ := Option.bind_eq_some_iff.1 h
  obtain ⟨x11, h11, h⟩ := Option.bind_eq_some_iff.1 h
  obtain ⟨x12, h12, h⟩ := Option.bind_eq_some_iff.1 h
  obtain ⟨x13, h13, h⟩ := Option.bind_eq_some_iff.1 h
  obtain ⟨x14, h14, h⟩ := Option.bind_eq_some_iff.1 h
  obtain ⟨rfl, _⟩ := Prod.mk.inj (Option.some.inj h)
  exact ⟨rParts_len (a := x11.1) (p' := x11.2) h11, rParts_len (a := x12.1) (p' := x12.2) h12, rBytes_len (a := x10.1) (p' := x10.2) h10⟩
theorem rCreds_small {ver : Nat} {l : List Int} : ∀ {n p : Nat} {r : List PCred}, rCreds ver l n p = some r → r.length ≤ n ∧ ∀ c ∈ r, Small c
  | 0, p, r, h => by simp [rCreds] at h
  | n + 1, p, r, h => by
    simp only [rCreds] at h
    split at h
    · obtain ⟨⟨c, p1⟩, h1, h2⟩ := Option.bind_eq_some_iff.1 h
      obtain ⟨r', h3, h4⟩ := Option.bind_eq_some_iff.1 h2
      obtain rfl := Option.some.inj h4
      obtain ⟨q1, q2⟩ := rCreds_small h3
      refine ⟨by simp; omega, fun c' hc' => ?_⟩
      rcases List.mem_cons.1 hc' with rfl | hc'
      · exact rCred_small h1
      · exact q2 c' hc'
    · obtain rfl := Option.some.inj h
      exact ⟨by simp, fun c hc => by simp at hc⟩
theorem rCache_small {ver q : Nat} {l : List Int} {a : Prin} {r : List PCred} (h : rCache ver l q = some (a, r)) : r.length ≤ l.length + 1 ∧ ∀ c ∈ r, Small c := by
  unfold rCache at h
  obtain ⟨x1, h1, h⟩ := Option.bind_eq_some_iff.1 h
  obtain ⟨x2, h2, h⟩ := Option.bind_eq_some_iff.1 h
  obtain ⟨_, rfl⟩ := Prod.mk.inj (Option.some.inj h)
  exact rCreds_small h2
/-- A part in a row of parts. -/
theorem part_at {w : World} {base e n c : Nat} {A : Option Addr} {l : List (Int × List Int)} (h : kPart.Q e w base (fun _ => True) (.slice A n c) l) (k : Nat) (hk : k < n) (hn : n = l.length) :
    ∃ ga o x y part, A = some ⟨ga, o, none⟩ ∧ l[k]? = some part ∧ w.cell? ⟨ga, o + k * 2, none⟩ = some (.int .i32 part.1) ∧ w.cell? ⟨ga, o + k * 2 + 1, none⟩ = some (.slice x part.2.length y) ∧ (Kd.int .u8).R 5 w base (fun _ => True) (.slice x part.2.length y) part.2 := by
  obtain ⟨ga, o, cap, ev, hge, lt_, cells0_, box_⟩ := Kd.Q_form h (by omega)
  have eA : A = some ⟨ga, o, none⟩ := by injection ev with e_ _ _
  subst eA
  obtain ⟨c_, hcl, hM, hcc, _⟩ := Kd.Q_elem h ((0, []) : Int × List Int) (k : Int) (by omega) (by omega)
  obtain ⟨part, hp⟩ : ∃ part, l[k]? = some part := ⟨_, List.getElem?_eq_getElem (by omega)⟩
  have e1 : l.getD (k : Int).toNat ((0, []) : Int × List Int) = part := by rw [Int.toNat_natCast, List.getD_eq_getElem?_getD, hp]; rfl
  rw [e1] at hM
  obtain ⟨c1, c2, rfl, h1, h2⟩ := hM
  obtain rfl : c1 = [.int .i32 part.1] := h1
  obtain ⟨u, rfl, hu⟩ := h2
  obtain ⟨x, y, rfl⟩ := Kd.R_slice hu
  exact ⟨ga, o, x, y, part, rfl, hp, hcc 0 _ rfl, hcc 1 _ rfl, Kd.R_mono hu (fun _ _ => trivial)⟩
theorem below_row {α : Type} {d : Kd α} {e : Nat} {ok : Nat → Prop} {v : Value} {xs : List α} {w0 w w' : World} (hb : Below w0.heap.size w0 w) (hR : d.R e w w0.heap.size ok v xs) (hg : w.grownBy w' v.ownBlock) : Below w0.heap.size w0 w' :=
  ⟨hg.os.trans hb.os, hg.tape.trans hb.tape, hg.output.trans hb.output, Nat.le_trans hb.size hg.size, fun i hi => (hg.block i (Nat.lt_of_lt_of_le hi hb.size) (fun e => by
    have := Kd.R_base hR i e.symm
    omega)).trans (hb.block i hi)⟩
theorem load_row_event {P : Program} {ops : Array Oper} {rest : List Oper} {o : Oper} {a : Act} {Q : Exit → Act → World → Prop} {W : World} (hgd : o.guard = none) {N : Tmp} (_hd : o.dst = some N) (ty : TypeId) (x : Operand) (g t : Nat) (cs : Array Value) (d : TypeDesc)
    (hop : o.op = .load ty x) (hx : a.eval x = .pointer (some ⟨g, 0, none⟩)) (hb : Box W g t cs) (hu : P.underlying ty = some d) (hd : (match d with | .struct _ | .array _ _ => true | _ => false) = true) (hi : (P.info? ty).map (·.size) = some cs.size)
    (h : wpList P ops Q rest (a.put o.dst (.agg cs)) W) : wpList P ops Q (o :: rest) a W := by
  have hl := run_loadVar_row (P := P) W g t ty cs (0, 0) d hb hu hd hi
  refine Kd.event_run hgd (v := .agg cs) (w1 := W) ?_ h
  simp [execOp, hop, hx, asAddr, hl, Instr.loadAt, Instr.sureAddr]
theorem setCells18 (w : World) (g : Nat) (v0 v1 v2 v3 v4 v5 v6 v7 v8 v9 v10 v11 v12 v13 v14 v15 v16 v17 : Value) : w.setCells g 0 [v0, v1, v2, v3, v4, v5, v6, v7, v8, v9, v10, v11, v12, v13, v14, v15, v16, v17] = ((((((((((((((((((w.setCell ⟨g, 0, none⟩ v0).setCell ⟨g, 1, none⟩ v1).setCell ⟨g, 2, none⟩ v2).setCell ⟨g, 3, none⟩ v3).setCell ⟨g, 4, none⟩ v4).setCell ⟨g, 5, none⟩ v5).setCell ⟨g, 6, none⟩ v6).setCell ⟨g, 7, none⟩ v7).setCell ⟨g, 8, none⟩ v8).setCell ⟨g, 9, none⟩ v9).setCell ⟨g, 10, none⟩ v10).setCell ⟨g, 11, none⟩ v11).setCell ⟨g, 12, none⟩ v12).setCell ⟨g, 13, none⟩ v13).setCell ⟨g, 14, none⟩ v14).setCell ⟨g, 15, none⟩ v15).setCell ⟨g, 16, none⟩ v16).setCell ⟨g, 17, none⟩ v17) := by
  simp only [World.setCells, Nat.zero_add, Nat.reduceAdd]
theorem size47 : (Try.prog.info? 47).map (·.size) = some 18 := by kernel_rfl
theorem below_from {w w1 w2 : World} (h : Below w.heap.size w w1) (h2 : Below w1.heap.size w1 w2) : Below w.heap.size w w2 := below_step h h2
theorem below_low {b : Nat} {w : World} (h : Below w.heap.size w w) (hb : b ≤ w.heap.size) : Below b w w := ⟨h.os, h.tape, h.output, h.size, fun i hi => rfl⟩
/-- What stays while one credential is told. -/
structure Going (w : World) (gc h1 h2 h3 : Nat) (cs : Array Value) (v5 v6 vc n2 n5 : Value) (names : List ByteArray) (gs : List Nat) (r : List PCred) (done : List S47) (c : PCred) (g s_ : Nat) (w' : World) : Prop where
  st : Still w.heap.size gc w.heap.size h1 h3 cs v5 v6 names gs r w'
  b2 : Box w' h2 38 #[vc]
  rc : k47.R 47 w' w.heap.size (fun b => b < s_) vc done
  bl : Below w.heap.size w w'
  ca : CredAt w.heap.size w' g c
  q2 : Kd.string.R 9 w' w.heap.size (fun _ => True) n2 c.client.names
  q5 : Kd.string.R 9 w' w.heap.size (fun _ => True) n5 c.server.names
  ge : w.heap.size ≤ s_
section
variable {w : World} {gc h1 h2 h3 : Nat} {cs : Array Value} {v5 v6 vc n2 n5 : Value} {names : List ByteArray} {gs : List Nat} {r : List PCred} {done : List S47} {c : PCred} {g s_ : Nat} {w1 w2 : World}
theorem Going.below (h : Going w gc h1 h2 h3 cs v5 v6 vc n2 n5 names gs r done c g s_ w1) (hb : Below w1.heap.size w1 w2) : Going w gc h1 h2 h3 cs v5 v6 vc n2 n5 names gs r done c g s_ w2 :=
  ⟨h.st.kp (Kp.below _ hb), h.b2.below hb, Kd.R_below h.rc hb, below_step h.bl hb, CredAt.stable [47] _ _ _ (by decide) _ _ h.ca (Kp.below _ hb), Kd.R_below h.q2 hb, Kd.R_below h.q5 hb, h.ge⟩
theorem Going.set {cells : Array Value} (h : Going w gc h1 h2 h3 cs v5 v6 vc n2 n5 names gs r done c g s_ w1) (hb : Box w1 s_ 47 cells) (i : Nat) (v : Value) : Going w gc h1 h2 h3 cs v5 v6 vc n2 n5 names gs r done c g s_ (w1.setCell ⟨s_, i, none⟩ v) :=
  ⟨h.st.kp (Kp.set hb (by decide) i v), h.b2.far (hb.ne h.b2 (by decide)).symm i v, Kd.R_far h.rc (fun k hk => Nat.ne_of_lt hk) v, below_set h.bl h.ge, CredAt.stable [47] _ _ _ (by decide) _ _ h.ca (Kp.set hb (by decide) i v), row_set h.q2 hb (by decide) i v, row_set h.q5 hb (by decide) i v, h.ge⟩
theorem Going.row {v : Value} {xs : List S101} {ok : Nat → Prop} (h : Going w gc h1 h2 h3 cs v5 v6 vc n2 n5 names gs r done c g s_ w1) (hR : k101.R 101 w1 s_ ok v xs) (hg : w1.grownBy w2 v.ownBlock) : Going w gc h1 h2 h3 cs v5 v6 vc n2 n5 names gs r done c g s_ w2 := by
  have hk : Kp [47, 101, 38] w1 w2 := Kp.row hR (by decide) hg
  have hk2 : Kp [101] w1 w2 := Kp.row hR (by decide) hg
  refine ⟨h.st.kp hk, Stable.box [101] _ _ _ (by decide) _ _ h.b2 hk2, Kd.R_grown h.rc hg (fun k hk e => ?_), ?_, CredAt.stable [101] _ _ _ (by decide) _ _ h.ca hk2, Stable.row [101] _ _ _ _ _ (by decide) _ _ h.q2 hk2, Stable.row [101] _ _ _ _ _ (by decide) _ _ h.q5 hk2, h.ge⟩
  · have := Kd.R_base hR k e.symm
    omega
  · have hb := h.bl
    exact ⟨hg.os.trans hb.os, hg.tape.trans hb.tape, hg.output.trans hb.output, Nat.le_trans hb.size hg.size, fun i hi => (hg.block i (Nat.lt_of_lt_of_le hi hb.size) (fun e => by
      have := Kd.R_base hR i e.symm
      have := h.ge
      omega)).trans (hb.block i hi)⟩
end
theorem region_by {P : Program} {id : Nat} {ops ops' : Array Oper} {Q : Exit → Act → World → Prop} {a : Act} {w : World} (h : ops' = ops) (hw : (Code.region id ops' true).wp P Q a w) : (Code.region id ops true).wp P Q a w := h ▸ hw
def cacheRead8.T8 : Bool × List (List Nat × List Nat) := (true, [([], []), ([0], [0]), ([1], [1]), ([2], [2]), ([3], [3]), ([], []), ([5], [5]), ([6], [6]), ([7], [7]), ([8], [8]), ([4, 9], [4, 9]), ([], []), ([11], [11]), ([12], [12]), ([13], [13]), ([14], [14]), ([], []), ([16], [16]), ([17], [17]), ([18], [18]), ([19], [19]), ([15, 20, 10], [15, 20]), ([], []), ([22], [22]), ([23], [23]), ([24], [24]), ([25], [25]), ([], []), ([27], [27]), ([28], [28]), ([29], [29]), ([30], [30]), ([31], [31]), ([], []), ([33], [33]), ([34], [34]), ([35], [35]), ([36, 21], [36]), ([], []), ([38], [38]), ([39], [39]), ([40], [40]), ([41, 37], [41]), ([], []), ([43], [43]), ([44], [44]), ([45], [45]), ([46, 42], [46]), ([], []), ([48], [48]), ([49], [49]), ([50], [50]), ([51, 47], [51]), ([], []), ([53], [53]), ([54], [54]), ([55], [55]), ([], []), ([57], [57]), ([58], [58]), ([59], [59]), ([60], [60]), ([], []), ([62], [62]), ([63], [63]), ([64], [64]), ([65], [65]), ([10, 21, 26, 32, 37, 42, 47, 52, 56, 61, 66], [10, 21, 26, 32, 37, 42, 47, 52, 56, 61, 66]), ([], []), ([68, 67, 52, 0, 1, 2, 3, 4, 5, 6, 7, 8, 9, 10, 11, 12, 13, 14, 15, 16, 17, 18, 19, 20, 21, 22, 23, 24, 25, 26, 27, 28, 29, 30, 31, 32, 33, 34, 35, 36, 37, 38, 39, 40, 41, 42, 43, 44, 45, 46, 47, 48, 49, 50, 51, 52, 53, 54, 55, 56, 57, 58, 59, 60, 61, 62, 63, 64, 65, 66, 67, 68], [67, 68])])
def cacheRead8.B8 : List Nat := [0, 1, 3, 7, 15, 0, 32, 96, 224, 480, 1023, 0, 2048, 6144, 14336, 30720, 0, 65536, 196608, 458752, 983040, 2097151, 0, 4194304, 12582912, 29360128, 62914560, 0, 134217728, 402653184, 939524096, 2013265920, 4160749568, 0, 8589934592, 25769803776, 60129542144, 128853213183, 0, 274877906944, 824633720832, 1924145348608, 4389460770815, 0, 8796093022208, 26388279066624, 61572651155456, 140728902615039, 0, 281474976710656, 844424930131968, 1970324836974592, 4503591041630207, 0, 9007199254740992, 27021597764222976, 63050394783186944, 0, 144115188075855872, 432345564227567616, 1008806316530991104, 2161727821137838080, 0, 4611686018427387904, 13835058055282163712, 32281802128991715328, 69175290276410818560, 147573952589676412927, 0, 590295810358705651711]
theorem cacheRead8.tab8 : rtab .any (opsOf Try.f15 8) = cacheRead8.T8 := by kernel_rfl
theorem cacheRead8.bits8 : waitsOk cacheRead8.T8.2 cacheRead8.B8 = true := by kernel_rfl
set_option maxHeartbeats 40000000 in
theorem region8 (base g : Nat) (c : PCred) (ik : Bool) (X2 X5 X7 X17 X19 X20 X21 X22 : Option Addr) (z2 z5 z7 z17 z19 z20 z21 z22 : Nat) (wr : World) (ds : List Deferred) (Q : Exit → Act → World → Prop) (u0 u1 u2 u3 u4 u5 u6 u7 u9 u10 u11 u12 u13 u14 u15 u16 u17 u18 u19 u20 u21 u22 u23 u24 u25 u26 u27 u28 u29 u30 u31 u32 u33 u34 u35 u36 u37 u38 u39 u40 u41 u42 u43 u44 u45 u46 u47 u48 u49 u50 u51 u52 u53 u54 u55 u56 u57 u58 u59 u60 u61 u62 u63 u64 u65 u66 u67 u68 u69 u70 u71 u72 u73 u74 u75 u76 u77 u78 u79 u80 u81 u82 u83 u84 u85 u86 u87 u88 u89 u90 u91 u92 u93 u94 u95 u96 u97 u98 u99 u100 u101 u102 u103 u104 u105 u106 u107 u108 u109 u110 u111 u112 u113 u114 u115 u116 u117 u118 u119 u120 u121 u122 u123 u124 u125 u126 u127 u128 u129 u130 u131 u132 u133 u134 u135 u136 u137 u138 u139 u140 u141 u142 u143 u144 u145 u146 u147 u148 u149 u150 u151 u152 u153 u154 u155 u156 u157 u158 u159 u160 u161 u162 u163 u164 u165 u166 u167 u168 u169 u170 u171 u172 u173 u174 u175 u176 u177 u178 u179 u180 u181 : Value)
    (hbx : Box wr g 96 #[.string c.client.realm, .int .i32 c.client.kind, .slice X2 c.client.names.length z2, .string c.server.realm, .int .i32 c.server.kind, .slice X5 c.server.names.length z5, .int .i32 c.kt, .slice X7 c.key.length z7, .int .i64 c.t1, .bool true, .int .i64 c.t2, .bool true, .int .i64 c.t3, .bool true, .int .i64 c.t4, .bool true, .bool ik, .slice X17 c.fl.length z17, .int .i64 32, .slice X19 c.ad.length z19, .slice X20 c.au.length z20, .slice X21 c.tk.length z21, .slice X22 c.sc.length z22])
    (q3 : (Kd.int .u8).R 5 wr base (fun _ => True) (.slice X7 c.key.length z7) c.key) (q7 : (Kd.int .u8).R 5 wr base (fun _ => True) (.slice X21 c.tk.length z21) c.tk) (q8 : (Kd.int .u8).R 5 wr base (fun _ => True) (.slice X22 c.sc.length z22) c.sc)
    (hQ : ∀ (s_ : Nat) (wz : World) (x33 x34 x35 x36 x37 x38 x39 x40 x41 x42 x43 x44 x45 x46 x47 x48 x49 x50 x51 x52 x53 x54 x55 x56 x57 x58 x59 x60 x61 x62 x63 x64 x65 x66 x67 x68 x69 x70 x71 x72 x73 x74 x75 x76 x77 x78 x79 x80 x81 x82 x83 x84 x85 x86 x87 x88 x89 x90 x91 x92 x93 x94 x95 x96 x97 x98 x99 x100 : Value), Below wr.heap.size wr wz → Box wz s_ 47 #[.string c.client.realm, .slice X2 c.client.names.length z2, .int .i32 c.client.kind, .string c.server.realm, .slice X5 c.server.names.length z5, .int .i32 c.server.kind, .int .i32 c.kt, .string (strOfNums c.key), .int .i64 c.t1, .int .i64 c.t2, .int .i64 c.t3, .int .i64 c.t4, .bool ik, .int .u32 0, .slice none 0 0, .slice none 0 0, .string (strOfNums c.tk), .string (strOfNums c.sc)] → wr.heap.size ≤ s_ → Q .normal { tmps := #[u0, u1, u2, u3, u4, u5, u6, u7, .pointer (some ⟨g, 0, none⟩), .pointer (some ⟨s_, 0, none⟩), u10, u11, u12, u13, u14, u15, u16, u17, u18, u19, u20, u21, u22, u23, u24, u25, u26, u27, u28, u29, u30, u31, u32, x33, x34, x35, x36, x37, x38, x39, x40, x41, x42, x43, x44, x45, x46, x47, x48, x49, x50, x51, x52, x53, x54, x55, x56, x57, x58, x59, x60, x61, x62, x63, x64, x65, x66, x67, x68, x69, x70, x71, x72, x73, x74, x75, x76, x77, x78, x79, x80, x81, x82, x83, x84, x85, x86, x87, x88, x89, x90, x91, x92, x93, x94, x95, x96, x97, x98, x99, x100, u101, u102, u103, u104, u105, u106, u107, u108, u109, u110, u111, u112, u113, u114, u115, u116, u117, u118, u119, u120, u121, u122, u123, u124, u125, u126, u127, u128, u129, u130, u131, u132, u133, u134, u135, u136, u137, u138, u139, u140, u141, u142, u143, u144, u145, u146, u147, u148, u149, u150, u151, u152, u153, u154, u155, u156, u157, u158, u159, u160, u161, u162, u163, u164, u165, u166, u167, u168, u169, u170, u171, u172, u173, u174, u175, u176, u177, u178, u179, u180, u181], defers := ds } wz) :
    (Code.region 8 (opsOf Try.f15 8) true).wp Try.prog Q { tmps := #[u0, u1, u2, u3, u4, u5, u6, u7, .pointer (some ⟨g, 0, none⟩), u9, u10, u11, u12, u13, u14, u15, u16, u17, u18, u19, u20, u21, u22, u23, u24, u25, u26, u27, u28, u29, u30, u31, u32, u33, u34, u35, u36, u37, u38, u39, u40, u41, u42, u43, u44, u45, u46, u47, u48, u49, u50, u51, u52, u53, u54, u55, u56, u57, u58, u59, u60, u61, u62, u63, u64, u65, u66, u67, u68, u69, u70, u71, u72, u73, u74, u75, u76, u77, u78, u79, u80, u81, u82, u83, u84, u85, u86, u87, u88, u89, u90, u91, u92, u93, u94, u95, u96, u97, u98, u99, u100, u101, u102, u103, u104, u105, u106, u107, u108, u109, u110, u111, u112, u113, u114, u115, u116, u117, u118, u119, u120, u121, u122, u123, u124, u125, u126, u127, u128, u129, u130, u131, u132, u133, u134, u135, u136, u137, u138, u139, u140, u141, u142, u143, u144, u145, u146, u147, u148, u149, u150, u151, u152, u153, u154, u155, u156, u157, u158, u159, u160, u161, u162, u163, u164, u165, u166, u167, u168, u169, u170, u171, u172, u173, u174, u175, u176, u177, u178, u179, u180, u181], defers := ds } wr := by
  conv => enter [2, 2]; whnf
  have HQ8 := Aside0.mk hQ
  clear hQ
  have hu37 := Try.underlying37
  have hu74 := Try.underlying74
  have hu76 := Try.underlying76
  have hu88 := Try.underlying88
  have hu90 := Try.underlying90
  have hu92 := Try.underlying92
  have hu96 := Try.underlying96
  have hu47 := Try.underlying47
  obtain ⟨wx, hwx⟩ : ∃ wx, wx = wr.drew := ⟨_, rfl⟩
  have hbd : Below wr.heap.size wr wx := hwx ▸ below_drew (Below.refl _ _)
  have hge : wr.heap.size ≤ wx.heap.size := hbd.size
  have HBD := Aside0.mk hbd
  have HGE := Aside0.mk hge
  have HBX := Aside0.mk (hbx.below hbd)
  have HQQ := Aside0.mk (show (Kd.int .u8).R 5 wx base (fun _ => True) (.slice X7 c.key.length z7) c.key ∧ (Kd.int .u8).R 5 wx base (fun _ => True) (.slice X21 c.tk.length z21) c.tk ∧ (Kd.int .u8).R 5 wx base (fun _ => True) (.slice X22 c.sc.length z22) c.sc from ⟨Kd.R_below q3 hbd, Kd.R_below q7 hbd, Kd.R_below q8 hbd⟩)
  clear hge
  have HSX : Aside0 (∀ w', Below wx.heap.size wx w' → (w'.cell? ⟨g, 0, none⟩ = some (.string c.client.realm)) ∧ (w'.cell? ⟨g, 1, none⟩ = some (.int .i32 c.client.kind)) ∧ (w'.cell? ⟨g, 2, none⟩ = some (.slice X2 c.client.names.length z2)) ∧ (w'.cell? ⟨g, 3, none⟩ = some (.string c.server.realm)) ∧ (w'.cell? ⟨g, 4, none⟩ = some (.int .i32 c.server.kind)) ∧ (w'.cell? ⟨g, 5, none⟩ = some (.slice X5 c.server.names.length z5)) ∧ (w'.cell? ⟨g, 6, none⟩ = some (.int .i32 c.kt)) ∧ (w'.cell? ⟨g, 7, none⟩ = some (.slice X7 c.key.length z7)) ∧ (w'.cell? ⟨g, 8, none⟩ = some (.int .i64 c.t1)) ∧ (w'.cell? ⟨g, 9, none⟩ = some (.bool true)) ∧ (w'.cell? ⟨g, 10, none⟩ = some (.int .i64 c.t2)) ∧ (w'.cell? ⟨g, 11, none⟩ = some (.bool true)) ∧ (w'.cell? ⟨g, 12, none⟩ = some (.int .i64 c.t3)) ∧ (w'.cell? ⟨g, 13, none⟩ = some (.bool true)) ∧ (w'.cell? ⟨g, 14, none⟩ = some (.int .i64 c.t4)) ∧ (w'.cell? ⟨g, 15, none⟩ = some (.bool true)) ∧ (w'.cell? ⟨g, 16, none⟩ = some (.bool ik)) ∧ (w'.cell? ⟨g, 21, none⟩ = some (.slice X21 c.tk.length z21)) ∧ (w'.cell? ⟨g, 22, none⟩ = some (.slice X22 c.sc.length z22)) ∧ ((convert 83 9 (.slice X7 c.key.length z7)).run Try.prog w' = .ok (.string (strOfNums c.key)) w') ∧ ((convert 83 9 (.slice X21 c.tk.length z21)).run Try.prog w' = .ok (.string (strOfNums c.tk)) w') ∧ ((convert 83 9 (.slice X22 c.sc.length z22)).run Try.prog w' = .ok (.string (strOfNums c.sc)) w')) := ⟨fun w' hb_ => ⟨(HBX.out.below hb_).cell 0 _ rfl, (HBX.out.below hb_).cell 1 _ rfl, (HBX.out.below hb_).cell 2 _ rfl, (HBX.out.below hb_).cell 3 _ rfl, (HBX.out.below hb_).cell 4 _ rfl, (HBX.out.below hb_).cell 5 _ rfl, (HBX.out.below hb_).cell 6 _ rfl, (HBX.out.below hb_).cell 7 _ rfl, (HBX.out.below hb_).cell 8 _ rfl, (HBX.out.below hb_).cell 9 _ rfl, (HBX.out.below hb_).cell 10 _ rfl, (HBX.out.below hb_).cell 11 _ rfl, (HBX.out.below hb_).cell 12 _ rfl, (HBX.out.below hb_).cell 13 _ rfl, (HBX.out.below hb_).cell 14 _ rfl, (HBX.out.below hb_).cell 15 _ rfl, (HBX.out.below hb_).cell 16 _ rfl, (HBX.out.below hb_).cell 21 _ rfl, (HBX.out.below hb_).cell 22 _ rfl, own_string Try.underlying83 Try.underlying5 Try.underlying9 (Kd.own_of_R (Kd.R_below HQQ.out.1 hb_)), own_string Try.underlying83 Try.underlying5 Try.underlying9 (Kd.own_of_R (Kd.R_below HQQ.out.2.1 hb_)), own_string Try.underlying83 Try.underlying5 Try.underlying9 (Kd.own_of_R (Kd.R_below HQQ.out.2.2 hb_))⟩⟩
  have hbn := Below.refl wx.heap.size wx
  clear hbx q3 q7 q8
  refine wp_region_noPanic ?_
  refine start_ (n := 70) (S := fun w' => w'.cell? ⟨g, 0, none⟩ = some (.string c.client.realm) ∧ w'.cell? ⟨g, 1, none⟩ = some (.int .i32 c.client.kind) ∧ w'.cell? ⟨g, 2, none⟩ = some (.slice X2 c.client.names.length z2) ∧ w'.cell? ⟨g, 3, none⟩ = some (.string c.server.realm) ∧ w'.cell? ⟨g, 4, none⟩ = some (.int .i32 c.server.kind) ∧ w'.cell? ⟨g, 5, none⟩ = some (.slice X5 c.server.names.length z5) ∧ w'.cell? ⟨g, 6, none⟩ = some (.int .i32 c.kt) ∧ w'.cell? ⟨g, 7, none⟩ = some (.slice X7 c.key.length z7) ∧ w'.cell? ⟨g, 8, none⟩ = some (.int .i64 c.t1) ∧ w'.cell? ⟨g, 9, none⟩ = some (.bool true) ∧ w'.cell? ⟨g, 10, none⟩ = some (.int .i64 c.t2) ∧ w'.cell? ⟨g, 11, none⟩ = some (.bool true) ∧ w'.cell? ⟨g, 12, none⟩ = some (.int .i64 c.t3) ∧ w'.cell? ⟨g, 13, none⟩ = some (.bool true) ∧ w'.cell? ⟨g, 14, none⟩ = some (.int .i64 c.t4) ∧ w'.cell? ⟨g, 15, none⟩ = some (.bool true) ∧ w'.cell? ⟨g, 16, none⟩ = some (.bool ik) ∧ w'.cell? ⟨g, 21, none⟩ = some (.slice X21 c.tk.length z21) ∧ w'.cell? ⟨g, 22, none⟩ = some (.slice X22 c.sc.length z22) ∧ (convert 83 9 (.slice X7 c.key.length z7)).run Try.prog w' = .ok (.string (strOfNums c.key)) w' ∧ (convert 83 9 (.slice X21 c.tk.length z21)).run Try.prog w' = .ok (.string (strOfNums c.tk)) w' ∧ (convert 83 9 (.slice X22 c.sc.length z22)).run Try.prog w' = .ok (.string (strOfNums c.sc)) w') (ds := [69]) #[false, false, false, false, false, false, false, false, false, false, false, false, false, false, false, false, false, false, false, false, false, false, false, false, false, false, false, false, false, false, false, false, false, false, false, false, false, false, false, false, false, false, false, false, false, false, false, false, false, false, false, false, false, false, false, false, false, false, false, false, false, false, false, false, false, false, false, false, false, false] (by kernel_rfl) rfl rfl ((hwx ▸ HSX.out _ (Below.refl _ _))) (fun hHeld => ?_)
  refine with_tabW cacheRead8.tab8 cacheRead8.bits8 (fun HT_ HW_ => ?_)
  rw [← hwx] at hHeld ⊢
  clear hwx hbd
  refine pure_ (i := 0) (N := some 33) (v := ?_) (a' := ?_) #[true, false, false, false, false, false, false, false, false, false, false, false, false, false, false, false, false, false, false, false, false, false, false, false, false, false, false, false, false, false, false, false, false, false, false, false, false, false, false, false, false, false, false, false, false, false, false, false, false, false, false, false, false, false, false, false, false, false, false, false, false, false, false, false, false, false, false, false, false, false] rfl rfl (any_of HT_.out (by kernel_rfl)) (fun _ _ _ h => h) (Or.inl ⟨by rfl, ?_⟩) ?_ ?_
  rotate_left
  · intro w'
    go_simp
    with_reducible rfl
  rotate_left
  · simp only [Act.put, List.setIfInBounds_toArray, List.set_cons_zero, List.set_cons_succ, i64_w, i32_w]
    rfl
  refine pure_ (i := 1) (N := some 34) (v := ?_) (a' := ?_) #[true, true, false, false, false, false, false, false, false, false, false, false, false, false, false, false, false, false, false, false, false, false, false, false, false, false, false, false, false, false, false, false, false, false, false, false, false, false, false, false, false, false, false, false, false, false, false, false, false, false, false, false, false, false, false, false, false, false, false, false, false, false, false, false, false, false, false, false, false, false] rfl rfl (any_of HT_.out (by kernel_rfl)) (fun _ _ _ h => h) (Or.inl ⟨by rfl, ?_⟩) ?_ ?_
  rotate_left
  · intro w'
    go_simp
    with_reducible rfl
  rotate_left
  · simp only [Act.put, List.setIfInBounds_toArray, List.set_cons_zero, List.set_cons_succ, i64_w, i32_w]
    rfl
  refine pure_ (i := 2) (N := some 35) (v := ?_) (a' := ?_) #[true, true, true, false, false, false, false, false, false, false, false, false, false, false, false, false, false, false, false, false, false, false, false, false, false, false, false, false, false, false, false, false, false, false, false, false, false, false, false, false, false, false, false, false, false, false, false, false, false, false, false, false, false, false, false, false, false, false, false, false, false, false, false, false, false, false, false, false, false, false] rfl rfl (any_of HT_.out (by kernel_rfl)) (fun _ _ _ h => h) (Or.inl ⟨by rfl, ?_⟩) ?_ ?_
  rotate_left
  · intro w'
    go_simp
    with_reducible rfl
  rotate_left
  · simp only [Act.put, List.setIfInBounds_toArray, List.set_cons_zero, List.set_cons_succ, i64_w, i32_w]
    rfl
  refine pure_ (i := 3) (N := some 36) (v := ?_) (a' := ?_) #[true, true, true, true, false, false, false, false, false, false, false, false, false, false, false, false, false, false, false, false, false, false, false, false, false, false, false, false, false, false, false, false, false, false, false, false, false, false, false, false, false, false, false, false, false, false, false, false, false, false, false, false, false, false, false, false, false, false, false, false, false, false, false, false, false, false, false, false, false, false] rfl rfl (any_of HT_.out (by kernel_rfl)) (fun _ _ _ h => h) (Or.inl ⟨by rfl, ?_⟩) ?_ ?_
  rotate_left
  · intro w'
    go_simp
    with_reducible rfl
  rotate_left
  · simp only [Act.put, List.setIfInBounds_toArray, List.set_cons_zero, List.set_cons_succ, i64_w, i32_w]
    rfl
  refine pure_ (i := 5) (N := some 38) (v := ?_) (a' := ?_) #[true, true, true, true, false, true, false, false, false, false, false, false, false, false, false, false, false, false, false, false, false, false, false, false, false, false, false, false, false, false, false, false, false, false, false, false, false, false, false, false, false, false, false, false, false, false, false, false, false, false, false, false, false, false, false, false, false, false, false, false, false, false, false, false, false, false, false, false, false, false] rfl rfl (any_of HT_.out (by kernel_rfl)) (fun _ _ _ h => h) (Or.inl ⟨by rfl, ?_⟩) ?_ ?_
  rotate_left
  · intro w'
    go_simp
    with_reducible rfl
  rotate_left
  · simp only [Act.put, List.setIfInBounds_toArray, List.set_cons_zero, List.set_cons_succ, i64_w, i32_w]
    rfl
  refine pure_ (i := 6) (N := some 39) (v := ?_) (a' := ?_) #[true, true, true, true, false, true, true, false, false, false, false, false, false, false, false, false, false, false, false, false, false, false, false, false, false, false, false, false, false, false, false, false, false, false, false, false, false, false, false, false, false, false, false, false, false, false, false, false, false, false, false, false, false, false, false, false, false, false, false, false, false, false, false, false, false, false, false, false, false, false] rfl rfl (any_of HT_.out (by kernel_rfl)) (fun _ _ _ h => h) (Or.inl ⟨by rfl, ?_⟩) ?_ ?_
  rotate_left
  · intro w'
    go_simp
    with_reducible rfl
  rotate_left
  · simp only [Act.put, List.setIfInBounds_toArray, List.set_cons_zero, List.set_cons_succ, i64_w, i32_w]
    rfl
  refine pure_ (i := 7) (N := some 40) (v := ?_) (a' := ?_) #[true, true, true, true, false, true, true, true, false, false, false, false, false, false, false, false, false, false, false, false, false, false, false, false, false, false, false, false, false, false, false, false, false, false, false, false, false, false, false, false, false, false, false, false, false, false, false, false, false, false, false, false, false, false, false, false, false, false, false, false, false, false, false, false, false, false, false, false, false, false] rfl rfl (any_of HT_.out (by kernel_rfl)) (fun _ _ _ h => h) (Or.inl ⟨by rfl, ?_⟩) ?_ ?_
  rotate_left
  · intro w'
    go_simp
    with_reducible rfl
  rotate_left
  · simp only [Act.put, List.setIfInBounds_toArray, List.set_cons_zero, List.set_cons_succ, i64_w, i32_w]
    rfl
  refine pure_ (i := 8) (N := some 41) (v := ?_) (a' := ?_) #[true, true, true, true, false, true, true, true, true, false, false, false, false, false, false, false, false, false, false, false, false, false, false, false, false, false, false, false, false, false, false, false, false, false, false, false, false, false, false, false, false, false, false, false, false, false, false, false, false, false, false, false, false, false, false, false, false, false, false, false, false, false, false, false, false, false, false, false, false, false] rfl rfl (any_of HT_.out (by kernel_rfl)) (fun _ _ _ h => h) (Or.inl ⟨by rfl, ?_⟩) ?_ ?_
  rotate_left
  · intro w'
    go_simp
    with_reducible rfl
  rotate_left
  · simp only [Act.put, List.setIfInBounds_toArray, List.set_cons_zero, List.set_cons_succ, i64_w, i32_w]
    rfl
  refine pure_ (i := 11) (N := some 44) (v := ?_) (a' := ?_) #[true, true, true, true, false, true, true, true, true, false, false, true, false, false, false, false, false, false, false, false, false, false, false, false, false, false, false, false, false, false, false, false, false, false, false, false, false, false, false, false, false, false, false, false, false, false, false, false, false, false, false, false, false, false, false, false, false, false, false, false, false, false, false, false, false, false, false, false, false, false] rfl rfl (any_of HT_.out (by kernel_rfl)) (fun _ _ _ h => h) (Or.inl ⟨by rfl, ?_⟩) ?_ ?_
  rotate_left
  · intro w'
    go_simp
    with_reducible rfl
  rotate_left
  · simp only [Act.put, List.setIfInBounds_toArray, List.set_cons_zero, List.set_cons_succ, i64_w, i32_w]
    rfl
  refine pure_ (i := 12) (N := some 45) (v := ?_) (a' := ?_) #[true, true, true, true, false, true, true, true, true, false, false, true, true, false, false, false, false, false, false, false, false, false, false, false, false, false, false, false, false, false, false, false, false, false, false, false, false, false, false, false, false, false, false, false, false, false, false, false, false, false, false, false, false, false, false, false, false, false, false, false, false, false, false, false, false, false, false, false, false, false] rfl rfl (any_of HT_.out (by kernel_rfl)) (fun _ _ _ h => h) (Or.inl ⟨by rfl, ?_⟩) ?_ ?_
  rotate_left
  · intro w'
    go_simp
    with_reducible rfl
  rotate_left
  · simp only [Act.put, List.setIfInBounds_toArray, List.set_cons_zero, List.set_cons_succ, i64_w, i32_w]
    rfl
  refine pure_ (i := 13) (N := some 46) (v := ?_) (a' := ?_) #[true, true, true, true, false, true, true, true, true, false, false, true, true, true, false, false, false, false, false, false, false, false, false, false, false, false, false, false, false, false, false, false, false, false, false, false, false, false, false, false, false, false, false, false, false, false, false, false, false, false, false, false, false, false, false, false, false, false, false, false, false, false, false, false, false, false, false, false, false, false] rfl rfl (any_of HT_.out (by kernel_rfl)) (fun _ _ _ h => h) (Or.inl ⟨by rfl, ?_⟩) ?_ ?_
  rotate_left
  · intro w'
    go_simp
    with_reducible rfl
  rotate_left
  · simp only [Act.put, List.setIfInBounds_toArray, List.set_cons_zero, List.set_cons_succ, i64_w, i32_w]
    rfl
  refine pure_ (i := 14) (N := some 47) (v := ?_) (a' := ?_) #[true, true, true, true, false, true, true, true, true, false, false, true, true, true, true, false, false, false, false, false, false, false, false, false, false, false, false, false, false, false, false, false, false, false, false, false, false, false, false, false, false, false, false, false, false, false, false, false, false, false, false, false, false, false, false, false, false, false, false, false, false, false, false, false, false, false, false, false, false, false] rfl rfl (any_of HT_.out (by kernel_rfl)) (fun _ _ _ h => h) (Or.inl ⟨by rfl, ?_⟩) ?_ ?_
  rotate_left
  · intro w'
    go_simp
    with_reducible rfl
  rotate_left
  · simp only [Act.put, List.setIfInBounds_toArray, List.set_cons_zero, List.set_cons_succ, i64_w, i32_w]
    rfl
  refine pure_ (i := 16) (N := some 49) (v := ?_) (a' := ?_) #[true, true, true, true, false, true, true, true, true, false, false, true, true, true, true, false, true, false, false, false, false, false, false, false, false, false, false, false, false, false, false, false, false, false, false, false, false, false, false, false, false, false, false, false, false, false, false, false, false, false, false, false, false, false, false, false, false, false, false, false, false, false, false, false, false, false, false, false, false, false] rfl rfl (any_of HT_.out (by kernel_rfl)) (fun _ _ _ h => h) (Or.inl ⟨by rfl, ?_⟩) ?_ ?_
  rotate_left
  · intro w'
    go_simp
    with_reducible rfl
  rotate_left
  · simp only [Act.put, List.setIfInBounds_toArray, List.set_cons_zero, List.set_cons_succ, i64_w, i32_w]
    rfl
  refine pure_ (i := 17) (N := some 50) (v := ?_) (a' := ?_) #[true, true, true, true, false, true, true, true, true, false, false, true, true, true, true, false, true, true, false, false, false, false, false, false, false, false, false, false, false, false, false, false, false, false, false, false, false, false, false, false, false, false, false, false, false, false, false, false, false, false, false, false, false, false, false, false, false, false, false, false, false, false, false, false, false, false, false, false, false, false] rfl rfl (any_of HT_.out (by kernel_rfl)) (fun _ _ _ h => h) (Or.inl ⟨by rfl, ?_⟩) ?_ ?_
  rotate_left
  · intro w'
    go_simp
    with_reducible rfl
  rotate_left
  · simp only [Act.put, List.setIfInBounds_toArray, List.set_cons_zero, List.set_cons_succ, i64_w, i32_w]
    rfl
  refine pure_ (i := 18) (N := some 51) (v := ?_) (a' := ?_) #[true, true, true, true, false, true, true, true, true, false, false, true, true, true, true, false, true, true, true, false, false, false, false, false, false, false, false, false, false, false, false, false, false, false, false, false, false, false, false, false, false, false, false, false, false, false, false, false, false, false, false, false, false, false, false, false, false, false, false, false, false, false, false, false, false, false, false, false, false, false] rfl rfl (any_of HT_.out (by kernel_rfl)) (fun _ _ _ h => h) (Or.inl ⟨by rfl, ?_⟩) ?_ ?_
  rotate_left
  · intro w'
    go_simp
    with_reducible rfl
  rotate_left
  · simp only [Act.put, List.setIfInBounds_toArray, List.set_cons_zero, List.set_cons_succ, i64_w, i32_w]
    rfl
  refine pure_ (i := 19) (N := some 52) (v := ?_) (a' := ?_) #[true, true, true, true, false, true, true, true, true, false, false, true, true, true, true, false, true, true, true, true, false, false, false, false, false, false, false, false, false, false, false, false, false, false, false, false, false, false, false, false, false, false, false, false, false, false, false, false, false, false, false, false, false, false, false, false, false, false, false, false, false, false, false, false, false, false, false, false, false, false] rfl rfl (any_of HT_.out (by kernel_rfl)) (fun _ _ _ h => h) (Or.inl ⟨by rfl, ?_⟩) ?_ ?_
  rotate_left
  · intro w'
    go_simp
    with_reducible rfl
  rotate_left
  · simp only [Act.put, List.setIfInBounds_toArray, List.set_cons_zero, List.set_cons_succ, i64_w, i32_w]
    rfl
  refine pure_ (i := 22) (N := some 55) (v := ?_) (a' := ?_) #[true, true, true, true, false, true, true, true, true, false, false, true, true, true, true, false, true, true, true, true, false, false, true, false, false, false, false, false, false, false, false, false, false, false, false, false, false, false, false, false, false, false, false, false, false, false, false, false, false, false, false, false, false, false, false, false, false, false, false, false, false, false, false, false, false, false, false, false, false, false] rfl rfl (any_of HT_.out (by kernel_rfl)) (fun _ _ _ h => h) (Or.inl ⟨by rfl, ?_⟩) ?_ ?_
  rotate_left
  · intro w'
    go_simp
    with_reducible rfl
  rotate_left
  · simp only [Act.put, List.setIfInBounds_toArray, List.set_cons_zero, List.set_cons_succ, i64_w, i32_w]
    rfl
  refine pure_ (i := 23) (N := some 56) (v := ?_) (a' := ?_) #[true, true, true, true, false, true, true, true, true, false, false, true, true, true, true, false, true, true, true, true, false, false, true, true, false, false, false, false, false, false, false, false, false, false, false, false, false, false, false, false, false, false, false, false, false, false, false, false, false, false, false, false, false, false, false, false, false, false, false, false, false, false, false, false, false, false, false, false, false, false] rfl rfl (any_of HT_.out (by kernel_rfl)) (fun _ _ _ h => h) (Or.inl ⟨by rfl, ?_⟩) ?_ ?_
  rotate_left
  · intro w'
    go_simp
    with_reducible rfl
  rotate_left
  · simp only [Act.put, List.setIfInBounds_toArray, List.set_cons_zero, List.set_cons_succ, i64_w, i32_w]
    rfl
  refine pure_ (i := 24) (N := some 57) (v := ?_) (a' := ?_) #[true, true, true, true, false, true, true, true, true, false, false, true, true, true, true, false, true, true, true, true, false, false, true, true, true, false, false, false, false, false, false, false, false, false, false, false, false, false, false, false, false, false, false, false, false, false, false, false, false, false, false, false, false, false, false, false, false, false, false, false, false, false, false, false, false, false, false, false, false, false] rfl rfl (any_of HT_.out (by kernel_rfl)) (fun _ _ _ h => h) (Or.inl ⟨by rfl, ?_⟩) ?_ ?_
  rotate_left
  · intro w'
    go_simp
    with_reducible rfl
  rotate_left
  · simp only [Act.put, List.setIfInBounds_toArray, List.set_cons_zero, List.set_cons_succ, i64_w, i32_w]
    rfl
  refine pure_ (i := 25) (N := some 58) (v := ?_) (a' := ?_) #[true, true, true, true, false, true, true, true, true, false, false, true, true, true, true, false, true, true, true, true, false, false, true, true, true, true, false, false, false, false, false, false, false, false, false, false, false, false, false, false, false, false, false, false, false, false, false, false, false, false, false, false, false, false, false, false, false, false, false, false, false, false, false, false, false, false, false, false, false, false] rfl rfl (any_of HT_.out (by kernel_rfl)) (fun _ _ _ h => h) (Or.inl ⟨by rfl, ?_⟩) ?_ ?_
  rotate_left
  · intro w'
    go_simp
    with_reducible rfl
  rotate_left
  · simp only [Act.put, List.setIfInBounds_toArray, List.set_cons_zero, List.set_cons_succ, i64_w, i32_w]
    rfl
  refine pure_ (i := 27) (N := some 60) (v := ?_) (a' := ?_) #[true, true, true, true, false, true, true, true, true, false, false, true, true, true, true, false, true, true, true, true, false, false, true, true, true, true, false, true, false, false, false, false, false, false, false, false, false, false, false, false, false, false, false, false, false, false, false, false, false, false, false, false, false, false, false, false, false, false, false, false, false, false, false, false, false, false, false, false, false, false] rfl rfl (any_of HT_.out (by kernel_rfl)) (fun _ _ _ h => h) (Or.inl ⟨by rfl, ?_⟩) ?_ ?_
  rotate_left
  · intro w'
    go_simp
    with_reducible rfl
  rotate_left
  · simp only [Act.put, List.setIfInBounds_toArray, List.set_cons_zero, List.set_cons_succ, i64_w, i32_w]
    rfl
  refine pure_ (i := 28) (N := some 61) (v := ?_) (a' := ?_) #[true, true, true, true, false, true, true, true, true, false, false, true, true, true, true, false, true, true, true, true, false, false, true, true, true, true, false, true, true, false, false, false, false, false, false, false, false, false, false, false, false, false, false, false, false, false, false, false, false, false, false, false, false, false, false, false, false, false, false, false, false, false, false, false, false, false, false, false, false, false] rfl rfl (any_of HT_.out (by kernel_rfl)) (fun _ _ _ h => h) (Or.inl ⟨by rfl, ?_⟩) ?_ ?_
  rotate_left
  · intro w'
    go_simp
    with_reducible rfl
  rotate_left
  · simp only [Act.put, List.setIfInBounds_toArray, List.set_cons_zero, List.set_cons_succ, i64_w, i32_w]
    rfl
  refine pure_ (i := 29) (N := some 62) (v := ?_) (a' := ?_) #[true, true, true, true, false, true, true, true, true, false, false, true, true, true, true, false, true, true, true, true, false, false, true, true, true, true, false, true, true, true, false, false, false, false, false, false, false, false, false, false, false, false, false, false, false, false, false, false, false, false, false, false, false, false, false, false, false, false, false, false, false, false, false, false, false, false, false, false, false, false] rfl rfl (any_of HT_.out (by kernel_rfl)) (fun _ _ _ h => h) (Or.inl ⟨by rfl, ?_⟩) ?_ ?_
  rotate_left
  · intro w'
    go_simp
    with_reducible rfl
  rotate_left
  · simp only [Act.put, List.setIfInBounds_toArray, List.set_cons_zero, List.set_cons_succ, i64_w, i32_w]
    rfl
  refine pure_ (i := 30) (N := some 63) (v := ?_) (a' := ?_) #[true, true, true, true, false, true, true, true, true, false, false, true, true, true, true, false, true, true, true, true, false, false, true, true, true, true, false, true, true, true, true, false, false, false, false, false, false, false, false, false, false, false, false, false, false, false, false, false, false, false, false, false, false, false, false, false, false, false, false, false, false, false, false, false, false, false, false, false, false, false] rfl rfl (any_of HT_.out (by kernel_rfl)) (fun _ _ _ h => h) (Or.inl ⟨by rfl, ?_⟩) ?_ ?_
  rotate_left
  · intro w'
    go_simp
    with_reducible rfl
  rotate_left
  · simp only [Act.put, List.setIfInBounds_toArray, List.set_cons_zero, List.set_cons_succ, i64_w, i32_w]
    rfl
  refine pure_ (i := 33) (N := some 66) (v := ?_) (a' := ?_) #[true, true, true, true, false, true, true, true, true, false, false, true, true, true, true, false, true, true, true, true, false, false, true, true, true, true, false, true, true, true, true, false, false, true, false, false, false, false, false, false, false, false, false, false, false, false, false, false, false, false, false, false, false, false, false, false, false, false, false, false, false, false, false, false, false, false, false, false, false, false] rfl rfl (any_of HT_.out (by kernel_rfl)) (fun _ _ _ h => h) (Or.inl ⟨by rfl, ?_⟩) ?_ ?_
  rotate_left
  · intro w'
    go_simp
    with_reducible rfl
  rotate_left
  · simp only [Act.put, List.setIfInBounds_toArray, List.set_cons_zero, List.set_cons_succ, i64_w, i32_w]
    rfl
  refine pure_ (i := 34) (N := some 67) (v := ?_) (a' := ?_) #[true, true, true, true, false, true, true, true, true, false, false, true, true, true, true, false, true, true, true, true, false, false, true, true, true, true, false, true, true, true, true, false, false, true, true, false, false, false, false, false, false, false, false, false, false, false, false, false, false, false, false, false, false, false, false, false, false, false, false, false, false, false, false, false, false, false, false, false, false, false] rfl rfl (any_of HT_.out (by kernel_rfl)) (fun _ _ _ h => h) (Or.inl ⟨by rfl, ?_⟩) ?_ ?_
  rotate_left
  · intro w'
    go_simp
    with_reducible rfl
  rotate_left
  · simp only [Act.put, List.setIfInBounds_toArray, List.set_cons_zero, List.set_cons_succ, i64_w, i32_w]
    rfl
  refine pure_ (i := 35) (N := some 68) (v := ?_) (a' := ?_) #[true, true, true, true, false, true, true, true, true, false, false, true, true, true, true, false, true, true, true, true, false, false, true, true, true, true, false, true, true, true, true, false, false, true, true, true, false, false, false, false, false, false, false, false, false, false, false, false, false, false, false, false, false, false, false, false, false, false, false, false, false, false, false, false, false, false, false, false, false, false] rfl rfl (any_of HT_.out (by kernel_rfl)) (fun _ _ _ h => h) (Or.inl ⟨by rfl, ?_⟩) ?_ ?_
  rotate_left
  · intro w'
    go_simp
    with_reducible rfl
  rotate_left
  · simp only [Act.put, List.setIfInBounds_toArray, List.set_cons_zero, List.set_cons_succ, i64_w, i32_w]
    rfl
  refine pure_ (i := 38) (N := some 71) (v := ?_) (a' := ?_) #[true, true, true, true, false, true, true, true, true, false, false, true, true, true, true, false, true, true, true, true, false, false, true, true, true, true, false, true, true, true, true, false, false, true, true, true, false, false, true, false, false, false, false, false, false, false, false, false, false, false, false, false, false, false, false, false, false, false, false, false, false, false, false, false, false, false, false, false, false, false] rfl rfl (any_of HT_.out (by kernel_rfl)) (fun _ _ _ h => h) (Or.inl ⟨by rfl, ?_⟩) ?_ ?_
  rotate_left
  · intro w'
    go_simp
    with_reducible rfl
  rotate_left
  · simp only [Act.put, List.setIfInBounds_toArray, List.set_cons_zero, List.set_cons_succ, i64_w, i32_w]
    rfl
  refine pure_ (i := 39) (N := some 72) (v := ?_) (a' := ?_) #[true, true, true, true, false, true, true, true, true, false, false, true, true, true, true, false, true, true, true, true, false, false, true, true, true, true, false, true, true, true, true, false, false, true, true, true, false, false, true, true, false, false, false, false, false, false, false, false, false, false, false, false, false, false, false, false, false, false, false, false, false, false, false, false, false, false, false, false, false, false] rfl rfl (any_of HT_.out (by kernel_rfl)) (fun _ _ _ h => h) (Or.inl ⟨by rfl, ?_⟩) ?_ ?_
  rotate_left
  · intro w'
    go_simp
    with_reducible rfl
  rotate_left
  · simp only [Act.put, List.setIfInBounds_toArray, List.set_cons_zero, List.set_cons_succ, i64_w, i32_w]
    rfl
  refine pure_ (i := 40) (N := some 73) (v := ?_) (a' := ?_) #[true, true, true, true, false, true, true, true, true, false, false, true, true, true, true, false, true, true, true, true, false, false, true, true, true, true, false, true, true, true, true, false, false, true, true, true, false, false, true, true, true, false, false, false, false, false, false, false, false, false, false, false, false, false, false, false, false, false, false, false, false, false, false, false, false, false, false, false, false, false] rfl rfl (any_of HT_.out (by kernel_rfl)) (fun _ _ _ h => h) (Or.inl ⟨by rfl, ?_⟩) ?_ ?_
  rotate_left
  · intro w'
    go_simp
    with_reducible rfl
  rotate_left
  · simp only [Act.put, List.setIfInBounds_toArray, List.set_cons_zero, List.set_cons_succ, i64_w, i32_w]
    rfl
  refine pure_ (i := 43) (N := some 76) (v := ?_) (a' := ?_) #[true, true, true, true, false, true, true, true, true, false, false, true, true, true, true, false, true, true, true, true, false, false, true, true, true, true, false, true, true, true, true, false, false, true, true, true, false, false, true, true, true, false, false, true, false, false, false, false, false, false, false, false, false, false, false, false, false, false, false, false, false, false, false, false, false, false, false, false, false, false] rfl rfl (any_of HT_.out (by kernel_rfl)) (fun _ _ _ h => h) (Or.inl ⟨by rfl, ?_⟩) ?_ ?_
  rotate_left
  · intro w'
    go_simp
    with_reducible rfl
  rotate_left
  · simp only [Act.put, List.setIfInBounds_toArray, List.set_cons_zero, List.set_cons_succ, i64_w, i32_w]
    rfl
  refine pure_ (i := 44) (N := some 77) (v := ?_) (a' := ?_) #[true, true, true, true, false, true, true, true, true, false, false, true, true, true, true, false, true, true, true, true, false, false, true, true, true, true, false, true, true, true, true, false, false, true, true, true, false, false, true, true, true, false, false, true, true, false, false, false, false, false, false, false, false, false, false, false, false, false, false, false, false, false, false, false, false, false, false, false, false, false] rfl rfl (any_of HT_.out (by kernel_rfl)) (fun _ _ _ h => h) (Or.inl ⟨by rfl, ?_⟩) ?_ ?_
  rotate_left
  · intro w'
    go_simp
    with_reducible rfl
  rotate_left
  · simp only [Act.put, List.setIfInBounds_toArray, List.set_cons_zero, List.set_cons_succ, i64_w, i32_w]
    rfl
  refine pure_ (i := 45) (N := some 78) (v := ?_) (a' := ?_) #[true, true, true, true, false, true, true, true, true, false, false, true, true, true, true, false, true, true, true, true, false, false, true, true, true, true, false, true, true, true, true, false, false, true, true, true, false, false, true, true, true, false, false, true, true, true, false, false, false, false, false, false, false, false, false, false, false, false, false, false, false, false, false, false, false, false, false, false, false, false] rfl rfl (any_of HT_.out (by kernel_rfl)) (fun _ _ _ h => h) (Or.inl ⟨by rfl, ?_⟩) ?_ ?_
  rotate_left
  · intro w'
    go_simp
    with_reducible rfl
  rotate_left
  · simp only [Act.put, List.setIfInBounds_toArray, List.set_cons_zero, List.set_cons_succ, i64_w, i32_w]
    rfl
  refine pure_ (i := 48) (N := some 81) (v := ?_) (a' := ?_) #[true, true, true, true, false, true, true, true, true, false, false, true, true, true, true, false, true, true, true, true, false, false, true, true, true, true, false, true, true, true, true, false, false, true, true, true, false, false, true, true, true, false, false, true, true, true, false, false, true, false, false, false, false, false, false, false, false, false, false, false, false, false, false, false, false, false, false, false, false, false] rfl rfl (any_of HT_.out (by kernel_rfl)) (fun _ _ _ h => h) (Or.inl ⟨by rfl, ?_⟩) ?_ ?_
  rotate_left
  · intro w'
    go_simp
    with_reducible rfl
  rotate_left
  · simp only [Act.put, List.setIfInBounds_toArray, List.set_cons_zero, List.set_cons_succ, i64_w, i32_w]
    rfl
  refine pure_ (i := 49) (N := some 82) (v := ?_) (a' := ?_) #[true, true, true, true, false, true, true, true, true, false, false, true, true, true, true, false, true, true, true, true, false, false, true, true, true, true, false, true, true, true, true, false, false, true, true, true, false, false, true, true, true, false, false, true, true, true, false, false, true, true, false, false, false, false, false, false, false, false, false, false, false, false, false, false, false, false, false, false, false, false] rfl rfl (any_of HT_.out (by kernel_rfl)) (fun _ _ _ h => h) (Or.inl ⟨by rfl, ?_⟩) ?_ ?_
  rotate_left
  · intro w'
    go_simp
    with_reducible rfl
  rotate_left
  · simp only [Act.put, List.setIfInBounds_toArray, List.set_cons_zero, List.set_cons_succ, i64_w, i32_w]
    rfl
  refine pure_ (i := 50) (N := some 83) (v := ?_) (a' := ?_) #[true, true, true, true, false, true, true, true, true, false, false, true, true, true, true, false, true, true, true, true, false, false, true, true, true, true, false, true, true, true, true, false, false, true, true, true, false, false, true, true, true, false, false, true, true, true, false, false, true, true, true, false, false, false, false, false, false, false, false, false, false, false, false, false, false, false, false, false, false, false] rfl rfl (any_of HT_.out (by kernel_rfl)) (fun _ _ _ h => h) (Or.inl ⟨by rfl, ?_⟩) ?_ ?_
  rotate_left
  · intro w'
    go_simp
    with_reducible rfl
  rotate_left
  · simp only [Act.put, List.setIfInBounds_toArray, List.set_cons_zero, List.set_cons_succ, i64_w, i32_w]
    rfl
  refine pure_ (i := 53) (N := some 86) (v := ?_) (a' := ?_) #[true, true, true, true, false, true, true, true, true, false, false, true, true, true, true, false, true, true, true, true, false, false, true, true, true, true, false, true, true, true, true, false, false, true, true, true, false, false, true, true, true, false, false, true, true, true, false, false, true, true, true, false, false, true, false, false, false, false, false, false, false, false, false, false, false, false, false, false, false, false] rfl rfl (any_of HT_.out (by kernel_rfl)) (fun _ _ _ h => h) (Or.inl ⟨by rfl, ?_⟩) ?_ ?_
  rotate_left
  · intro w'
    go_simp
    with_reducible rfl
  rotate_left
  · simp only [Act.put, List.setIfInBounds_toArray, List.set_cons_zero, List.set_cons_succ, i64_w, i32_w]
    rfl
  refine pure_ (i := 54) (N := some 87) (v := ?_) (a' := ?_) #[true, true, true, true, false, true, true, true, true, false, false, true, true, true, true, false, true, true, true, true, false, false, true, true, true, true, false, true, true, true, true, false, false, true, true, true, false, false, true, true, true, false, false, true, true, true, false, false, true, true, true, false, false, true, true, false, false, false, false, false, false, false, false, false, false, false, false, false, false, false] rfl rfl (any_of HT_.out (by kernel_rfl)) (fun _ _ _ h => h) (Or.inl ⟨by rfl, ?_⟩) ?_ ?_
  rotate_left
  · intro w'
    go_simp
    with_reducible rfl
  rotate_left
  · simp only [Act.put, List.setIfInBounds_toArray, List.set_cons_zero, List.set_cons_succ, i64_w, i32_w]
    rfl
  refine pure_ (i := 55) (N := some 88) (v := ?_) (a' := ?_) #[true, true, true, true, false, true, true, true, true, false, false, true, true, true, true, false, true, true, true, true, false, false, true, true, true, true, false, true, true, true, true, false, false, true, true, true, false, false, true, true, true, false, false, true, true, true, false, false, true, true, true, false, false, true, true, true, false, false, false, false, false, false, false, false, false, false, false, false, false, false] rfl rfl (any_of HT_.out (by kernel_rfl)) (fun _ _ _ h => h) (Or.inl ⟨by rfl, ?_⟩) ?_ ?_
  rotate_left
  · intro w'
    go_simp
    with_reducible rfl
  rotate_left
  · simp only [Act.put, List.setIfInBounds_toArray, List.set_cons_zero, List.set_cons_succ, i64_w, i32_w]
    rfl
  refine pure_ (i := 57) (N := some 90) (v := ?_) (a' := ?_) #[true, true, true, true, false, true, true, true, true, false, false, true, true, true, true, false, true, true, true, true, false, false, true, true, true, true, false, true, true, true, true, false, false, true, true, true, false, false, true, true, true, false, false, true, true, true, false, false, true, true, true, false, false, true, true, true, false, true, false, false, false, false, false, false, false, false, false, false, false, false] rfl rfl (any_of HT_.out (by kernel_rfl)) (fun _ _ _ h => h) (Or.inl ⟨by rfl, ?_⟩) ?_ ?_
  rotate_left
  · intro w'
    go_simp
    with_reducible rfl
  rotate_left
  · simp only [Act.put, List.setIfInBounds_toArray, List.set_cons_zero, List.set_cons_succ, i64_w, i32_w]
    rfl
  refine pure_ (i := 58) (N := some 91) (v := ?_) (a' := ?_) #[true, true, true, true, false, true, true, true, true, false, false, true, true, true, true, false, true, true, true, true, false, false, true, true, true, true, false, true, true, true, true, false, false, true, true, true, false, false, true, true, true, false, false, true, true, true, false, false, true, true, true, false, false, true, true, true, false, true, true, false, false, false, false, false, false, false, false, false, false, false] rfl rfl (any_of HT_.out (by kernel_rfl)) (fun _ _ _ h => h) (Or.inl ⟨by rfl, ?_⟩) ?_ ?_
  rotate_left
  · intro w'
    go_simp
    with_reducible rfl
  rotate_left
  · simp only [Act.put, List.setIfInBounds_toArray, List.set_cons_zero, List.set_cons_succ, i64_w, i32_w]
    rfl
  refine pure_ (i := 59) (N := some 92) (v := ?_) (a' := ?_) #[true, true, true, true, false, true, true, true, true, false, false, true, true, true, true, false, true, true, true, true, false, false, true, true, true, true, false, true, true, true, true, false, false, true, true, true, false, false, true, true, true, false, false, true, true, true, false, false, true, true, true, false, false, true, true, true, false, true, true, true, false, false, false, false, false, false, false, false, false, false] rfl rfl (any_of HT_.out (by kernel_rfl)) (fun _ _ _ h => h) (Or.inl ⟨by rfl, ?_⟩) ?_ ?_
  rotate_left
  · intro w'
    go_simp
    with_reducible rfl
  rotate_left
  · simp only [Act.put, List.setIfInBounds_toArray, List.set_cons_zero, List.set_cons_succ, i64_w, i32_w]
    rfl
  refine pure_ (i := 62) (N := some 95) (v := ?_) (a' := ?_) #[true, true, true, true, false, true, true, true, true, false, false, true, true, true, true, false, true, true, true, true, false, false, true, true, true, true, false, true, true, true, true, false, false, true, true, true, false, false, true, true, true, false, false, true, true, true, false, false, true, true, true, false, false, true, true, true, false, true, true, true, false, false, true, false, false, false, false, false, false, false] rfl rfl (any_of HT_.out (by kernel_rfl)) (fun _ _ _ h => h) (Or.inl ⟨by rfl, ?_⟩) ?_ ?_
  rotate_left
  · intro w'
    go_simp
    with_reducible rfl
  rotate_left
  · simp only [Act.put, List.setIfInBounds_toArray, List.set_cons_zero, List.set_cons_succ, i64_w, i32_w]
    rfl
  refine pure_ (i := 63) (N := some 96) (v := ?_) (a' := ?_) #[true, true, true, true, false, true, true, true, true, false, false, true, true, true, true, false, true, true, true, true, false, false, true, true, true, true, false, true, true, true, true, false, false, true, true, true, false, false, true, true, true, false, false, true, true, true, false, false, true, true, true, false, false, true, true, true, false, true, true, true, false, false, true, true, false, false, false, false, false, false] rfl rfl (any_of HT_.out (by kernel_rfl)) (fun _ _ _ h => h) (Or.inl ⟨by rfl, ?_⟩) ?_ ?_
  rotate_left
  · intro w'
    go_simp
    with_reducible rfl
  rotate_left
  · simp only [Act.put, List.setIfInBounds_toArray, List.set_cons_zero, List.set_cons_succ, i64_w, i32_w]
    rfl
  refine pure_ (i := 64) (N := some 97) (v := ?_) (a' := ?_) #[true, true, true, true, false, true, true, true, true, false, false, true, true, true, true, false, true, true, true, true, false, false, true, true, true, true, false, true, true, true, true, false, false, true, true, true, false, false, true, true, true, false, false, true, true, true, false, false, true, true, true, false, false, true, true, true, false, true, true, true, false, false, true, true, true, false, false, false, false, false] rfl rfl (any_of HT_.out (by kernel_rfl)) (fun _ _ _ h => h) (Or.inl ⟨by rfl, ?_⟩) ?_ ?_
  rotate_left
  · intro w'
    go_simp
    with_reducible rfl
  rotate_left
  · simp only [Act.put, List.setIfInBounds_toArray, List.set_cons_zero, List.set_cons_succ, i64_w, i32_w]
    rfl
  refine take_ (i := 4) (N := some 37) (v := ?_) (a' := ?_) #[true, true, true, true, true, true, true, true, true, false, false, true, true, true, true, false, true, true, true, true, false, false, true, true, true, true, false, true, true, true, true, false, false, true, true, true, false, false, true, true, true, false, false, true, true, true, false, false, true, true, true, false, false, true, true, true, false, true, true, true, false, false, true, true, true, false, false, false, false, false] rfl rfl (take_ofW HT_.out HW_.out (by kernel_rfl)) (fun _ _ _ h => h) (Or.inl ⟨by rfl, ?_⟩) hHeld ?_ ?_
  rotate_left
  · rintro w' ⟨s0, s1, s2, s3, s4, s5, s6, s7, s8, s9, s10, s11, s12, s13, s14, s15, s16, s17, s18, s19, s20, s21⟩
    go_simp
    with_reducible rfl
  rotate_left
  · simp only [Act.put, List.setIfInBounds_toArray, List.set_cons_zero, List.set_cons_succ, i64_w, i32_w]
    rfl
  refine take_ (i := 9) (N := some 42) (v := ?_) (a' := ?_) #[true, true, true, true, true, true, true, true, true, true, false, true, true, true, true, false, true, true, true, true, false, false, true, true, true, true, false, true, true, true, true, false, false, true, true, true, false, false, true, true, true, false, false, true, true, true, false, false, true, true, true, false, false, true, true, true, false, true, true, true, false, false, true, true, true, false, false, false, false, false] rfl rfl (take_ofW HT_.out HW_.out (by kernel_rfl)) (fun _ _ _ h => h) (Or.inl ⟨by rfl, ?_⟩) hHeld ?_ ?_
  rotate_left
  · rintro w' ⟨s0, s1, s2, s3, s4, s5, s6, s7, s8, s9, s10, s11, s12, s13, s14, s15, s16, s17, s18, s19, s20, s21⟩
    go_simp
    with_reducible rfl
  rotate_left
  · simp only [Act.put, List.setIfInBounds_toArray, List.set_cons_zero, List.set_cons_succ, i64_w, i32_w]
    rfl
  refine take_ (i := 15) (N := some 48) (v := ?_) (a' := ?_) #[true, true, true, true, true, true, true, true, true, true, false, true, true, true, true, true, true, true, true, true, false, false, true, true, true, true, false, true, true, true, true, false, false, true, true, true, false, false, true, true, true, false, false, true, true, true, false, false, true, true, true, false, false, true, true, true, false, true, true, true, false, false, true, true, true, false, false, false, false, false] rfl rfl (take_ofW HT_.out HW_.out (by kernel_rfl)) (fun _ _ _ h => h) (Or.inl ⟨by rfl, ?_⟩) hHeld ?_ ?_
  rotate_left
  · rintro w' ⟨s0, s1, s2, s3, s4, s5, s6, s7, s8, s9, s10, s11, s12, s13, s14, s15, s16, s17, s18, s19, s20, s21⟩
    go_simp
    with_reducible rfl
  rotate_left
  · simp only [Act.put, List.setIfInBounds_toArray, List.set_cons_zero, List.set_cons_succ, i64_w, i32_w]
    rfl
  refine take_ (i := 20) (N := some 53) (v := ?_) (a' := ?_) #[true, true, true, true, true, true, true, true, true, true, false, true, true, true, true, true, true, true, true, true, true, false, true, true, true, true, false, true, true, true, true, false, false, true, true, true, false, false, true, true, true, false, false, true, true, true, false, false, true, true, true, false, false, true, true, true, false, true, true, true, false, false, true, true, true, false, false, false, false, false] rfl rfl (take_ofW HT_.out HW_.out (by kernel_rfl)) (fun _ _ _ h => h) (Or.inl ⟨by rfl, ?_⟩) hHeld ?_ ?_
  rotate_left
  · rintro w' ⟨s0, s1, s2, s3, s4, s5, s6, s7, s8, s9, s10, s11, s12, s13, s14, s15, s16, s17, s18, s19, s20, s21⟩
    go_simp
    with_reducible rfl
  rotate_left
  · simp only [Act.put, List.setIfInBounds_toArray, List.set_cons_zero, List.set_cons_succ, i64_w, i32_w]
    rfl
  refine take_ (i := 26) (N := some 59) (v := ?_) (a' := ?_) #[true, true, true, true, true, true, true, true, true, true, false, true, true, true, true, true, true, true, true, true, true, false, true, true, true, true, true, true, true, true, true, false, false, true, true, true, false, false, true, true, true, false, false, true, true, true, false, false, true, true, true, false, false, true, true, true, false, true, true, true, false, false, true, true, true, false, false, false, false, false] rfl rfl (take_ofW HT_.out HW_.out (by kernel_rfl)) (fun _ _ _ h => h) (Or.inl ⟨by rfl, ?_⟩) hHeld ?_ ?_
  rotate_left
  · rintro w' ⟨s0, s1, s2, s3, s4, s5, s6, s7, s8, s9, s10, s11, s12, s13, s14, s15, s16, s17, s18, s19, s20, s21⟩
    go_simp
    with_reducible rfl
  rotate_left
  · simp only [Act.put, List.setIfInBounds_toArray, List.set_cons_zero, List.set_cons_succ, i64_w, i32_w]
    rfl
  refine take_ (i := 31) (N := some 64) (v := ?_) (a' := ?_) #[true, true, true, true, true, true, true, true, true, true, false, true, true, true, true, true, true, true, true, true, true, false, true, true, true, true, true, true, true, true, true, true, false, true, true, true, false, false, true, true, true, false, false, true, true, true, false, false, true, true, true, false, false, true, true, true, false, true, true, true, false, false, true, true, true, false, false, false, false, false] rfl rfl (take_ofW HT_.out HW_.out (by kernel_rfl)) (fun _ _ _ h => h) (Or.inl ⟨by rfl, ?_⟩) hHeld ?_ ?_
  rotate_left
  · rintro w' ⟨s0, s1, s2, s3, s4, s5, s6, s7, s8, s9, s10, s11, s12, s13, s14, s15, s16, s17, s18, s19, s20, s21⟩
    go_simp
    with_reducible rfl
  rotate_left
  · simp only [Act.put, List.setIfInBounds_toArray, List.set_cons_zero, List.set_cons_succ, i64_w, i32_w]
    rfl
  refine take_ (i := 32) (N := some 65) (v := ?_) (a' := ?_) #[true, true, true, true, true, true, true, true, true, true, false, true, true, true, true, true, true, true, true, true, true, false, true, true, true, true, true, true, true, true, true, true, true, true, true, true, false, false, true, true, true, false, false, true, true, true, false, false, true, true, true, false, false, true, true, true, false, true, true, true, false, false, true, true, true, false, false, false, false, false] rfl rfl (take_ofW HT_.out HW_.out (by kernel_rfl)) (fun _ _ _ h => h) (Or.inl ⟨by rfl, ?_⟩) hHeld ?_ ?_
  rotate_left
  · rintro w' ⟨s0, s1, s2, s3, s4, s5, s6, s7, s8, s9, s10, s11, s12, s13, s14, s15, s16, s17, s18, s19, s20, s21⟩
    go_simp
    with_reducible rfl
  rotate_left
  · simp only [Act.put, List.setIfInBounds_toArray, List.set_cons_zero, List.set_cons_succ, i64_w, i32_w]
    rfl
  refine take_ (i := 36) (N := some 69) (v := ?_) (a' := ?_) #[true, true, true, true, true, true, true, true, true, true, false, true, true, true, true, true, true, true, true, true, true, false, true, true, true, true, true, true, true, true, true, true, true, true, true, true, true, false, true, true, true, false, false, true, true, true, false, false, true, true, true, false, false, true, true, true, false, true, true, true, false, false, true, true, true, false, false, false, false, false] rfl rfl (take_ofW HT_.out HW_.out (by kernel_rfl)) (fun _ _ _ h => h) (Or.inl ⟨by rfl, ?_⟩) hHeld ?_ ?_
  rotate_left
  · rintro w' ⟨s0, s1, s2, s3, s4, s5, s6, s7, s8, s9, s10, s11, s12, s13, s14, s15, s16, s17, s18, s19, s20, s21⟩
    go_simp
    with_reducible rfl
  rotate_left
  · simp only [Act.put, List.setIfInBounds_toArray, List.set_cons_zero, List.set_cons_succ, i64_w, i32_w]
    rfl
  refine take_ (i := 41) (N := some 74) (v := ?_) (a' := ?_) #[true, true, true, true, true, true, true, true, true, true, false, true, true, true, true, true, true, true, true, true, true, false, true, true, true, true, true, true, true, true, true, true, true, true, true, true, true, false, true, true, true, true, false, true, true, true, false, false, true, true, true, false, false, true, true, true, false, true, true, true, false, false, true, true, true, false, false, false, false, false] rfl rfl (take_ofW HT_.out HW_.out (by kernel_rfl)) (fun _ _ _ h => h) (Or.inl ⟨by rfl, ?_⟩) hHeld ?_ ?_
  rotate_left
  · rintro w' ⟨s0, s1, s2, s3, s4, s5, s6, s7, s8, s9, s10, s11, s12, s13, s14, s15, s16, s17, s18, s19, s20, s21⟩
    go_simp
    with_reducible rfl
  rotate_left
  · simp only [Act.put, List.setIfInBounds_toArray, List.set_cons_zero, List.set_cons_succ, i64_w, i32_w]
    rfl
  refine take_ (i := 46) (N := some 79) (v := ?_) (a' := ?_) #[true, true, true, true, true, true, true, true, true, true, false, true, true, true, true, true, true, true, true, true, true, false, true, true, true, true, true, true, true, true, true, true, true, true, true, true, true, false, true, true, true, true, false, true, true, true, true, false, true, true, true, false, false, true, true, true, false, true, true, true, false, false, true, true, true, false, false, false, false, false] rfl rfl (take_ofW HT_.out HW_.out (by kernel_rfl)) (fun _ _ _ h => h) (Or.inl ⟨by rfl, ?_⟩) hHeld ?_ ?_
  rotate_left
  · rintro w' ⟨s0, s1, s2, s3, s4, s5, s6, s7, s8, s9, s10, s11, s12, s13, s14, s15, s16, s17, s18, s19, s20, s21⟩
    go_simp
    with_reducible rfl
  rotate_left
  · simp only [Act.put, List.setIfInBounds_toArray, List.set_cons_zero, List.set_cons_succ, i64_w, i32_w]
    rfl
  refine take_ (i := 51) (N := some 84) (v := ?_) (a' := ?_) #[true, true, true, true, true, true, true, true, true, true, false, true, true, true, true, true, true, true, true, true, true, false, true, true, true, true, true, true, true, true, true, true, true, true, true, true, true, false, true, true, true, true, false, true, true, true, true, false, true, true, true, true, false, true, true, true, false, true, true, true, false, false, true, true, true, false, false, false, false, false] rfl rfl (take_ofW HT_.out HW_.out (by kernel_rfl)) (fun _ _ _ h => h) (Or.inl ⟨by rfl, ?_⟩) hHeld ?_ ?_
  rotate_left
  · rintro w' ⟨s0, s1, s2, s3, s4, s5, s6, s7, s8, s9, s10, s11, s12, s13, s14, s15, s16, s17, s18, s19, s20, s21⟩
    go_simp
    with_reducible rfl
  rotate_left
  · simp only [Act.put, List.setIfInBounds_toArray, List.set_cons_zero, List.set_cons_succ, i64_w, i32_w]
    rfl
  refine take_ (i := 56) (N := some 89) (v := ?_) (a' := ?_) #[true, true, true, true, true, true, true, true, true, true, false, true, true, true, true, true, true, true, true, true, true, false, true, true, true, true, true, true, true, true, true, true, true, true, true, true, true, false, true, true, true, true, false, true, true, true, true, false, true, true, true, true, false, true, true, true, true, true, true, true, false, false, true, true, true, false, false, false, false, false] rfl rfl (take_ofW HT_.out HW_.out (by kernel_rfl)) (fun _ _ _ h => h) (Or.inl ⟨by rfl, ?_⟩) hHeld ?_ ?_
  rotate_left
  · rintro w' ⟨s0, s1, s2, s3, s4, s5, s6, s7, s8, s9, s10, s11, s12, s13, s14, s15, s16, s17, s18, s19, s20, s21⟩
    go_simp
    with_reducible rfl
  rotate_left
  · simp only [Act.put, List.setIfInBounds_toArray, List.set_cons_zero, List.set_cons_succ, i64_w, i32_w]
    rfl
  refine take_ (i := 60) (N := some 93) (v := ?_) (a' := ?_) #[true, true, true, true, true, true, true, true, true, true, false, true, true, true, true, true, true, true, true, true, true, false, true, true, true, true, true, true, true, true, true, true, true, true, true, true, true, false, true, true, true, true, false, true, true, true, true, false, true, true, true, true, false, true, true, true, true, true, true, true, true, false, true, true, true, false, false, false, false, false] rfl rfl (take_ofW HT_.out HW_.out (by kernel_rfl)) (fun _ _ _ h => h) (Or.inl ⟨by rfl, ?_⟩) hHeld ?_ ?_
  rotate_left
  · rintro w' ⟨s0, s1, s2, s3, s4, s5, s6, s7, s8, s9, s10, s11, s12, s13, s14, s15, s16, s17, s18, s19, s20, s21⟩
    go_simp
    with_reducible rfl
  rotate_left
  · simp only [Act.put, List.setIfInBounds_toArray, List.set_cons_zero, List.set_cons_succ, i64_w, i32_w]
    rfl
  refine take_ (i := 61) (N := some 94) (v := ?_) (a' := ?_) #[true, true, true, true, true, true, true, true, true, true, false, true, true, true, true, true, true, true, true, true, true, false, true, true, true, true, true, true, true, true, true, true, true, true, true, true, true, false, true, true, true, true, false, true, true, true, true, false, true, true, true, true, false, true, true, true, true, true, true, true, true, true, true, true, true, false, false, false, false, false] rfl rfl (take_ofW HT_.out HW_.out (by kernel_rfl)) (fun _ _ _ h => h) (Or.inl ⟨by rfl, ?_⟩) hHeld ?_ ?_
  rotate_left
  · rintro w' ⟨s0, s1, s2, s3, s4, s5, s6, s7, s8, s9, s10, s11, s12, s13, s14, s15, s16, s17, s18, s19, s20, s21⟩
    go_simp
    with_reducible rfl
  rotate_left
  · simp only [Act.put, List.setIfInBounds_toArray, List.set_cons_zero, List.set_cons_succ, i64_w, i32_w]
    rfl
  refine take_ (i := 65) (N := some 98) (v := ?_) (a' := ?_) #[true, true, true, true, true, true, true, true, true, true, false, true, true, true, true, true, true, true, true, true, true, false, true, true, true, true, true, true, true, true, true, true, true, true, true, true, true, false, true, true, true, true, false, true, true, true, true, false, true, true, true, true, false, true, true, true, true, true, true, true, true, true, true, true, true, true, false, false, false, false] rfl rfl (take_ofW HT_.out HW_.out (by kernel_rfl)) (fun _ _ _ h => h) (Or.inl ⟨by rfl, ?_⟩) hHeld ?_ ?_
  rotate_left
  · rintro w' ⟨s0, s1, s2, s3, s4, s5, s6, s7, s8, s9, s10, s11, s12, s13, s14, s15, s16, s17, s18, s19, s20, s21⟩
    go_simp
    with_reducible rfl
  rotate_left
  · simp only [Act.put, List.setIfInBounds_toArray, List.set_cons_zero, List.set_cons_succ, i64_w, i32_w]
    rfl
  refine take_ (i := 66) (N := some 99) (v := ?_) (a' := ?_) #[true, true, true, true, true, true, true, true, true, true, false, true, true, true, true, true, true, true, true, true, true, false, true, true, true, true, true, true, true, true, true, true, true, true, true, true, true, false, true, true, true, true, false, true, true, true, true, false, true, true, true, true, false, true, true, true, true, true, true, true, true, true, true, true, true, true, true, false, false, false] rfl rfl (take_ofW HT_.out HW_.out (by kernel_rfl)) (fun _ _ _ h => h) (Or.inl ⟨by rfl, ?_⟩) hHeld ?_ ?_
  rotate_left
  · rintro w' ⟨s0, s1, s2, s3, s4, s5, s6, s7, s8, s9, s10, s11, s12, s13, s14, s15, s16, s17, s18, s19, s20, s21⟩
    go_simp
    with_reducible rfl
  rotate_left
  · simp only [Act.put, List.setIfInBounds_toArray, List.set_cons_zero, List.set_cons_succ, i64_w, i32_w]
    rfl
  refine join_ (σ := Nat) 1 #[true, true, true, true, true, true, true, true, true, true, true, true, true, true, true, true, true, true, true, true, true, true, true, true, true, true, true, true, true, true, true, true, true, true, true, true, true, true, true, true, true, true, true, true, true, true, true, true, true, true, true, true, true, true, true, true, true, true, true, true, true, true, true, true, true, true, true, true, true, false] (fun s_ => [(43, .agg #[.string c.client.realm, .slice X2 c.client.names.length z2, .int .i32 c.client.kind]), (54, .agg #[.string c.server.realm, .slice X5 c.server.names.length z5, .int .i32 c.server.kind]), (70, .int .i64 c.t1), (75, .int .i64 c.t2), (80, .int .i64 c.t3), (85, .int .i64 c.t4), (9, .pointer (some ⟨s_, 0, none⟩)), (100, .agg #[.string c.client.realm, .slice X2 c.client.names.length z2, .int .i32 c.client.kind, .string c.server.realm, .slice X5 c.server.names.length z5, .int .i32 c.server.kind, .int .i32 c.kt, .string (strOfNums c.key), .int .i64 c.t1, .int .i64 c.t2, .int .i64 c.t3, .int .i64 c.t4, .bool ik, .int .u32 0, .slice none 0 0, .slice none 0 0, .string (strOfNums c.tk), .string (strOfNums c.sc)])]) (fun s_ w' => Below wx.heap.size wx w' ∧ Box w' s_ 47 zero47 ∧ wx.heap.size ≤ s_) ?_ ?_
  rotate_left
  · intro hJ10_21_37_42_47_52_68
    refine join_ (σ := Unit) 2 #[true, true, true, true, true, true, true, true, true, true, true, true, true, true, true, true, true, true, true, true, true, true, true, true, true, true, true, true, true, true, true, true, true, true, true, true, true, true, true, true, true, true, true, true, true, true, true, true, true, true, true, true, true, true, true, true, true, true, true, true, true, true, true, true, true, true, true, true, false, false] (fun _ => [(43, .agg #[.string c.client.realm, .slice X2 c.client.names.length z2, .int .i32 c.client.kind]), (54, .agg #[.string c.server.realm, .slice X5 c.server.names.length z5, .int .i32 c.server.kind]), (70, .int .i64 c.t1), (75, .int .i64 c.t2), (80, .int .i64 c.t3), (85, .int .i64 c.t4), (100, .agg #[.string c.client.realm, .slice X2 c.client.names.length z2, .int .i32 c.client.kind, .string c.server.realm, .slice X5 c.server.names.length z5, .int .i32 c.server.kind, .int .i32 c.kt, .string (strOfNums c.key), .int .i64 c.t1, .int .i64 c.t2, .int .i64 c.t3, .int .i64 c.t4, .bool ik, .int .u32 0, .slice none 0 0, .slice none 0 0, .string (strOfNums c.tk), .string (strOfNums c.sc)])]) (fun _ w' => Below wx.heap.size wx w') ?_ ?_
    rotate_left
    · intro hJ10_21_37_42_47_52
      refine join_ (σ := Nat) 3 #[true, true, true, true, true, true, true, true, true, true, true, true, true, true, true, true, true, true, true, true, true, true, true, true, true, true, true, true, true, true, true, true, true, true, true, true, true, true, true, true, true, true, true, true, true, true, true, true, true, true, true, true, false, true, true, true, true, true, true, true, true, true, true, true, true, true, true, false, true, false] (fun s_ => [(43, .agg #[.string c.client.realm, .slice X2 c.client.names.length z2, .int .i32 c.client.kind]), (54, .agg #[.string c.server.realm, .slice X5 c.server.names.length z5, .int .i32 c.server.kind]), (70, .int .i64 c.t1), (75, .int .i64 c.t2), (80, .int .i64 c.t3), (9, .pointer (some ⟨s_, 0, none⟩))]) (fun s_ w' => Below wx.heap.size wx w' ∧ Box w' s_ 47 zero47 ∧ wx.heap.size ≤ s_) ?_ ?_
      rotate_left
      · intro hJ10_21_37_42_47_68
        refine join_ (σ := Unit) 4 #[true, true, true, true, true, true, true, true, true, true, true, true, true, true, true, true, true, true, true, true, true, true, true, true, true, true, true, true, true, true, true, true, true, true, true, true, true, true, true, true, true, true, true, true, true, true, true, true, true, true, true, true, false, true, true, true, true, true, true, true, true, true, true, true, true, true, true, false, false, false] (fun _ => [(43, .agg #[.string c.client.realm, .slice X2 c.client.names.length z2, .int .i32 c.client.kind]), (54, .agg #[.string c.server.realm, .slice X5 c.server.names.length z5, .int .i32 c.server.kind]), (70, .int .i64 c.t1), (75, .int .i64 c.t2), (80, .int .i64 c.t3)]) (fun _ w' => Below wx.heap.size wx w') ?_ ?_
        rotate_left
        · intro hJ10_21_37_42_47
          refine join_ (σ := Nat) 4 #[true, true, true, true, true, true, true, true, true, true, true, true, true, true, true, true, true, true, true, true, true, true, true, true, true, true, true, true, true, true, true, true, true, true, true, true, true, true, true, true, true, true, true, true, true, true, true, false, true, true, true, true, false, true, true, true, true, true, true, true, true, true, true, true, true, true, true, false, true, false] (fun s_ => [(43, .agg #[.string c.client.realm, .slice X2 c.client.names.length z2, .int .i32 c.client.kind]), (54, .agg #[.string c.server.realm, .slice X5 c.server.names.length z5, .int .i32 c.server.kind]), (70, .int .i64 c.t1), (75, .int .i64 c.t2), (9, .pointer (some ⟨s_, 0, none⟩))]) (fun s_ w' => Below wx.heap.size wx w' ∧ Box w' s_ 47 zero47 ∧ wx.heap.size ≤ s_) ?_ ?_
          rotate_left
          · intro hJ10_21_37_42_68
            refine join_ (σ := Unit) 5 #[true, true, true, true, true, true, true, true, true, true, true, true, true, true, true, true, true, true, true, true, true, true, true, true, true, true, true, true, true, true, true, true, true, true, true, true, true, true, true, true, true, true, true, true, true, true, true, false, true, true, true, true, false, true, true, true, true, true, true, true, true, true, true, true, true, true, true, false, false, false] (fun _ => [(43, .agg #[.string c.client.realm, .slice X2 c.client.names.length z2, .int .i32 c.client.kind]), (54, .agg #[.string c.server.realm, .slice X5 c.server.names.length z5, .int .i32 c.server.kind]), (70, .int .i64 c.t1), (75, .int .i64 c.t2)]) (fun _ w' => Below wx.heap.size wx w') ?_ ?_
            rotate_left
            · intro hJ10_21_37_42
              refine join_ (σ := Nat) 5 #[true, true, true, true, true, true, true, true, true, true, true, true, true, true, true, true, true, true, true, true, true, true, true, true, true, true, true, true, true, true, true, true, true, true, true, true, true, true, true, true, true, true, false, true, true, true, true, false, true, true, true, true, false, true, true, true, true, true, true, true, true, true, true, true, true, true, true, false, true, false] (fun s_ => [(43, .agg #[.string c.client.realm, .slice X2 c.client.names.length z2, .int .i32 c.client.kind]), (54, .agg #[.string c.server.realm, .slice X5 c.server.names.length z5, .int .i32 c.server.kind]), (70, .int .i64 c.t1), (9, .pointer (some ⟨s_, 0, none⟩))]) (fun s_ w' => Below wx.heap.size wx w' ∧ Box w' s_ 47 zero47 ∧ wx.heap.size ≤ s_) ?_ ?_
              rotate_left
              · intro hJ10_21_37_68
                refine join_ (σ := Unit) 6 #[true, true, true, true, true, true, true, true, true, true, true, true, true, true, true, true, true, true, true, true, true, true, true, true, true, true, true, true, true, true, true, true, true, true, true, true, true, true, true, true, true, true, false, true, true, true, true, false, true, true, true, true, false, true, true, true, true, true, true, true, true, true, true, true, true, true, true, false, false, false] (fun _ => [(43, .agg #[.string c.client.realm, .slice X2 c.client.names.length z2, .int .i32 c.client.kind]), (54, .agg #[.string c.server.realm, .slice X5 c.server.names.length z5, .int .i32 c.server.kind]), (70, .int .i64 c.t1)]) (fun _ w' => Below wx.heap.size wx w') ?_ ?_
                rotate_left
                · intro hJ10_21_37
                  refine join_ (σ := Nat) 6 #[true, true, true, true, true, true, true, true, true, true, true, true, true, true, true, true, true, true, true, true, true, true, true, true, true, true, true, true, true, true, true, true, true, true, true, true, true, false, true, true, true, true, false, true, true, true, true, false, true, true, true, true, false, true, true, true, true, true, true, true, true, true, true, true, true, true, true, false, true, false] (fun s_ => [(43, .agg #[.string c.client.realm, .slice X2 c.client.names.length z2, .int .i32 c.client.kind]), (54, .agg #[.string c.server.realm, .slice X5 c.server.names.length z5, .int .i32 c.server.kind]), (9, .pointer (some ⟨s_, 0, none⟩))]) (fun s_ w' => Below wx.heap.size wx w' ∧ Box w' s_ 47 zero47 ∧ wx.heap.size ≤ s_) ?_ ?_
                  rotate_left
                  · intro hJ10_21_68
                    refine join_ (σ := Unit) 7 #[true, true, true, true, true, true, true, true, true, true, true, true, true, true, true, true, true, true, true, true, true, true, true, true, true, true, true, true, true, true, true, true, true, true, true, true, true, false, true, true, true, true, false, true, true, true, true, false, true, true, true, true, false, true, true, true, true, true, true, true, true, true, true, true, true, true, true, false, false, false] (fun _ => [(43, .agg #[.string c.client.realm, .slice X2 c.client.names.length z2, .int .i32 c.client.kind]), (54, .agg #[.string c.server.realm, .slice X5 c.server.names.length z5, .int .i32 c.server.kind])]) (fun _ w' => Below wx.heap.size wx w') ?_ ?_
                    rotate_left
                    · intro hJ10_21
                      refine join_ (σ := Nat) 7 #[true, true, true, true, true, true, true, true, true, true, true, true, true, true, true, true, true, true, true, true, true, false, true, true, true, true, true, true, true, true, true, true, true, true, true, true, true, false, true, true, true, true, false, true, true, true, true, false, true, true, true, true, false, true, true, true, true, true, true, true, true, true, true, true, true, true, true, false, true, false] (fun s_ => [(43, .agg #[.string c.client.realm, .slice X2 c.client.names.length z2, .int .i32 c.client.kind]), (9, .pointer (some ⟨s_, 0, none⟩))]) (fun s_ w' => Below wx.heap.size wx w' ∧ Box w' s_ 47 zero47 ∧ wx.heap.size ≤ s_) ?_ ?_
                      rotate_left
                      · intro hJ10_68
                        refine join_ (σ := Unit) 8 #[true, true, true, true, true, true, true, true, true, true, true, true, true, true, true, true, true, true, true, true, true, false, true, true, true, true, true, true, true, true, true, true, true, true, true, true, true, false, true, true, true, true, false, true, true, true, true, false, true, true, true, true, false, true, true, true, true, true, true, true, true, true, true, true, true, true, true, false, false, false] (fun _ => [(43, .agg #[.string c.client.realm, .slice X2 c.client.names.length z2, .int .i32 c.client.kind])]) (fun _ w' => Below wx.heap.size wx w') ?_ ?_
                        rotate_left
                        · intro hJ10
                          refine join_ (σ := Nat) 8 #[true, true, true, true, true, true, true, true, true, true, false, true, true, true, true, true, true, true, true, true, true, false, true, true, true, true, true, true, true, true, true, true, true, true, true, true, true, false, true, true, true, true, false, true, true, true, true, false, true, true, true, true, false, true, true, true, true, true, true, true, true, true, true, true, true, true, true, false, true, false] (fun s_ => [(9, .pointer (some ⟨s_, 0, none⟩))]) (fun s_ w' => Below wx.heap.size wx w' ∧ Box w' s_ 47 zero47 ∧ wx.heap.size ≤ s_) ?_ ?_
                          rotate_left
                          · intro hJ68
                            refine two_ (i := 10) (j := 68) (Ni := some 43) (Nj := some 9) #[true, true, true, true, true, true, true, true, true, true, true, true, true, true, true, true, true, true, true, true, true, false, true, true, true, true, true, true, true, true, true, true, true, true, true, true, true, false, true, true, true, true, false, true, true, true, true, false, true, true, true, true, false, true, true, true, true, true, true, true, true, true, true, true, true, true, true, false, false, false] #[true, true, true, true, true, true, true, true, true, true, false, true, true, true, true, true, true, true, true, true, true, false, true, true, true, true, true, true, true, true, true, true, true, true, true, true, true, false, true, true, true, true, false, true, true, true, true, false, true, true, true, true, false, true, true, true, true, true, true, true, true, true, true, true, true, true, true, false, true, false] rfl rfl rfl rfl (two_of HT_.out (by kernel_rfl)) (by decide) (by decide) (fun K hK => ?_) (fun K hK => ?_)
                            · skip
                              refine goes_ Try.func34 (by kernel_rfl) rfl #[.string c.client.realm, .agg #[.int .i32 c.client.kind, .slice X2 c.client.names.length z2]] (by rfl) rfl rfl (by simp only [List.map_toArray, List.map_cons, List.map_nil]; rfl) ?_
                              with_reducible refine (ccName_any c.client.realm c.client.kind X2 c.client.names.length z2 _).mono ?_
                              rintro e wy ⟨rfl, hb_⟩
                              refine ⟨_, rfl, ?_⟩
                              have hbm := below_step hbn hb_
                              refine hK.out _ _ ((HSX.out _ hbm)) (fun hHeld => ?_)
                              clear hK K
                              refine norm_ (a' := ?_) ?_ ?_
                              rotate_left
                              · show Act.put _ (some 43) _ = _
                                simp only [Act.put, List.setIfInBounds_toArray, List.set_cons_zero, List.set_cons_succ, i64_w, i32_w]
                                rfl
                              exact norm_ (by first | (simp only [putAll, Act.put, List.setIfInBounds_toArray, List.set_cons_zero, List.set_cons_succ]; done) | (simp only [putAll, Act.put, List.setIfInBounds_toArray, List.set_cons_zero, List.set_cons_succ]; rfl)) (hJ10 () _ hbm)
                            · skip
                              refine value_ (w1 := ?_) (v := ?_) (by rfl) rfl ?_ ?_
                              rotate_left 2
                              · go_simp
                                constructor
                                · rfl
                                · rfl
                              refine hK.out _ _ ((HSX.out _ (below_alloc hbn _))) (fun hHeld => ?_)
                              clear hK K
                              refine norm_ (a' := ?_) ?_ ?_
                              rotate_left
                              · show Act.put _ (some 9) _ = _
                                simp only [Act.put, List.setIfInBounds_toArray, List.set_cons_zero, List.set_cons_succ, i64_w, i32_w]
                                rfl
                              exact norm_ (by first | (simp only [putAll, Act.put, List.setIfInBounds_toArray, List.set_cons_zero, List.set_cons_succ]; done) | (simp only [putAll, Act.put, List.setIfInBounds_toArray, List.set_cons_zero, List.set_cons_succ]; rfl)) (hJ68 _ _ ⟨below_alloc hbn _, Box.new _ _ _, hbn.size⟩)
                          · skip
                            rintro s_ wn ⟨hbn, hxn, hgn⟩
                            have hHeld := HSX.out _ hbn
                            refine norm_ (a' := ?_) ?_ ?_
                            rotate_left
                            · simp only [putAll, Act.put, List.setIfInBounds_toArray, List.set_cons_zero, List.set_cons_succ]
                              rfl
                            refine one_ (i := 10) (N := some 43) #[true, true, true, true, true, true, true, true, true, true, true, true, true, true, true, true, true, true, true, true, true, false, true, true, true, true, true, true, true, true, true, true, true, true, true, true, true, false, true, true, true, true, false, true, true, true, true, false, true, true, true, true, false, true, true, true, true, true, true, true, true, true, true, true, true, true, true, false, true, false] rfl rfl (one_of HT_.out (by kernel_rfl)) (by decide) (fun K hK => ?_)
                            refine goes_ Try.func34 (by kernel_rfl) rfl #[.string c.client.realm, .agg #[.int .i32 c.client.kind, .slice X2 c.client.names.length z2]] (by rfl) rfl rfl (by simp only [List.map_toArray, List.map_cons, List.map_nil]; rfl) ?_
                            with_reducible refine (ccName_any c.client.realm c.client.kind X2 c.client.names.length z2 _).mono ?_
                            rintro e wy ⟨rfl, hb_⟩
                            refine ⟨_, rfl, ?_⟩
                            have hbm := below_step hbn hb_
                            have hxm := hxn.below hb_
                            refine hK.out _ _ ((HSX.out _ hbm)) (fun hHeld => ?_)
                            clear hK K
                            refine norm_ (a' := ?_) ?_ ?_
                            rotate_left
                            · show Act.put _ (some 43) _ = _
                              simp only [Act.put, List.setIfInBounds_toArray, List.set_cons_zero, List.set_cons_succ, i64_w, i32_w]
                              rfl
                            exact norm_ (by first | (simp only [putAll, Act.put, List.setIfInBounds_toArray, List.set_cons_zero, List.set_cons_succ]; done) | (simp only [putAll, Act.put, List.setIfInBounds_toArray, List.set_cons_zero, List.set_cons_succ]; rfl)) (hJ10_68 s_ _ ⟨hbm, hxm, hgn⟩)
                        · skip
                          rintro _ wn hbn
                          have hHeld := HSX.out _ hbn
                          refine norm_ (a' := ?_) ?_ ?_
                          rotate_left
                          · simp only [putAll, Act.put, List.setIfInBounds_toArray, List.set_cons_zero, List.set_cons_succ]
                            rfl
                          refine two_ (i := 21) (j := 68) (Ni := some 54) (Nj := some 9) #[true, true, true, true, true, true, true, true, true, true, true, true, true, true, true, true, true, true, true, true, true, true, true, true, true, true, true, true, true, true, true, true, true, true, true, true, true, false, true, true, true, true, false, true, true, true, true, false, true, true, true, true, false, true, true, true, true, true, true, true, true, true, true, true, true, true, true, false, false, false] #[true, true, true, true, true, true, true, true, true, true, true, true, true, true, true, true, true, true, true, true, true, false, true, true, true, true, true, true, true, true, true, true, true, true, true, true, true, false, true, true, true, true, false, true, true, true, true, false, true, true, true, true, false, true, true, true, true, true, true, true, true, true, true, true, true, true, true, false, true, false] rfl rfl rfl rfl (two_of HT_.out (by kernel_rfl)) (by decide) (by decide) (fun K hK => ?_) (fun K hK => ?_)
                          · skip
                            refine goes_ Try.func34 (by kernel_rfl) rfl #[.string c.server.realm, .agg #[.int .i32 c.server.kind, .slice X5 c.server.names.length z5]] (by rfl) rfl rfl (by simp only [List.map_toArray, List.map_cons, List.map_nil]; rfl) ?_
                            with_reducible refine (ccName_any c.server.realm c.server.kind X5 c.server.names.length z5 _).mono ?_
                            rintro e wy ⟨rfl, hb_⟩
                            refine ⟨_, rfl, ?_⟩
                            have hbm := below_step hbn hb_
                            refine hK.out _ _ ((HSX.out _ hbm)) (fun hHeld => ?_)
                            clear hK K
                            refine norm_ (a' := ?_) ?_ ?_
                            rotate_left
                            · show Act.put _ (some 54) _ = _
                              simp only [Act.put, List.setIfInBounds_toArray, List.set_cons_zero, List.set_cons_succ, i64_w, i32_w]
                              rfl
                            exact norm_ (by first | (simp only [putAll, Act.put, List.setIfInBounds_toArray, List.set_cons_zero, List.set_cons_succ]; done) | (simp only [putAll, Act.put, List.setIfInBounds_toArray, List.set_cons_zero, List.set_cons_succ]; rfl)) (hJ10_21 () _ hbm)
                          · skip
                            refine value_ (w1 := ?_) (v := ?_) (by rfl) rfl ?_ ?_
                            rotate_left 2
                            · go_simp
                              constructor
                              · rfl
                              · rfl
                            refine hK.out _ _ ((HSX.out _ (below_alloc hbn _))) (fun hHeld => ?_)
                            clear hK K
                            refine norm_ (a' := ?_) ?_ ?_
                            rotate_left
                            · show Act.put _ (some 9) _ = _
                              simp only [Act.put, List.setIfInBounds_toArray, List.set_cons_zero, List.set_cons_succ, i64_w, i32_w]
                              rfl
                            exact norm_ (by first | (simp only [putAll, Act.put, List.setIfInBounds_toArray, List.set_cons_zero, List.set_cons_succ]; done) | (simp only [putAll, Act.put, List.setIfInBounds_toArray, List.set_cons_zero, List.set_cons_succ]; rfl)) (hJ10_68 _ _ ⟨below_alloc hbn _, Box.new _ _ _, hbn.size⟩)
                      · skip
                        rintro s_ wn ⟨hbn, hxn, hgn⟩
                        have hHeld := HSX.out _ hbn
                        refine norm_ (a' := ?_) ?_ ?_
                        rotate_left
                        · simp only [putAll, Act.put, List.setIfInBounds_toArray, List.set_cons_zero, List.set_cons_succ]
                          rfl
                        refine one_ (i := 21) (N := some 54) #[true, true, true, true, true, true, true, true, true, true, true, true, true, true, true, true, true, true, true, true, true, true, true, true, true, true, true, true, true, true, true, true, true, true, true, true, true, false, true, true, true, true, false, true, true, true, true, false, true, true, true, true, false, true, true, true, true, true, true, true, true, true, true, true, true, true, true, false, true, false] rfl rfl (one_of HT_.out (by kernel_rfl)) (by decide) (fun K hK => ?_)
                        refine goes_ Try.func34 (by kernel_rfl) rfl #[.string c.server.realm, .agg #[.int .i32 c.server.kind, .slice X5 c.server.names.length z5]] (by rfl) rfl rfl (by simp only [List.map_toArray, List.map_cons, List.map_nil]; rfl) ?_
                        with_reducible refine (ccName_any c.server.realm c.server.kind X5 c.server.names.length z5 _).mono ?_
                        rintro e wy ⟨rfl, hb_⟩
                        refine ⟨_, rfl, ?_⟩
                        have hbm := below_step hbn hb_
                        have hxm := hxn.below hb_
                        refine hK.out _ _ ((HSX.out _ hbm)) (fun hHeld => ?_)
                        clear hK K
                        refine norm_ (a' := ?_) ?_ ?_
                        rotate_left
                        · show Act.put _ (some 54) _ = _
                          simp only [Act.put, List.setIfInBounds_toArray, List.set_cons_zero, List.set_cons_succ, i64_w, i32_w]
                          rfl
                        exact norm_ (by first | (simp only [putAll, Act.put, List.setIfInBounds_toArray, List.set_cons_zero, List.set_cons_succ]; done) | (simp only [putAll, Act.put, List.setIfInBounds_toArray, List.set_cons_zero, List.set_cons_succ]; rfl)) (hJ10_21_68 s_ _ ⟨hbm, hxm, hgn⟩)
                    · skip
                      rintro _ wn hbn
                      have hHeld := HSX.out _ hbn
                      refine norm_ (a' := ?_) ?_ ?_
                      rotate_left
                      · simp only [putAll, Act.put, List.setIfInBounds_toArray, List.set_cons_zero, List.set_cons_succ]
                        rfl
                      refine two_ (i := 37) (j := 68) (Ni := some 70) (Nj := some 9) #[true, true, true, true, true, true, true, true, true, true, true, true, true, true, true, true, true, true, true, true, true, true, true, true, true, true, true, true, true, true, true, true, true, true, true, true, true, true, true, true, true, true, false, true, true, true, true, false, true, true, true, true, false, true, true, true, true, true, true, true, true, true, true, true, true, true, true, false, false, false] #[true, true, true, true, true, true, true, true, true, true, true, true, true, true, true, true, true, true, true, true, true, true, true, true, true, true, true, true, true, true, true, true, true, true, true, true, true, false, true, true, true, true, false, true, true, true, true, false, true, true, true, true, false, true, true, true, true, true, true, true, true, true, true, true, true, true, true, false, true, false] rfl rfl rfl rfl (two_of HT_.out (by kernel_rfl)) (by decide) (by decide) (fun K hK => ?_) (fun K hK => ?_)
                      · skip
                        refine goes_ Try.func35 (by kernel_rfl) rfl #[.agg #[.int .i64 c.t1, .bool true]] (by rfl) rfl rfl (by simp only [List.map_toArray, List.map_cons, List.map_nil]; rfl) ?_
                        with_reducible refine (unix2_any c.t1 _).mono ?_
                        rintro e wy ⟨rfl, hb_⟩
                        refine ⟨_, rfl, ?_⟩
                        have hbm := below_step hbn hb_
                        refine hK.out _ _ ((HSX.out _ hbm)) (fun hHeld => ?_)
                        clear hK K
                        refine norm_ (a' := ?_) ?_ ?_
                        rotate_left
                        · show Act.put _ (some 70) _ = _
                          simp only [Act.put, List.setIfInBounds_toArray, List.set_cons_zero, List.set_cons_succ, i64_w, i32_w]
                          rfl
                        exact norm_ (by first | (simp only [putAll, Act.put, List.setIfInBounds_toArray, List.set_cons_zero, List.set_cons_succ]; done) | (simp only [putAll, Act.put, List.setIfInBounds_toArray, List.set_cons_zero, List.set_cons_succ]; rfl)) (hJ10_21_37 () _ hbm)
                      · skip
                        refine value_ (w1 := ?_) (v := ?_) (by rfl) rfl ?_ ?_
                        rotate_left 2
                        · go_simp
                          constructor
                          · rfl
                          · rfl
                        refine hK.out _ _ ((HSX.out _ (below_alloc hbn _))) (fun hHeld => ?_)
                        clear hK K
                        refine norm_ (a' := ?_) ?_ ?_
                        rotate_left
                        · show Act.put _ (some 9) _ = _
                          simp only [Act.put, List.setIfInBounds_toArray, List.set_cons_zero, List.set_cons_succ, i64_w, i32_w]
                          rfl
                        exact norm_ (by first | (simp only [putAll, Act.put, List.setIfInBounds_toArray, List.set_cons_zero, List.set_cons_succ]; done) | (simp only [putAll, Act.put, List.setIfInBounds_toArray, List.set_cons_zero, List.set_cons_succ]; rfl)) (hJ10_21_68 _ _ ⟨below_alloc hbn _, Box.new _ _ _, hbn.size⟩)
                  · skip
                    rintro s_ wn ⟨hbn, hxn, hgn⟩
                    have hHeld := HSX.out _ hbn
                    refine norm_ (a' := ?_) ?_ ?_
                    rotate_left
                    · simp only [putAll, Act.put, List.setIfInBounds_toArray, List.set_cons_zero, List.set_cons_succ]
                      rfl
                    refine one_ (i := 37) (N := some 70) #[true, true, true, true, true, true, true, true, true, true, true, true, true, true, true, true, true, true, true, true, true, true, true, true, true, true, true, true, true, true, true, true, true, true, true, true, true, true, true, true, true, true, false, true, true, true, true, false, true, true, true, true, false, true, true, true, true, true, true, true, true, true, true, true, true, true, true, false, true, false] rfl rfl (one_of HT_.out (by kernel_rfl)) (by decide) (fun K hK => ?_)
                    refine goes_ Try.func35 (by kernel_rfl) rfl #[.agg #[.int .i64 c.t1, .bool true]] (by rfl) rfl rfl (by simp only [List.map_toArray, List.map_cons, List.map_nil]; rfl) ?_
                    with_reducible refine (unix2_any c.t1 _).mono ?_
                    rintro e wy ⟨rfl, hb_⟩
                    refine ⟨_, rfl, ?_⟩
                    have hbm := below_step hbn hb_
                    have hxm := hxn.below hb_
                    refine hK.out _ _ ((HSX.out _ hbm)) (fun hHeld => ?_)
                    clear hK K
                    refine norm_ (a' := ?_) ?_ ?_
                    rotate_left
                    · show Act.put _ (some 70) _ = _
                      simp only [Act.put, List.setIfInBounds_toArray, List.set_cons_zero, List.set_cons_succ, i64_w, i32_w]
                      rfl
                    exact norm_ (by first | (simp only [putAll, Act.put, List.setIfInBounds_toArray, List.set_cons_zero, List.set_cons_succ]; done) | (simp only [putAll, Act.put, List.setIfInBounds_toArray, List.set_cons_zero, List.set_cons_succ]; rfl)) (hJ10_21_37_68 s_ _ ⟨hbm, hxm, hgn⟩)
                · skip
                  rintro _ wn hbn
                  have hHeld := HSX.out _ hbn
                  refine norm_ (a' := ?_) ?_ ?_
                  rotate_left
                  · simp only [putAll, Act.put, List.setIfInBounds_toArray, List.set_cons_zero, List.set_cons_succ]
                    rfl
                  refine two_ (i := 42) (j := 68) (Ni := some 75) (Nj := some 9) #[true, true, true, true, true, true, true, true, true, true, true, true, true, true, true, true, true, true, true, true, true, true, true, true, true, true, true, true, true, true, true, true, true, true, true, true, true, true, true, true, true, true, true, true, true, true, true, false, true, true, true, true, false, true, true, true, true, true, true, true, true, true, true, true, true, true, true, false, false, false] #[true, true, true, true, true, true, true, true, true, true, true, true, true, true, true, true, true, true, true, true, true, true, true, true, true, true, true, true, true, true, true, true, true, true, true, true, true, true, true, true, true, true, false, true, true, true, true, false, true, true, true, true, false, true, true, true, true, true, true, true, true, true, true, true, true, true, true, false, true, false] rfl rfl rfl rfl (two_of HT_.out (by kernel_rfl)) (by decide) (by decide) (fun K hK => ?_) (fun K hK => ?_)
                  · skip
                    refine goes_ Try.func35 (by kernel_rfl) rfl #[.agg #[.int .i64 c.t2, .bool true]] (by rfl) rfl rfl (by simp only [List.map_toArray, List.map_cons, List.map_nil]; rfl) ?_
                    with_reducible refine (unix2_any c.t2 _).mono ?_
                    rintro e wy ⟨rfl, hb_⟩
                    refine ⟨_, rfl, ?_⟩
                    have hbm := below_step hbn hb_
                    refine hK.out _ _ ((HSX.out _ hbm)) (fun hHeld => ?_)
                    clear hK K
                    refine norm_ (a' := ?_) ?_ ?_
                    rotate_left
                    · show Act.put _ (some 75) _ = _
                      simp only [Act.put, List.setIfInBounds_toArray, List.set_cons_zero, List.set_cons_succ, i64_w, i32_w]
                      rfl
                    exact norm_ (by first | (simp only [putAll, Act.put, List.setIfInBounds_toArray, List.set_cons_zero, List.set_cons_succ]; done) | (simp only [putAll, Act.put, List.setIfInBounds_toArray, List.set_cons_zero, List.set_cons_succ]; rfl)) (hJ10_21_37_42 () _ hbm)
                  · skip
                    refine value_ (w1 := ?_) (v := ?_) (by rfl) rfl ?_ ?_
                    rotate_left 2
                    · go_simp
                      constructor
                      · rfl
                      · rfl
                    refine hK.out _ _ ((HSX.out _ (below_alloc hbn _))) (fun hHeld => ?_)
                    clear hK K
                    refine norm_ (a' := ?_) ?_ ?_
                    rotate_left
                    · show Act.put _ (some 9) _ = _
                      simp only [Act.put, List.setIfInBounds_toArray, List.set_cons_zero, List.set_cons_succ, i64_w, i32_w]
                      rfl
                    exact norm_ (by first | (simp only [putAll, Act.put, List.setIfInBounds_toArray, List.set_cons_zero, List.set_cons_succ]; done) | (simp only [putAll, Act.put, List.setIfInBounds_toArray, List.set_cons_zero, List.set_cons_succ]; rfl)) (hJ10_21_37_68 _ _ ⟨below_alloc hbn _, Box.new _ _ _, hbn.size⟩)
              · skip
                rintro s_ wn ⟨hbn, hxn, hgn⟩
                have hHeld := HSX.out _ hbn
                refine norm_ (a' := ?_) ?_ ?_
                rotate_left
                · simp only [putAll, Act.put, List.setIfInBounds_toArray, List.set_cons_zero, List.set_cons_succ]
                  rfl
                refine one_ (i := 42) (N := some 75) #[true, true, true, true, true, true, true, true, true, true, true, true, true, true, true, true, true, true, true, true, true, true, true, true, true, true, true, true, true, true, true, true, true, true, true, true, true, true, true, true, true, true, true, true, true, true, true, false, true, true, true, true, false, true, true, true, true, true, true, true, true, true, true, true, true, true, true, false, true, false] rfl rfl (one_of HT_.out (by kernel_rfl)) (by decide) (fun K hK => ?_)
                refine goes_ Try.func35 (by kernel_rfl) rfl #[.agg #[.int .i64 c.t2, .bool true]] (by rfl) rfl rfl (by simp only [List.map_toArray, List.map_cons, List.map_nil]; rfl) ?_
                with_reducible refine (unix2_any c.t2 _).mono ?_
                rintro e wy ⟨rfl, hb_⟩
                refine ⟨_, rfl, ?_⟩
                have hbm := below_step hbn hb_
                have hxm := hxn.below hb_
                refine hK.out _ _ ((HSX.out _ hbm)) (fun hHeld => ?_)
                clear hK K
                refine norm_ (a' := ?_) ?_ ?_
                rotate_left
                · show Act.put _ (some 75) _ = _
                  simp only [Act.put, List.setIfInBounds_toArray, List.set_cons_zero, List.set_cons_succ, i64_w, i32_w]
                  rfl
                exact norm_ (by first | (simp only [putAll, Act.put, List.setIfInBounds_toArray, List.set_cons_zero, List.set_cons_succ]; done) | (simp only [putAll, Act.put, List.setIfInBounds_toArray, List.set_cons_zero, List.set_cons_succ]; rfl)) (hJ10_21_37_42_68 s_ _ ⟨hbm, hxm, hgn⟩)
            · skip
              rintro _ wn hbn
              have hHeld := HSX.out _ hbn
              refine norm_ (a' := ?_) ?_ ?_
              rotate_left
              · simp only [putAll, Act.put, List.setIfInBounds_toArray, List.set_cons_zero, List.set_cons_succ]
                rfl
              refine two_ (i := 47) (j := 68) (Ni := some 80) (Nj := some 9) #[true, true, true, true, true, true, true, true, true, true, true, true, true, true, true, true, true, true, true, true, true, true, true, true, true, true, true, true, true, true, true, true, true, true, true, true, true, true, true, true, true, true, true, true, true, true, true, true, true, true, true, true, false, true, true, true, true, true, true, true, true, true, true, true, true, true, true, false, false, false] #[true, true, true, true, true, true, true, true, true, true, true, true, true, true, true, true, true, true, true, true, true, true, true, true, true, true, true, true, true, true, true, true, true, true, true, true, true, true, true, true, true, true, true, true, true, true, true, false, true, true, true, true, false, true, true, true, true, true, true, true, true, true, true, true, true, true, true, false, true, false] rfl rfl rfl rfl (two_of HT_.out (by kernel_rfl)) (by decide) (by decide) (fun K hK => ?_) (fun K hK => ?_)
              · skip
                refine goes_ Try.func35 (by kernel_rfl) rfl #[.agg #[.int .i64 c.t3, .bool true]] (by rfl) rfl rfl (by simp only [List.map_toArray, List.map_cons, List.map_nil]; rfl) ?_
                with_reducible refine (unix2_any c.t3 _).mono ?_
                rintro e wy ⟨rfl, hb_⟩
                refine ⟨_, rfl, ?_⟩
                have hbm := below_step hbn hb_
                refine hK.out _ _ ((HSX.out _ hbm)) (fun hHeld => ?_)
                clear hK K
                refine norm_ (a' := ?_) ?_ ?_
                rotate_left
                · show Act.put _ (some 80) _ = _
                  simp only [Act.put, List.setIfInBounds_toArray, List.set_cons_zero, List.set_cons_succ, i64_w, i32_w]
                  rfl
                exact norm_ (by first | (simp only [putAll, Act.put, List.setIfInBounds_toArray, List.set_cons_zero, List.set_cons_succ]; done) | (simp only [putAll, Act.put, List.setIfInBounds_toArray, List.set_cons_zero, List.set_cons_succ]; rfl)) (hJ10_21_37_42_47 () _ hbm)
              · skip
                refine value_ (w1 := ?_) (v := ?_) (by rfl) rfl ?_ ?_
                rotate_left 2
                · go_simp
                  constructor
                  · rfl
                  · rfl
                refine hK.out _ _ ((HSX.out _ (below_alloc hbn _))) (fun hHeld => ?_)
                clear hK K
                refine norm_ (a' := ?_) ?_ ?_
                rotate_left
                · show Act.put _ (some 9) _ = _
                  simp only [Act.put, List.setIfInBounds_toArray, List.set_cons_zero, List.set_cons_succ, i64_w, i32_w]
                  rfl
                exact norm_ (by first | (simp only [putAll, Act.put, List.setIfInBounds_toArray, List.set_cons_zero, List.set_cons_succ]; done) | (simp only [putAll, Act.put, List.setIfInBounds_toArray, List.set_cons_zero, List.set_cons_succ]; rfl)) (hJ10_21_37_42_68 _ _ ⟨below_alloc hbn _, Box.new _ _ _, hbn.size⟩)
          · skip
            rintro s_ wn ⟨hbn, hxn, hgn⟩
            have hHeld := HSX.out _ hbn
            refine norm_ (a' := ?_) ?_ ?_
            rotate_left
            · simp only [putAll, Act.put, List.setIfInBounds_toArray, List.set_cons_zero, List.set_cons_succ]
              rfl
            refine one_ (i := 47) (N := some 80) #[true, true, true, true, true, true, true, true, true, true, true, true, true, true, true, true, true, true, true, true, true, true, true, true, true, true, true, true, true, true, true, true, true, true, true, true, true, true, true, true, true, true, true, true, true, true, true, true, true, true, true, true, false, true, true, true, true, true, true, true, true, true, true, true, true, true, true, false, true, false] rfl rfl (one_of HT_.out (by kernel_rfl)) (by decide) (fun K hK => ?_)
            refine goes_ Try.func35 (by kernel_rfl) rfl #[.agg #[.int .i64 c.t3, .bool true]] (by rfl) rfl rfl (by simp only [List.map_toArray, List.map_cons, List.map_nil]; rfl) ?_
            with_reducible refine (unix2_any c.t3 _).mono ?_
            rintro e wy ⟨rfl, hb_⟩
            refine ⟨_, rfl, ?_⟩
            have hbm := below_step hbn hb_
            have hxm := hxn.below hb_
            refine hK.out _ _ ((HSX.out _ hbm)) (fun hHeld => ?_)
            clear hK K
            refine norm_ (a' := ?_) ?_ ?_
            rotate_left
            · show Act.put _ (some 80) _ = _
              simp only [Act.put, List.setIfInBounds_toArray, List.set_cons_zero, List.set_cons_succ, i64_w, i32_w]
              rfl
            exact norm_ (by first | (simp only [putAll, Act.put, List.setIfInBounds_toArray, List.set_cons_zero, List.set_cons_succ]; done) | (simp only [putAll, Act.put, List.setIfInBounds_toArray, List.set_cons_zero, List.set_cons_succ]; rfl)) (hJ10_21_37_42_47_68 s_ _ ⟨hbm, hxm, hgn⟩)
        · skip
          rintro _ wn hbn
          have hHeld := HSX.out _ hbn
          refine norm_ (a' := ?_) ?_ ?_
          rotate_left
          · simp only [putAll, Act.put, List.setIfInBounds_toArray, List.set_cons_zero, List.set_cons_succ]
            rfl
          refine two_ (i := 52) (j := 68) (Ni := some 85) (Nj := some 9) #[true, true, true, true, true, true, true, true, true, true, true, true, true, true, true, true, true, true, true, true, true, true, true, true, true, true, true, true, true, true, true, true, true, true, true, true, true, true, true, true, true, true, true, true, true, true, true, true, true, true, true, true, true, true, true, true, true, true, true, true, true, true, true, true, true, true, true, false, false, false] #[true, true, true, true, true, true, true, true, true, true, true, true, true, true, true, true, true, true, true, true, true, true, true, true, true, true, true, true, true, true, true, true, true, true, true, true, true, true, true, true, true, true, true, true, true, true, true, true, true, true, true, true, false, true, true, true, true, true, true, true, true, true, true, true, true, true, true, false, true, false] rfl rfl rfl rfl (two_of HT_.out (by kernel_rfl)) (by decide) (by decide) (fun K hK => ?_) (fun K hK => ?_)
          · skip
            refine goes_ Try.func35 (by kernel_rfl) rfl #[.agg #[.int .i64 c.t4, .bool true]] (by rfl) rfl rfl (by simp only [List.map_toArray, List.map_cons, List.map_nil]; rfl) ?_
            with_reducible refine (unix2_any c.t4 _).mono ?_
            rintro e wy ⟨rfl, hb_⟩
            refine ⟨_, rfl, ?_⟩
            have hbm := below_step hbn hb_
            refine hK.out _ _ ((HSX.out _ hbm)) (fun hHeld => ?_)
            clear hK K
            refine norm_ (a' := ?_) ?_ ?_
            rotate_left
            · show Act.put _ (some 85) _ = _
              simp only [Act.put, List.setIfInBounds_toArray, List.set_cons_zero, List.set_cons_succ, i64_w, i32_w]
              rfl
            refine pure_ (i := 67) (N := some 100) (v := ?_) (a' := ?_) #[true, true, true, true, true, true, true, true, true, true, true, true, true, true, true, true, true, true, true, true, true, true, true, true, true, true, true, true, true, true, true, true, true, true, true, true, true, true, true, true, true, true, true, true, true, true, true, true, true, true, true, true, true, true, true, true, true, true, true, true, true, true, true, true, true, true, true, true, false, false] rfl rfl (any_of HT_.out (by kernel_rfl)) (fun _ _ _ h => h) (Or.inl ⟨by rfl, ?_⟩) ?_ ?_
            rotate_left
            · intro w'
              go_simp
              with_reducible rfl
            rotate_left
            · simp only [Act.put, List.setIfInBounds_toArray, List.set_cons_zero, List.set_cons_succ, i64_w, i32_w]
              rfl
            exact norm_ (by first | (simp only [putAll, Act.put, List.setIfInBounds_toArray, List.set_cons_zero, List.set_cons_succ]; done) | (simp only [putAll, Act.put, List.setIfInBounds_toArray, List.set_cons_zero, List.set_cons_succ]; rfl)) (hJ10_21_37_42_47_52 () _ hbm)
          · skip
            refine value_ (w1 := ?_) (v := ?_) (by rfl) rfl ?_ ?_
            rotate_left 2
            · go_simp
              constructor
              · rfl
              · rfl
            refine hK.out _ _ ((HSX.out _ (below_alloc hbn _))) (fun hHeld => ?_)
            clear hK K
            refine norm_ (a' := ?_) ?_ ?_
            rotate_left
            · show Act.put _ (some 9) _ = _
              simp only [Act.put, List.setIfInBounds_toArray, List.set_cons_zero, List.set_cons_succ, i64_w, i32_w]
              rfl
            exact norm_ (by first | (simp only [putAll, Act.put, List.setIfInBounds_toArray, List.set_cons_zero, List.set_cons_succ]; done) | (simp only [putAll, Act.put, List.setIfInBounds_toArray, List.set_cons_zero, List.set_cons_succ]; rfl)) (hJ10_21_37_42_47_68 _ _ ⟨below_alloc hbn _, Box.new _ _ _, hbn.size⟩)
      · skip
        rintro s_ wn ⟨hbn, hxn, hgn⟩
        have hHeld := HSX.out _ hbn
        refine norm_ (a' := ?_) ?_ ?_
        rotate_left
        · simp only [putAll, Act.put, List.setIfInBounds_toArray, List.set_cons_zero, List.set_cons_succ]
          rfl
        refine one_ (i := 52) (N := some 85) #[true, true, true, true, true, true, true, true, true, true, true, true, true, true, true, true, true, true, true, true, true, true, true, true, true, true, true, true, true, true, true, true, true, true, true, true, true, true, true, true, true, true, true, true, true, true, true, true, true, true, true, true, true, true, true, true, true, true, true, true, true, true, true, true, true, true, true, false, true, false] rfl rfl (one_of HT_.out (by kernel_rfl)) (by decide) (fun K hK => ?_)
        refine goes_ Try.func35 (by kernel_rfl) rfl #[.agg #[.int .i64 c.t4, .bool true]] (by rfl) rfl rfl (by simp only [List.map_toArray, List.map_cons, List.map_nil]; rfl) ?_
        with_reducible refine (unix2_any c.t4 _).mono ?_
        rintro e wy ⟨rfl, hb_⟩
        refine ⟨_, rfl, ?_⟩
        have hbm := below_step hbn hb_
        have hxm := hxn.below hb_
        refine hK.out _ _ ((HSX.out _ hbm)) (fun hHeld => ?_)
        clear hK K
        refine norm_ (a' := ?_) ?_ ?_
        rotate_left
        · show Act.put _ (some 85) _ = _
          simp only [Act.put, List.setIfInBounds_toArray, List.set_cons_zero, List.set_cons_succ, i64_w, i32_w]
          rfl
        refine pure_ (i := 67) (N := some 100) (v := ?_) (a' := ?_) #[true, true, true, true, true, true, true, true, true, true, true, true, true, true, true, true, true, true, true, true, true, true, true, true, true, true, true, true, true, true, true, true, true, true, true, true, true, true, true, true, true, true, true, true, true, true, true, true, true, true, true, true, true, true, true, true, true, true, true, true, true, true, true, true, true, true, true, true, true, false] rfl rfl (any_of HT_.out (by kernel_rfl)) (fun _ _ _ h => h) (Or.inl ⟨by rfl, ?_⟩) ?_ ?_
        rotate_left
        · intro w'
          go_simp
          with_reducible rfl
        rotate_left
        · simp only [Act.put, List.setIfInBounds_toArray, List.set_cons_zero, List.set_cons_succ, i64_w, i32_w]
          rfl
        exact norm_ (by first | (simp only [putAll, Act.put, List.setIfInBounds_toArray, List.set_cons_zero, List.set_cons_succ]; done) | (simp only [putAll, Act.put, List.setIfInBounds_toArray, List.set_cons_zero, List.set_cons_succ]; rfl)) (hJ10_21_37_42_47_52_68 s_ _ ⟨hbm, hxm, hgn⟩)
    · skip
      rintro _ wn hbn
      have hHeld := HSX.out _ hbn
      refine norm_ (a' := ?_) ?_ ?_
      rotate_left
      · simp only [putAll, Act.put, List.setIfInBounds_toArray, List.set_cons_zero, List.set_cons_succ]
        rfl
      refine one_ (i := 68) (N := some 9) #[true, true, true, true, true, true, true, true, true, true, true, true, true, true, true, true, true, true, true, true, true, true, true, true, true, true, true, true, true, true, true, true, true, true, true, true, true, true, true, true, true, true, true, true, true, true, true, true, true, true, true, true, true, true, true, true, true, true, true, true, true, true, true, true, true, true, true, true, true, false] rfl rfl (one_of HT_.out (by kernel_rfl)) (by decide) (fun K hK => ?_)
      refine value_ (w1 := ?_) (v := ?_) (by rfl) rfl ?_ ?_
      rotate_left 2
      · go_simp
        constructor
        · rfl
        · rfl
      refine hK.out _ _ ((HSX.out _ (below_alloc hbn _))) (fun hHeld => ?_)
      clear hK K
      refine norm_ (a' := ?_) ?_ ?_
      rotate_left
      · show Act.put _ (some 9) _ = _
        simp only [Act.put, List.setIfInBounds_toArray, List.set_cons_zero, List.set_cons_succ, i64_w, i32_w]
        rfl
      exact norm_ (by first | (simp only [putAll, Act.put, List.setIfInBounds_toArray, List.set_cons_zero, List.set_cons_succ]; done) | (simp only [putAll, Act.put, List.setIfInBounds_toArray, List.set_cons_zero, List.set_cons_succ]; rfl)) (hJ10_21_37_42_47_52_68 _ _ ⟨below_alloc hbn _, Box.new _ _ _, hbn.size⟩)
  rintro s_ wn ⟨hbn, hxn, hgn⟩
  have hHeld := HSX.out _ hbn
  refine norm_ (a' := ?_) ?_ ?_
  rotate_left
  · simp only [putAll, Act.put, List.setIfInBounds_toArray, List.set_cons_zero, List.set_cons_succ]
    rfl
  refine last_ (i := 69) (N := none) #[true, true, true, true, true, true, true, true, true, true, true, true, true, true, true, true, true, true, true, true, true, true, true, true, true, true, true, true, true, true, true, true, true, true, true, true, true, true, true, true, true, true, true, true, true, true, true, true, true, true, true, true, true, true, true, true, true, true, true, true, true, true, true, true, true, true, true, true, true, true] rfl rfl (one_of HT_.out (by kernel_rfl)) (by decide) (fun K hK => ?_)
  have e0_ := hxn.cell 0 _ rfl
  have e1_ := hxn.cell 1 _ rfl
  have e2_ := hxn.cell 2 _ rfl
  have e3_ := hxn.cell 3 _ rfl
  have e4_ := hxn.cell 4 _ rfl
  have e5_ := hxn.cell 5 _ rfl
  have e6_ := hxn.cell 6 _ rfl
  have e7_ := hxn.cell 7 _ rfl
  have e8_ := hxn.cell 8 _ rfl
  have e9_ := hxn.cell 9 _ rfl
  have e10_ := hxn.cell 10 _ rfl
  have e11_ := hxn.cell 11 _ rfl
  have e12_ := hxn.cell 12 _ rfl
  have e13_ := hxn.cell 13 _ rfl
  have e14_ := hxn.cell 14 _ rfl
  have e15_ := hxn.cell 15 _ rfl
  have e16_ := hxn.cell 16 _ rfl
  have e17_ := hxn.cell 17 _ rfl
  have f0_ := hxn.free 0
  have f1_ := hxn.free 1
  have f2_ := hxn.free 2
  have f3_ := hxn.free 3
  have f4_ := hxn.free 4
  have f5_ := hxn.free 5
  have f6_ := hxn.free 6
  have f7_ := hxn.free 7
  have f8_ := hxn.free 8
  have f9_ := hxn.free 9
  have f10_ := hxn.free 10
  have f11_ := hxn.free 11
  have f12_ := hxn.free 12
  have f13_ := hxn.free 13
  have f14_ := hxn.free 14
  have f15_ := hxn.free 15
  have f16_ := hxn.free 16
  have f17_ := hxn.free 17
  refine skip_ (w1 := ?_) (by rfl) rfl ?_ ?_
  rotate_left
  · go_simp
    rfl
  clear e0_ f0_ e1_ f1_ e2_ f2_ e3_ f3_ e4_ f4_ e5_ f5_ e6_ f6_ e7_ f7_ e8_ f8_ e9_ f9_ e10_ f10_ e11_ f11_ e12_ f12_ e13_ f13_ e14_ f14_ e15_ f15_ e16_ f16_ e17_ f17_
  refine hK.out _ _ ?_
  clear hK K
  refine done_ (done_of HT_.out (by kernel_rfl)) ?_
  refine NoPanic.normal ?_
  have hfill : Box (wn.setCells s_ 0 [.string c.client.realm, .slice X2 c.client.names.length z2, .int .i32 c.client.kind, .string c.server.realm, .slice X5 c.server.names.length z5, .int .i32 c.server.kind, .int .i32 c.kt, .string (strOfNums c.key), .int .i64 c.t1, .int .i64 c.t2, .int .i64 c.t3, .int .i64 c.t4, .bool ik, .int .u32 0, .slice none 0 0, .slice none 0 0, .string (strOfNums c.tk), .string (strOfNums c.sc)]) s_ 47 #[.string c.client.realm, .slice X2 c.client.names.length z2, .int .i32 c.client.kind, .string c.server.realm, .slice X5 c.server.names.length z5, .int .i32 c.server.kind, .int .i32 c.kt, .string (strOfNums c.key), .int .i64 c.t1, .int .i64 c.t2, .int .i64 c.t3, .int .i64 c.t4, .bool ik, .int .u32 0, .slice none 0 0, .slice none 0 0, .string (strOfNums c.tk), .string (strOfNums c.sc)] := Box.fill [.string c.client.realm, .slice X2 c.client.names.length z2, .int .i32 c.client.kind, .string c.server.realm, .slice X5 c.server.names.length z5, .int .i32 c.server.kind, .int .i32 c.kt, .string (strOfNums c.key), .int .i64 c.t1, .int .i64 c.t2, .int .i64 c.t3, .int .i64 c.t4, .bool ik, .int .u32 0, .slice none 0 0, .slice none 0 0, .string (strOfNums c.tk), .string (strOfNums c.sc)] zero47.toList [] 0 wn rfl rfl hxn
  have hbw := Go.below_setCells hgn [.string c.client.realm, .slice X2 c.client.names.length z2, .int .i32 c.client.kind, .string c.server.realm, .slice X5 c.server.names.length z5, .int .i32 c.server.kind, .int .i32 c.kt, .string (strOfNums c.key), .int .i64 c.t1, .int .i64 c.t2, .int .i64 c.t3, .int .i64 c.t4, .bool ik, .int .u32 0, .slice none 0 0, .slice none 0 0, .string (strOfNums c.tk), .string (strOfNums c.sc)] 0 wn hbn
  rw [setCells18] at hfill hbw
  exact HQ8.out s_ _ _ _ _ _ _ _ _ _ _ _ _ _ _ _ _ _ _ _ _ _ _ _ _ _ _ _ _ _ _ _ _ _ _ _ _ _ _ _ _ _ _ _ _ _ _ _ _ _ _ _ _ _ _ _ _ _ _ _ _ _ _ _ _ _ _ _ _ _ (below_from HBD.out hbw) hfill (Nat.le_trans HGE.out hgn)
end Go.Proofs.Ytnipcocllhfaoaa.B

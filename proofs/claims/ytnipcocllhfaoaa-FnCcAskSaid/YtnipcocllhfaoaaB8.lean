/- A cache is read: its version, its principal, its credentials; under what each theorem states. -/
import Derived.Test.YtnipcocllhfaoaaB7
namespace Go.Proofs.Ytnipcocllhfaoaa.B
open Go.RowKit Go.Proofs.YtnipcocllhfaoaaW.PrintWords Go.Proofs.YtnipcocllhfaoaaW.PrintLast
set_option linter.unusedVariables false
set_option linter.unusedSimpArgs false
set_option maxRecDepth 100000
/-- As At, where the block gc came in and is written too. -/
structure At2 (w0 w : World) (gb gp ge gc : Nat) (l : List Int) (p : Nat) : Prop where
  src : Src w gb ge l
  pos : Pos w gp p
  grown : w0.grownBy w (some gc)
  new : w0.heap.size ≤ gp
section
variable {w0 w w' : World} {gb gp ge gc p p' g t : Nat} {l : List Int} {cs : Array Value}
theorem At2.call (h : At2 w0 w gb gp ge gc l p) (hg : w.grownBy w' (some gp)) (hp : Pos w' gp p') : At2 w0 w' gb gp ge gc l p' :=
  ⟨h.src.grown h.pos hg, hp, grown_then h.grown hg fun j hj => by injection hj with hj; have := h.new; omega, h.new⟩
theorem At2.dies (h : At2 w0 w gb gp ge gc l p) (hg : w.grownBy w' (some gp)) : w0.grownBy w' (some gc) := grown_then h.grown hg fun j hj => by injection hj with hj; have := h.new; omega
theorem At2.below (h : At2 w0 w gb gp ge gc l p) (hb : Below w.heap.size w w') : At2 w0 w' gb gp ge gc l p := ⟨h.src.below hb, h.pos.below hb, grown_below h.grown hb, h.new⟩
theorem At2.set (h : At2 w0 w gb gp ge gc l p) (hb : Box w g t cs) (ht : t ≠ 3 ∧ t ≠ 5 ∧ t ≠ 117) (hg : w0.heap.size ≤ g ∨ some gc = some g) (i : Nat) (v : Value) : At2 w0 (w.setCell ⟨g, i, none⟩ v) gb gp ge gc l p :=
  ⟨h.src.set hb ht.2.1 ht.2.2, h.pos.set hb ht.1, grown_set h.grown hg, h.new⟩
theorem At2.row {α : Type} {d : Kd α} {e base : Nat} {ok : Nat → Prop} {v : Value} {xs : List α} (h : At2 w0 w gb gp ge gc l p) (hR : d.R e w base ok v xs) (ht : e ≠ 3 ∧ e ≠ 5 ∧ e ≠ 117) (hb : w0.heap.size ≤ base) (hg : w.grownBy w' v.ownBlock) : At2 w0 w' gb gp ge gc l p :=
  ⟨⟨blk_grown h.src.row hg (Kd.R_ne hR h.src.row ht.2.1), blk_grown h.src.order hg (Kd.R_ne hR h.src.order ht.2.2)⟩, blk_grown h.pos hg (Kd.R_ne hR h.pos ht.1),
    grown_then h.grown hg fun j hj => Nat.le_trans hb (Kd.R_base hR j hj), h.new⟩
theorem At2.size (h : At2 w0 w gb gp ge gc l p) : w0.heap.size ≤ w.heap.size := h.grown.size
end
/-- Credentials, till the bytes end. -/
def rCreds (ver : Nat) (l : List Int) : Nat → Nat → Option (List PCred)
  | 0, _ => none
  | n + 1, p => if p < l.length then (rCred ver l p).bind fun c => (rCreds ver l n c.2).bind fun r => some (c.1 :: r) else some []
/-- A cache behind its header. -/
def rCache (ver : Nat) (l : List Int) (q : Nat) : Option (Prin × List PCred) := (rPrin l q).bind fun a => (rCreds ver l (l.length + 1) a.2).bind fun r => some (a.1, r)
theorem rCred_lt {ver : Nat} {l : List Int} {p p' : Nat} {a : PCred} (h : rCred ver l p = some (a, p')) : p' ≤ l.length ∧ p < p' := by
  unfold rCred at h
  obtain ⟨x1, h1, h⟩ := Option.bind_eq_some_iff.1 h
  obtain ⟨x2, h2, h⟩ := Option.bind_eq_some_iff.1 h
  obtain ⟨x3, h3, h⟩ := Option.bind_eq_some_iff.1 h
  obtain ⟨x4, h4, h⟩ := Option.bind_eq_some_iff.1 h
  obtain ⟨x5, h5, h⟩ := Option.bind_eq_some_iff.1 h
  obtain ⟨x6, h6, h⟩ := Option.bind_eq_some_iff.1 h
  obtain ⟨x7, h7, h⟩ := Option.bind_eq_some_iff.1 h
  obtain ⟨x8, h8, h⟩ := Option.bind_eq_some_iff.1 h
  obtain ⟨x9, h9, h⟩ := Option.bind_eq_some_iff.1 h
  obtain ⟨x10, h10, h⟩ := Option.bind_eq_some_iff.1 h
  obtain ⟨x11, h11, h⟩ := Option.bind_eq_some_iff.1 h
  obtain ⟨x12, h12, h⟩ := Option.bind_eq_some_iff.1 h
  obtain ⟨x13, h13, h⟩ := Option.bind_eq_some_iff.1 h
  obtain ⟨x14, h14, h⟩ := Option.bind_eq_some_iff.1 h
  obtain ⟨_, rfl⟩ := Prod.mk.inj (Option.some.inj h)
  have q1 := rPrin_le (a := x1.1) (p' := x1.2) h1
  have q2 := rPrin_le (a := x2.1) (p' := x2.2) h2
  have q3 := rType_le (a := x3.1) (p' := x3.2) h3
  have q4 := rData_le4 (a := x4.1) (p' := x4.2) h4
  have q5 := r32_le (a := x5.1) (p' := x5.2) h5
  have q6 := r32_le (a := x6.1) (p' := x6.2) h6
  have q7 := r32_le (a := x7.1) (p' := x7.2) h7
  have q8 := r32_le (a := x8.1) (p' := x8.2) h8
  have q9 := r8_le (a := x9.1) (p' := x9.2) h9
  have q10 := rBytes_le (a := x10.1) (p' := x10.2) h10
  have q11 := rParts_le (a := x11.1) (p' := x11.2) h11
  have q12 := rParts_le (a := x12.1) (p' := x12.2) h12
  have q13 := rData_le4 (a := x13.1) (p' := x13.2) h13
  have q14 := rData_le4 (a := x14.1) (p' := x14.2) h14
  omega
def kPtr : Kd Nat := Kd.scalar (fun g => Value.pointer (some ⟨g, 0, none⟩)) (fun _ => rfl)
/-- Credentials, and the blocks in which they lie. -/
def CredsAt (base : Nat) (w : World) (gs : List Nat) (cs : List PCred) : Prop := gs.length = cs.length ∧ ∀ (i g : Nat) (c : PCred), gs[i]? = some g → cs[i]? = some c → CredAt base w g c
/-- What is left of a cache's bytes. -/
def CacheAt (w0 : World) (gc ver : Nat) (a : Prin) (r : List PCred) (w : World) : Prop :=
  ∃ (y1 y2 : Value) (A5 A6 : Option Addr) (c5 c6 : Nat) (gs : List Nat), Box w gc 79 #[.int .u8 ver, y1, y2, .string a.realm, .int .i32 a.kind, .slice A5 a.names.length c5, .slice A6 gs.length c6, .string ⟨#[]⟩] ∧
    Kd.string.R 9 w w0.heap.size (fun _ => True) (.slice A5 a.names.length c5) a.names ∧ kPtr.R 85 w w0.heap.size (fun _ => True) (.slice A6 gs.length c6) gs ∧ CredsAt w0.heap.size w gs r
/-- What Unmarshal leaves. -/
def Cached (w0 : World) (gc ver q : Nat) (l : List Int) (e : Ending) (w' : World) : Prop :=
  w0.grownBy w' (some gc) ∧ match rCache ver l q with
    | some (a, r) => e = .returned .nilIface ∧ CacheAt w0 gc ver a r w'
    | none => Dead e
theorem Cached.dies {w0 w' : World} {gc ver q : Nat} {l : List Int} {e : Ending} (hg : w0.grownBy w' (some gc)) (h : rCache ver l q = none) (hd : Dead e) : Cached w0 gc ver q l e w' := by
  refine ⟨hg, ?_⟩
  rw [h]
  exact hd
theorem Cached.gives {w0 w' : World} {gc ver q : Nat} {l : List Int} {a r} (hg : w0.grownBy w' (some gc)) (h : rCache ver l q = some (a, r)) (hc : CacheAt w0 gc ver a r w') : Cached w0 gc ver q l (.returned .nilIface) w' := by
  refine ⟨hg, ?_⟩
  rw [h]
  exact ⟨rfl, hc⟩
theorem info85 : (Try.prog.info? 85).map (fun i => (i.zero, i.size, i.bytes)) = some (some (.pointer none), 1, 8) := by kernel_rfl
theorem CredAt.stable (X : List Nat) (base g : Nat) (a : PCred) (hX : ∀ q, q ∈ [96, 9, 5, 100, 103] → q ∉ X) : Stable X (fun w => CredAt base w g a) := by
  rintro w w' ⟨A2, A5, A7, A17, A19, A20, A21, A22, c2, c5, c7, c17, c19, c20, c21, c22, h0, h1, h2, h3, h4, h5, h6, h7, h8⟩ hk
  have q5 : ∀ q, q ∈ 5 :: (Kd.int .u8).E → q ∉ X := fun q hq => hX q (by simp [Kd.int, Kd.scalar] at hq; simp [hq])
  have q9 : ∀ q, q ∈ 9 :: Kd.string.E → q ∉ X := fun q hq => hX q (by simp [Kd.string, Kd.scalar] at hq; simp [hq])
  have qa : ∀ q, q ∈ 100 :: kPart.E → q ∉ X := fun q hq => hX q (by simp [kPart, Kd.pair, Kd.slice, Kd.int, Kd.scalar] at hq; rcases hq with rfl | rfl <;> simp)
  have qb : ∀ q, q ∈ 103 :: kPart.E → q ∉ X := fun q hq => hX q (by simp [kPart, Kd.pair, Kd.slice, Kd.int, Kd.scalar] at hq; rcases hq with rfl | rfl <;> simp)
  exact ⟨A2, A5, A7, A17, A19, A20, A21, A22, c2, c5, c7, c17, c19, c20, c21, c22, Stable.box X _ _ _ (hX 96 (by simp)) _ _ h0 hk, Stable.row X _ _ _ _ _ q9 _ _ h1 hk, Stable.row X _ _ _ _ _ q9 _ _ h2 hk, Stable.row X _ _ _ _ _ q5 _ _ h3 hk, Stable.row X _ _ _ _ _ q5 _ _ h4 hk,
    Stable.rowQ X _ _ _ _ _ qa _ _ h5 hk, Stable.rowQ X _ _ _ _ _ qb _ _ h6 hk, Stable.row X _ _ _ _ _ q5 _ _ h7 hk, Stable.row X _ _ _ _ _ q5 _ _ h8 hk⟩
theorem CredsAt.stable (X : List Nat) (base : Nat) (gs : List Nat) (cs : List PCred) (hX : ∀ q, q ∈ [96, 9, 5, 100, 103] → q ∉ X) : Stable X (fun w => CredsAt base w gs cs) :=
  fun w w' h hk => ⟨h.1, fun i g c hg hc => CredAt.stable X base g c hX w w' (h.2 i g c hg hc) hk⟩
theorem CredAt.lower {base base' g : Nat} {w : World} {a : PCred} (h : CredAt base w g a) (hb : base' ≤ base) : CredAt base' w g a := by
  obtain ⟨A2, A5, A7, A17, A19, A20, A21, A22, c2, c5, c7, c17, c19, c20, c21, c22, h0, h1, h2, h3, h4, h5, h6, h7, h8⟩ := h
  exact ⟨A2, A5, A7, A17, A19, A20, A21, A22, c2, c5, c7, c17, c19, c20, c21, c22, h0, Kd.R_lower h1 hb, Kd.R_lower h2 hb, Kd.R_lower h3 hb, Kd.R_lower h4 hb, Kd.Q_lower h5 hb, Kd.Q_lower h6 hb, Kd.R_lower h7 hb, Kd.R_lower h8 hb⟩
theorem CredsAt.snoc {base g : Nat} {w : World} {gs : List Nat} {cs : List PCred} {c : PCred} (h : CredsAt base w gs cs) (hc : CredAt base w g c) : CredsAt base w (gs ++ [g]) (cs ++ [c]) := by
  refine ⟨by simp [h.1], fun i g' c' hg hc' => ?_⟩
  rcases Nat.lt_trichotomy i gs.length with hi | hi | hi
  · rw [List.getElem?_append_left hi] at hg
    rw [List.getElem?_append_left (h.1 ▸ hi)] at hc'
    exact h.2 i g' c' hg hc'
  · rw [hi, List.getElem?_append_right (Nat.le_refl _), Nat.sub_self] at hg
    rw [hi, h.1, List.getElem?_append_right (Nat.le_refl _), Nat.sub_self] at hc'
    simp at hg hc'
    subst hg hc'
    exact hc
  · rw [List.getElem?_eq_none (by simp; omega)] at hg
    cases hg
set_option maxHeartbeats 8000000 in
theorem unmarshal_any (gb gc ver q : Nat) (l : List Int) (w : World) (hl : okBytes l) (hb : Box w gb 5 (nums .u8 l).toArray) (hc : Box w gc 79 #[.int .u8 0, .int .u16 0, .slice none 0 0, .string ⟨#[]⟩, .int .i32 0, .slice none 0 0, .slice none 0 0, .string ⟨#[]⟩])
    (h5 : l.getD 0 0 = 5) (hlen : 1 < l.length) (hv : l.getD 1 0 = (ver : Int)) (hq : ver = 3 ∧ q = 2 ∨ ver = 4 ∧ rHeader l 2 = some q) :
    Calls Try.prog 32 #[.pointer (some ⟨gc, 0, none⟩), .slice (some ⟨gb, 0, none⟩) l.length l.length] w (Cached w gc ver q l) := by
  have HL := Aside0.mk hl
  have hl1 := hl.1
  have hgc : gc < w.heap.size := hc.lt
  have hgb : gb < w.heap.size := hb.lt
  have k0 : w.cell? ⟨gb, 0, none⟩ = some (.int .u8 5) := by
    have := (show Src w gb gb l → True from fun _ => trivial)
    rw [blk_cell hb]; simp [nums, List.getElem?_eq_getElem (show 0 < l.length from by omega)]; rw [← h5, List.getD_eq_getElem?_getD, List.getElem?_eq_getElem (show 0 < l.length from by omega)]; rfl
  have k1 : w.cell? ⟨gb, 1, none⟩ = some (.int .u8 (ver : Int)) := by
    rw [blk_cell hb]; simp [nums, List.getElem?_eq_getElem hlen]; rw [← hv, List.getD_eq_getElem?_getD, List.getElem?_eq_getElem hlen]; rfl
  have d0 := hc.cell 0 (.int .u8 0) rfl
  have e0 := hc.free 0
  have HB := Aside0.mk hb
  have HC := Aside0.mk hc
  have HQ := Aside0.mk hq
  have i0 : (0 : Int) < (l.length : Int) := by omega
  have i1 : (1 : Int) < (l.length : Int) := by omega
  have hw5 : IntKind.i8.wrap 5 = 5 := by decide
  have hv0 : 3 ≤ (ver : Int) := by rcases hq with h | h <;> omega
  have hv1 : (ver : Int) ≤ 4 := by rcases hq with h | h <;> omega
  have t1 : ((ver : Int) == 1) = false := by simp; omega
  have t2 : ((ver : Int) == 2) = false := by simp; omega
  have hu119 := Try.underlying119
  clear hl hb hc h5 hv hq
  go_enter Try.func32, Try.ntmps32
  go_upto_if 64 with fail
  clear d0 e0 k0 k1 i0 i1 hw5 t1 t2
  obtain ⟨cs, hcs⟩ : ∃ cs : Array Value, cs = #[.int .u8 (ver : Int), .int .u16 0, .slice none 0 0, .string ⟨#[]⟩, .int .i32 0, .slice none 0 0, .slice none 0 0, .string ⟨#[]⟩] := ⟨_, rfl⟩
  have HCS := Aside0.mk hcs
  have hne : gb ≠ gc := HB.out.ne HC.out (by decide)
  have b1 := HB.out.far hne 0 (.int .u8 ver)
  have c1 := HC.out.puts (cs' := cs) 0 (.int .u8 ver) (by rw [hcs]; rfl)
  have hsz : (w.setCell ⟨gc, 0, none⟩ (.int .u8 ver)).heap.size = w.heap.size := by simp
  have p1 := Box.new (w.setCell ⟨gc, 0, none⟩ (.int .u8 ver)) #[.int .i64 2] 3
  have e1 := Box.next (w.setCell ⟨gc, 0, none⟩ (.int .u8 ver)) (.cells #[.int .i64 2] 3) #[.iface 119 (.agg #[])] 117
  rw [hsz] at p1 e1
  have A1 := Aside0.mk (show At2 w (((w.setCell ⟨gc, 0, none⟩ (.int .u8 ver)).alloc (.cells #[.int .i64 2] 3)).alloc (.cells #[.iface 119 (.agg #[])] 117)) gb w.heap.size (w.heap.size + 1) gc l 2 from
    ⟨⟨(b1.alloc _).alloc _, e1⟩, p1.alloc _, grown_alloc (grown_alloc (grown_set (World.grownBy.refl w _) (.inr rfl)) _) _, Nat.le_refl _⟩)
  have C1 := Aside0.mk ((c1.alloc (.cells #[.int .i64 2] 3)).alloc (.cells #[.iface 119 (.agg #[])] 117))
  clear hcs hne b1 c1 hsz p1 e1
  generalize ((w.setCell ⟨gc, 0, none⟩ (.int .u8 ver)).alloc (.cells #[.int .i64 2] 3)).alloc (.cells #[.iface 119 (.agg #[])] 117) = w1 at *
  clear HB HC
  have HVQ := Aside0.mk (show q ≤ l.length → True from fun _ => trivial)
  clear HVQ
  go_cut [] (fun wx => ∃ (y1 y2 : Value), Aside0 (At2 w wx gb w.heap.size (w.heap.size + 1) gc l q) ∧ Aside0 (Box wx gc 79 #[.int .u8 (ver : Int), y1, y2, .string ⟨#[]⟩, .int .i32 0, .slice none 0 0, .slice none 0 0, .string ⟨#[]⟩]) ∧ Aside0 (q ≤ l.length))
  case first =>
    rcases HQ.out with ⟨rfl, rfl⟩ | ⟨rfl, hh⟩
    · have hb : (((3 : Nat) : Int) == 4) = false := rfl
      go_wp2_with fail
      go_meet
      exact ⟨_, _, A1, ⟨HCS.out ▸ C1.out⟩, ⟨by omega⟩⟩
    · have hb : (((4 : Nat) : Int) == 4) = true := rfl
      have HH := Aside0.mk hh
      clear hh HQ
      go_wp2_with fail
      with_reducible refine (parseHeader_any gb w.heap.size (w.heap.size + 1) gc 2 q cs l _ HL.out A1.out.src A1.out.pos C1.out (by rw [HCS.out]; simp) (.int .u16 0) (.slice none 0 0) (by rw [HCS.out]; simp) (by rw [HCS.out]; simp) HH.out).mono ?_
      rintro e w2 ⟨rfl, w9, y1, y2, hA, hC, hq9, rfl⟩
      have c9 : Box w9 gc 79 #[.int .u8 ((4 : Nat) : Int), .int .u16 0, .slice none 0 0, .string ⟨#[]⟩, .int .i32 0, .slice none 0 0, .slice none 0 0, .string ⟨#[]⟩] := HCS.out ▸ hC
      have A9 := Aside0.mk (show At2 w w9 gb w.heap.size (w.heap.size + 1) gc l q from ⟨hA.src, hA.pos, grown_then A1.out.grown hA.grown fun j hj => by injection hj with hj; omega, Nat.le_refl _⟩)
      have C9 := Aside0.mk c9
      have HQ9 := Aside0.mk hq9
      clear hA hC c9 hq9
      go_wp2_with fail
      go_meet
      exact ⟨y1, y2, ⟨(A9.out.set C9.out (by decide) (.inr rfl) 1 y1).set (C9.out.put 1 y1) (by decide) (.inr rfl) 2 y2⟩, ⟨(C9.out.puts 1 y1 rfl).puts 2 y2 rfl⟩, HQ9⟩
  clear A1 C1 w1 HCS cs
  obtain ⟨y1, y2, A1, C1, HQL⟩ := hcut
  generalize wc = w1 at *
  go_wp2_with fail
  with_reducible refine (parsePrincipal_any gb w.heap.size (w.heap.size + 1) gc q ver _ l _ HL.out A1.out.src A1.out.pos HQL.out C1.out rfl (by rcases HQ.out with h | h <;> simp [h.1])).mono ?_
  intro e w2 h1
  rcases h1.cases with ⟨hr, ⟨dt, dx⟩, hg⟩ | ⟨a, p2, v, hr, rfl, hv, hg, hp1⟩
  · exact ⟨rfl, Cached.dies (A1.out.dies hg) (by simp [rCache, hr]) ⟨_, _⟩⟩
  have HA := Aside0.mk hr
  obtain ⟨Aa, ca, rfl, hv⟩ := hv
  have V2 := Aside0.mk (Kd.R_lower hv A1.out.size)
  have A2 := Aside0.mk (A1.out.call hg hp1)
  have C2 := Aside0.mk (C1.out.call A1.out.pos (by decide) hg)
  have x3 := C2.out.cell 3 (.string ⟨#[]⟩) rfl
  have x4 := C2.out.cell 4 (.int .i32 0) rfl
  have x5 := C2.out.cell 5 (.slice none 0 0) rfl
  have z3 := C2.out.free 3
  have z4 := C2.out.free 4
  have z5 := C2.out.free 5
  clear h1 hr hg hp1 hv A1 C1
  go_wp2_with fail
  have c3 := C2.out.puts (cs' := #[.int .u8 (ver : Int), y1, y2, .string a.realm, .int .i32 0, .slice none 0 0, .slice none 0 0, .string ⟨#[]⟩]) 3 (.string a.realm) rfl
  have c4 := c3.puts (cs' := #[.int .u8 (ver : Int), y1, y2, .string a.realm, .int .i32 a.kind, .slice none 0 0, .slice none 0 0, .string ⟨#[]⟩]) 4 (.int .i32 a.kind) rfl
  have A3 := Aside0.mk (((A2.out.set C2.out (by decide) (.inr rfl) 3 (.string a.realm)).set c3 (by decide) (.inr rfl) 4 (.int .i32 a.kind)).set c4 (by decide) (.inr rfl) 5 (.slice Aa a.names.length ca))
  have C3 := Aside0.mk (c4.puts (cs' := #[.int .u8 (ver : Int), y1, y2, .string a.realm, .int .i32 a.kind, .slice Aa a.names.length ca, .slice none 0 0, .string ⟨#[]⟩]) 5 (.slice Aa a.names.length ca) rfl)
  have V3 := Aside0.mk (row_set (row_set (row_set V2.out C2.out (by decide) 3 (.string a.realm)) c3 (by decide) 4 (.int .i32 a.kind)) c4 (by decide) 5 (.slice Aa a.names.length ca))
  clear x3 x4 x5 z3 z4 z5 c3 c4 A2 C2 V2
  generalize ((w2.setCell ⟨gc, 3, none⟩ (.string a.realm)).setCell ⟨gc, 4, none⟩ (.int .i32 a.kind)).setCell ⟨gc, 5, none⟩ (.slice Aa a.names.length ca) = w3 at *
  have HQ34 := Aside0.mk (show ver = 3 ∨ ver = 4 from by rcases HQ.out with h | h <;> simp [h.1])
  have HP2 := Aside0.mk (rPrin_le HA.out).1
  obtain ⟨N, hN⟩ : ∃ N, N = l.length + 1 := ⟨_, rfl⟩
  have HN := Aside0.mk hN
  clear hN
  go_loopg [] N (fun kq wr => ∃ (pk : Nat) (done : List PCred) (gs : List Nat) (Ag : Option Addr) (cg : Nat), Aside0 (rCreds ver l N p2 = (rCreds ver l kq pk).bind fun r => some (done ++ r)) ∧ Aside0 (pk ≤ l.length ∧ l.length < kq + pk ∧ done.length ≤ pk) ∧
      Aside0 (At2 w wr gb w.heap.size (w.heap.size + 1) gc l pk) ∧ Aside0 (Box wr gc 79 #[.int .u8 (ver : Int), y1, y2, .string a.realm, .int .i32 a.kind, .slice Aa a.names.length ca, .slice Ag gs.length cg, .string ⟨#[]⟩]) ∧
      Aside0 (Kd.string.R 9 wr w.heap.size (fun _ => True) (.slice Aa a.names.length ca) a.names) ∧ Aside0 (kPtr.R 85 wr w.heap.size (fun _ => True) (.slice Ag gs.length cg) gs) ∧ Aside0 (CredsAt w.heap.size wr gs done))
  case atStart => exact ⟨p2, [], [], none, 0, ⟨by cases rCreds ver l N p2 <;> simp⟩, ⟨HP2.out, by have := HN.out; omega, by simp⟩, A3, C3, V3, ⟨Kd.R_nil _ _ _ _ _⟩, ⟨⟨rfl, fun i g c h => by simp at h⟩⟩⟩
  clear A3 C3 V3
  obtain ⟨pk, done, gs, Ag, cg, HRec, HPK, A4, C4, V4, G4, D4⟩ := hrel
  cases gk with
  | zero => exact absurd HPK.out (by omega)
  | succ k1 =>
    have c1 := A4.out.pos.cell
    by_cases hlt : pk < l.length
    · have hlt' : (pk : Int) < (l.length : Int) := by omega
      have HLT := Aside0.mk hlt
      have hrec := HRec.out
      simp only [rCreds] at hrec
      rw [if_pos hlt] at hrec
      have HRc := Aside0.mk hrec
      clear hlt hrec HRec
      go_wp2_with fail
      with_reducible refine (parseCredential_any gb w.heap.size (w.heap.size + 1) gc pk ver _ l _ HL.out A4.out.src A4.out.pos HPK.out.1 C4.out rfl HQ34.out).mono ?_
      intro e w5 h1
      rcases h1.cases with ⟨hr, ⟨dt, dx⟩, hg⟩ | ⟨cr, p5, v, hr, rfl, hv, hg, hp1⟩
      · have hN := HN.out
        exact ⟨rfl, Cached.dies (A4.out.dies hg) (by simp only [rCache, HA.out, Option.bind_some]; rw [← hN, HRc.out, hr]; rfl) ⟨_, _⟩⟩
      obtain ⟨g, rfl, hgn, hcr⟩ := hv
      have HR5 := Aside0.mk hr
      have hkp : Kp [3, 79, 85] wr w5 := Kp.call A4.out.pos (by decide) hg
      have A5 := Aside0.mk (A4.out.call hg hp1)
      have C5 := Aside0.mk (C4.out.call A4.out.pos (by decide) hg)
      have V5 := Aside0.mk (row_call V4.out A4.out.pos (by decide) hg)
      have G5 := Aside0.mk (row_call G4.out A4.out.pos (by decide) hg)
      have D5 := Aside0.mk ((CredsAt.stable [3, 79, 85] _ _ _ (by decide)) _ _ D4.out hkp)
      have E5 := Aside0.mk (hcr.lower A4.out.size)
      have x6 := C5.out.cell 6 (.slice Ag gs.length cg) rfl
      have z6 := C5.out.free 6
      have HLE := Aside0.mk (show (gs.length + 1) * 8 ≤ 140737488355328 from by have := HPK.out; have := D4.out.1; have := HL.out.1; omega)
      clear h1 hr hg hp1 hcr hgn hkp A4 C4 V4 G4 D4 c1
      go_wp2_with ((with_reducible refine gate_builtin (b := .append) (xs := #[.tmp 94, .tmp 96]) rfl ?_); at_builtin; refine Kd.R_append kPtr (w0 := w5) w.heap.size rfl (.tmp 94) (.tmp 96) 77 85 (.pointer none) 8 rfl Try.underlying77 info85 rfl (by decide) (by decide) (.slice Ag gs.length cg) gs g [.pointer (some ⟨g, 0, none⟩)] (fun _ => True) (fun _ => False) rfl rfl rfl (fun _ h => h.elim) (fun _ _ => trivial) G5.out (Below.refl _ _) A5.out.size HLE.out ?_; intro v6 w6 hv6 hb6 hg6 hat6; obtain ⟨gs1, hgs⟩ : ∃ r_, r_ = gs ++ [g] := ⟨_, rfl⟩; rw [← hgs] at hv6; have HGS := Aside0.mk hgs; clear hgs; obtain ⟨A6_, c6_, ev6⟩ := Kd.R_slice hv6; subst ev6; have G6 := Aside0.mk hv6; have A6 := Aside0.mk (A5.out.row G5.out (by decide) (Nat.le_refl _) hg6); have C6 := Aside0.mk (C5.out.row G5.out (by decide) hg6); have HKP := Aside0.mk (Kp.row (X := [3, 79, 85]) G5.out (by decide) hg6); have V6 := Aside0.mk ((Stable.row [3, 79, 85] Kd.string 9 w.heap.size (.slice Aa a.names.length ca) a.names (by decide)) _ _ V5.out HKP.out); have D6 := Aside0.mk ((CredsAt.stable [3, 79, 85] _ _ _ (by decide)) _ _ D5.out HKP.out); have E6 := Aside0.mk ((CredAt.stable [3, 79, 85] _ _ _ (by decide)) _ _ E5.out HKP.out); have e6 := C6.out.cell 6 (.slice Ag gs.length cg) rfl; have f6 := C6.out.free 6; clear hv6 hb6 hg6 hat6)
      have HK7 : Kp [3, 79, 85] w6 (w6.setCell ⟨gc, 6, none⟩ (.slice A6_ gs1.length c6_)) := Kp.set C6.out (by decide) 6 _
      have A7 := Aside0.mk (A6.out.set C6.out (by decide) (.inr rfl) 6 (.slice A6_ gs1.length c6_))
      have C7 := Aside0.mk (C6.out.puts (cs' := #[.int .u8 (ver : Int), y1, y2, .string a.realm, .int .i32 a.kind, .slice Aa a.names.length ca, .slice A6_ gs1.length c6_, .string ⟨#[]⟩]) 6 (.slice A6_ gs1.length c6_) rfl)
      have V7 := Aside0.mk (row_set V6.out C6.out (by decide) 6 (.slice A6_ gs1.length c6_))
      have G7 := Aside0.mk (row_set G6.out C6.out (by decide) 6 (.slice A6_ gs1.length c6_))
      have D7 := Aside0.mk (((CredsAt.stable [3, 79, 85] _ _ _ (by decide)) _ _ D6.out HK7).snoc ((CredAt.stable [3, 79, 85] _ _ _ (by decide)) _ _ E6.out HK7))
      clear HK7 A6 C6 V6 G6 D6 E6 A5 C5 V5 G5 D5 E5 x6 z6 e6 f6
      go_roundg k1
      case rel =>
        have hlt := rCred_lt HR5.out
        refine ⟨p5, done ++ [cr], gs1, A6_, c6_, ⟨?_⟩, ⟨hlt.1, by have := HPK.out; omega, by have := HPK.out; simp; omega⟩, A7, C7, V7, G7, ⟨HGS.out ▸ D7.out⟩⟩
        rw [HRc.out, HR5.out]
        simp only [Option.bind_some]
        cases rCreds ver l k1 p5 with
        | none => rfl
        | some r => simp
      case measure => omega
    · have hnlt : ¬ ((pk : Int) < (l.length : Int)) := by omega
      have hrec := HRec.out
      simp only [rCreds] at hrec
      rw [if_neg hlt] at hrec
      simp only [Option.bind_some, List.append_nil] at hrec
      have HRc := Aside0.mk hrec
      clear hlt hrec HRec
      go_wp2
      go_ret
      have hN := HN.out
      exact Cached.gives (a := a) (r := done) A4.out.grown (by simp only [rCache, HA.out, Option.bind_some]; rw [← hN, HRc.out]; rfl) ⟨y1, y2, Aa, Ag, ca, cg, gs, C4.out, V4.out, G4.out, D4.out⟩
end Go.Proofs.Ytnipcocllhfaoaa.B

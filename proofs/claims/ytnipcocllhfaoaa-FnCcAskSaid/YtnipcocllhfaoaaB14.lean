/- A cache is asked: its small functions; under what each theorem states. -/
import Derived.Test.YtnipcocllhfaoaaB12
import Derived.Test.YtnipcocllhfaoaaE0
namespace Go.Proofs.Ytnipcocllhfaoaa.B
open Go.RowKit Go.Proofs.YtnipcocllhfaoaaW.PrintWords Go.Proofs.YtnipcocllhfaoaaW.PrintLast
set_option linter.unusedVariables false
set_option linter.unusedSimpArgs false
set_option maxRecDepth 100000
theorem toList_iff (a b : ByteArray) : a.toList = b.toList ↔ a = b := by
  constructor
  · intro h
    have e : ∀ s : ByteArray, s.toList = s.data.toList := fun s => ByteArray.toList_eq s
    rw [e, e] at h
    exact ByteArray.ext (Array.ext' h)
  · rintro rfl; rfl
/-- Principals: have they equal names. -/
theorem namesEq_any (n1 n2 : Int) (xs ys : List ByteArray) (A1 A2 : Option Addr) (c1 c2 : Nat) (w : World) (h1 : Kd.C Kd.string w A1 xs.length xs) (h2 : Kd.C Kd.string w A2 ys.length ys) :
    Calls Try.prog 52 #[.agg #[.int .i32 n1, .slice A1 xs.length c1], .agg #[.int .i32 n2, .slice A2 ys.length c2]] w fun e w' => e = .returned (.bool (decide (xs = ys))) ∧ Below w.heap.size w w' := by
  have hmx : (xs.length : Int) ≤ 9223372036854775807 := by have := Kd.C_max h1; omega
  obtain ⟨r, hr⟩ : ∃ r, decide (xs = ys) = r := ⟨_, rfl⟩
  rw [hr]
  have HR := Aside0.mk hr
  have H1 := Aside0.mk h1
  have H2 := Aside0.mk h2
  clear h1 h2 hr
  go_enter Try.func52, Try.ntmps52
  go_upto_region 1 with (first
    | ((with_reducible refine gate_dst (N := 2) rfl ?_); refine box_event ?hg (N := 2) ?hd (cs := #[.int .i32 n1, .slice A1 xs.length c1]) (t := 74) ?hr ?_; (case hd => rfl); (case hg => rfl); (case hr => first | (go_simp; done) | (go_simp; rfl)); intro g1 hgb w1 hbox hb; have HX1 := Aside0.mk hbox; have BL1 := Aside0.mk hb; clear hbox hb hgb)
    | ((with_reducible refine gate_dst (N := 3) rfl ?_); refine box_event ?hg (N := 3) ?hd (cs := #[.int .i32 n2, .slice A2 ys.length c2]) (t := 74) ?hr ?_; (case hd => rfl); (case hg => rfl); (case hr => first | (go_simp; done) | (go_simp; rfl)); intro g2 hgb w2 hbox hb; have HX2 := Aside0.mk (blk_below HX1.out hb); have HY2 := Aside0.mk hbox; have BL2 := Aside0.mk (below_step BL1.out hb); clear hbox hb hgb)
    | fail)
  clear HX1 BL1
  have q1 : w2.cell? ⟨g1, 1, none⟩ = some (.slice A1 xs.length c1) := (blk_cell HX2.out 1).trans rfl
  have q2 : w2.cell? ⟨g2, 1, none⟩ = some (.slice A2 ys.length c2) := (blk_cell HY2.out 1).trans rfl
  by_cases hl : xs.length = ys.length
  case neg =>
    have hrf : r = false := HR.out ▸ decide_eq_false fun e => hl (congrArg List.length e)
    subst hrf
    have z0 : ((xs.length : Int) == (ys.length : Int)) = false := beq_eq_false_iff_ne.mpr (by omega)
    have z1 : ((xs.length : Int) != (ys.length : Int)) = true := bne_iff_ne.mpr (by omega)
    have z2 : (xs.length == ys.length) = false := beq_eq_false_iff_ne.mpr hl
    clear hl
    go_wp2
    go_ret
    exact ⟨rfl, BL2.out⟩
  have z0 : ((xs.length : Int) == (ys.length : Int)) = true := beq_iff_eq.mpr (by omega)
  have z1 : ((xs.length : Int) != (ys.length : Int)) = false := bne_eq_false_iff_eq.mpr (by omega)
  have z2 : (xs.length == ys.length) = true := beq_iff_eq.mpr hl
  have HL := Aside0.mk hl
  clear hl
  go_wp2
  go_loopw [17] (fun i wr => ∃ (j : Nat), j ≤ xs.length ∧ i = .int .i64 j ∧ Aside0 (xs.take j = ys.take j) ∧ Aside0 (Box wr g1 74 #[.int .i32 n1, .slice A1 xs.length c1]) ∧ Aside0 (Box wr g2 74 #[.int .i32 n2, .slice A2 ys.length c2]) ∧ Aside0 (Below w.heap.size w wr)) (fun i _ => xs.length - (intOf i).toNat)
  case atStart => exact ⟨0, Nat.zero_le _, rfl, ⟨rfl⟩, HX2, HY2, BL2⟩
  clear HX2 HY2 BL2 q1 q2
  obtain ⟨j, hj, rfl, HT, HX2, HY2, BL⟩ := hrel
  have q2 : wr.cell? ⟨g2, 1, none⟩ = some (.slice A2 ys.length c2) := HY2.out.cell 1 _ rfl
  by_cases hlt : j < xs.length
  case neg =>
    obtain rfl : j = xs.length := by omega
    have hnl : ¬ ((xs.length : Int) < (xs.length : Int)) := by omega
    have hrt : r = true := by
      have h := HT.out
      rw [List.take_length, HL.out, List.take_length] at h
      rw [← HR.out]
      exact decide_eq_true h
    subst hrt
    clear HT HR
    go_wp2
    go_ret
    exact ⟨rfl, BL.out⟩
  have hlt' : (j : Int) < (xs.length : Int) := by omega
  have hlt2 : (j : Int) < (ys.length : Int) := by have := HL.out; omega
  have hj0 : (0 : Int) ≤ (j : Int) := by omega
  obtain ⟨a1, rfl, k1⟩ := Kd.at_string (Kd.C_below H1.out BL.out) (j : Int) hj0 hlt'
  obtain ⟨a2, rfl, k2⟩ := Kd.at_string (Kd.C_below H2.out BL.out) (j : Int) hj0 hlt2
  rw [Int.toNat_natCast] at k1 k2
  have g1_ : xs[j]? = some (rdOf ByteArray.empty xs (j : Int)) := by unfold rdOf; rw [Int.toNat_natCast, List.getD_eq_getElem?_getD, List.getElem?_eq_getElem hlt]; rfl
  have g2_ : ys[j]? = some (rdOf ByteArray.empty ys (j : Int)) := by unfold rdOf; rw [Int.toNat_natCast, List.getD_eq_getElem?_getD, List.getElem?_eq_getElem (by omega)]; rfl
  generalize rdOf ByteArray.empty xs (j : Int) = x at *
  generalize rdOf ByteArray.empty ys (j : Int) = y at *
  have GG1 := Aside0.mk g1_
  have GG2 := Aside0.mk g2_
  clear g1_ g2_
  by_cases hxy : x = y
  · subst hxy
    have HT2 := Aside0.mk (show xs.take (j + 1) = ys.take (j + 1) from by rw [List.take_add_one, List.take_add_one, GG1.out, GG2.out, HT.out])
    clear HT
    go_wp2
    go_roundw
    case rel => exact ⟨j + 1, by omega, by go_num, HT2, HX2, HY2, BL⟩
    case measure => simp [intOf]; omega
  · have hrf : r = false := by
      rw [← HR.out]
      refine decide_eq_false fun e => hxy ?_
      have h1 := GG1.out
      rw [e, GG2.out] at h1
      exact (Option.some.inj h1).symm
    subst hrf
    have y0 : (y.toList == x.toList) = false := beq_eq_false_iff_ne.mpr fun e => hxy ((toList_iff _ _).1 e.symm)
    have y1 : (y.toList != x.toList) = true := bne_iff_ne.mpr fun e => hxy ((toList_iff _ _).1 e.symm)
    clear hxy HT HR
    go_wp2
    go_ret
    exact ⟨rfl, BL.out⟩
/-! ### Realms of the cache's own entries -/
def confB (s : ByteArray) : Bool := if 11 ≤ s.size then (s.extract 0 11).toList == [88, 45, 67, 65, 67, 72, 69, 67, 79, 78, 70] else false
theorem liteHasPrefix_any (s : ByteArray) (w : World) (hs : s.size ≤ 1099511627776) :
    Calls Try.prog 64 #[.string s, .string ⟨#[88, 45, 67, 65, 67, 72, 69, 67, 79, 78, 70]⟩] w fun e w' => e = .returned (.bool (confB s)) ∧ Below w.heap.size w w' := by
  by_cases h : 11 ≤ s.size
  · have e : confB s = ((s.extract 0 11).toList == [88, 45, 67, 65, 67, 72, 69, 67, 79, 78, 70]) := if_pos h
    obtain ⟨b, hb⟩ : ∃ b, ((s.extract 0 11).toList == [88, 45, 67, 65, 67, 72, 69, 67, 79, 78, 70]) = b := ⟨_, rfl⟩
    rw [e, hb]
    have z1 : (11 : Int) ≤ (s.size : Int) := by omega
    have z2 : decide ((11 : Int) ≤ (s.size : Int)) = true := decide_eq_true z1
    clear e
    go_enter Try.func64, Try.ntmps64
    go_wp2
    go_ret
    exact ⟨rfl, Below.refl _ _⟩
  · have e : confB s = false := if_neg h
    rw [e]
    have z1 : ¬ (11 : Int) ≤ (s.size : Int) := by omega
    have z2 : decide ((11 : Int) ≤ (s.size : Int)) = false := decide_eq_false z1
    clear e
    go_enter Try.func64, Try.ntmps64
    go_wp2
    go_ret
    exact ⟨rfl, Below.refl _ _⟩
theorem hasPrefix_any (s : ByteArray) (w : World) (hs : s.size ≤ 1099511627776) :
    Calls Try.prog 51 #[.string s, .string ⟨#[88, 45, 67, 65, 67, 72, 69, 67, 79, 78, 70]⟩] w fun e w' => e = .returned (.bool (confB s)) ∧ Below w.heap.size w w' := by
  have HS := Aside0.mk (liteHasPrefix_any s · hs)
  clear hs
  generalize confB s = b at *
  go_enter Try.func51, Try.ntmps51
  go_wp2_with fail
  refine (HS.out _).mono ?_
  rintro e w2 ⟨rfl, hb⟩
  have HB := Aside0.mk hb
  clear hb
  go_wp2
  go_ret
  exact ⟨rfl, HB.out⟩
/-! ### The cache in memory -/
/-- A cache that has been read. -/
structure Held (base gc : Nat) (cs : Array Value) (v6 : Value) (gs : List Nat) (r : List PCred) (w : World) : Prop where
  cache : Box w gc 79 cs
  ptrs : kPtr.R 85 w base (fun _ => True) v6 gs
  creds : CredsAt base w gs r
section
variable {base gc : Nat} {cs : Array Value} {v6 : Value} {gs : List Nat} {r : List PCred} {w w' : World}
theorem Held.kp {X : List Nat} (h : Held base gc cs v6 gs r w) (hX : ∀ q, q ∈ [79, 85, 96, 9, 5, 100, 103] → q ∉ X) (hk : Kp X w w') : Held base gc cs v6 gs r w' :=
  ⟨Stable.box X _ _ _ (hX 79 (by simp)) _ _ h.cache hk, Stable.row X _ _ _ _ _ (fun q hq => hX q (by simp [kPtr, Kd.scalar] at hq; simp [hq])) _ _ h.ptrs hk, CredsAt.stable X _ _ _ (fun q hq => hX q (by simp at hq; simp; omega)) _ _ h.creds hk⟩
theorem Held.below (h : Held base gc cs v6 gs r w) (hb : Below w.heap.size w w') : Held base gc cs v6 gs r w' := h.kp (X := []) (by simp) (Kp.below _ hb)
end
theorem clientRealm_any (gc : Nat) (s : ByteArray) (w : World) (h : w.cell? ⟨gc, 3, none⟩ = some (.string s)) : Calls Try.prog 42 #[.pointer (some ⟨gc, 0, none⟩)] w fun e w' => e = .returned (.string s) ∧ Below w.heap.size w w' := by
  go_enter Try.func42, Try.ntmps42
  go_wp2
  go_ret
  exact ⟨rfl, Below.refl _ _⟩
theorem clientName_any (gc : Nat) (k : Int) (A : Option Addr) (n c : Nat) (w : World) (h : w.cell? ⟨gc, 4, none⟩ = some (.int .i32 k)) (h2 : w.cell? ⟨gc, 5, none⟩ = some (.slice A n c)) (hlt : gc < w.heap.size) :
    Calls Try.prog 43 #[.pointer (some ⟨gc, 0, none⟩)] w fun e w' => e = .returned (.agg #[.int .i32 k, .slice A n c]) ∧ Below w.heap.size w w' := by
  have hu74 := Try.underlying74
  have hn : gc ≠ w.heap.size := by omega
  go_enter Try.func43, Try.ntmps43
  go_wp2
  refine bodyPost_ret (v := .agg #[.int .i32 k, .slice A n c]) (by simp [results, Try.results43, go_sem, World.cell?_setCell_other]) rfl ⟨rfl, ?_⟩
  repeat (first | exact Below.refl _ _ | refine below_set ?_ (by simp) | apply below_alloc | apply below_drew1)
/-! ### The first credential of a server -/
theorem find_at {ys : List ByteArray} {r : List PCred} {k : Nat} {c : PCred} (h : ∀ x ∈ r.take k, ¬ x.server.names = ys) (hc : r[k]? = some c) (hp : c.server.names = ys) : r.find? (fun c => decide (c.server.names = ys)) = some c := by
  obtain ⟨hk, e⟩ := List.getElem?_eq_some_iff.1 hc
  rw [← List.take_append_drop k r, List.find?_append, List.find?_eq_none.2 (by simpa using h), List.drop_eq_getElem_cons hk, e]
  simp [hp]
theorem find_no {ys : List ByteArray} {r : List PCred} (h : ∀ x ∈ r, ¬ x.server.names = ys) : r.find? (fun c => decide (c.server.names = ys)) = none := List.find?_eq_none.2 (by simpa using h)
theorem take_no {ys : List ByteArray} {r : List PCred} {k : Nat} {c : PCred} (h : ∀ x ∈ r.take k, ¬ x.server.names = ys) (hc : r[k]? = some c) (hp : ¬ c.server.names = ys) : ∀ x ∈ r.take (k + 1), ¬ x.server.names = ys := by
  rw [List.take_add_one, hc]
  intro x hx
  simp at hx
  rcases hx with hx | rfl
  · exact h x hx
  · exact hp
set_option maxHeartbeats 4000000 in
theorem contains_any (base gc : Nat) (cs : Array Value) (A6 : Option Addr) (c6 : Nat) (gs : List Nat) (r : List PCred) (n2 : Int) (ys : List ByteArray) (A : Option Addr) (c : Nat) (w : World) (h : Held base gc cs (.slice A6 gs.length c6) gs r w) (h6 : cs[6]? = some (.slice A6 gs.length c6)) (hgl : gs.length ≤ 4294967297) (hy : Kd.C Kd.string w A ys.length ys) :
    Calls Try.prog 44 #[.pointer (some ⟨gc, 0, none⟩), .agg #[.int .i32 n2, .slice A ys.length c]] w fun e w' => e = .returned (.bool (r.find? (fun c => decide (c.server.names = ys))).isSome) ∧ Below w.heap.size w w' := by
  have hu74 := Try.underlying74
  obtain ⟨fo, hfo⟩ : ∃ fo, fo = r.find? (fun c => decide (c.server.names = ys)) := ⟨_, rfl⟩
  rw [← hfo]
  have HFO := Aside0.mk hfo
  have H := Aside0.mk h
  have HY := Aside0.mk hy
  have HGL := Aside0.mk h.creds.1
  have H6 := Aside0.mk h6
  clear h hy h6 hfo
  go_enter Try.func44, Try.ntmps44
  go_upto_region 1 with (first
    | ((with_reducible refine gate_dst (N := 3) rfl ?_); refine box_event ?hg (N := 3) ?hd (cs := #[.int .i32 n2, .slice A ys.length c]) (t := 74) ?hr ?_; (case hd => rfl); (case hg => rfl); (case hr => first | (go_simp; done) | (go_simp; rfl)); intro gp hgb w1 hbox hb; have HX1 := Aside0.mk hbox; have BL1 := Aside0.mk hb; clear hbox hb hgb)
    | fail)
  have x6 : w1.cell? ⟨gc, 6, none⟩ = some (.slice A6 gs.length c6) := (H.out.below BL1.out).cache.cell 6 _ H6.out
  go_wp2_with fail
  go_loopw [12] (fun i wr => ∃ (k : Nat), k ≤ gs.length ∧ i = .int .i64 k ∧ Aside0 (∀ x ∈ r.take k, ¬ x.server.names = ys) ∧ Aside0 (Box wr gp 74 #[.int .i32 n2, .slice A ys.length c]) ∧ Aside0 (Below w.heap.size w wr)) (fun i _ => gs.length - (intOf i).toNat)
  case atStart => exact ⟨0, Nat.zero_le _, rfl, ⟨by simp⟩, HX1, BL1⟩
  clear HX1 BL1 x6
  obtain ⟨k, hk, rfl, HT, HX, BL⟩ := hrel
  by_cases hlt : k < gs.length
  case neg =>
    have hnl : ¬ ((k : Int) < (gs.length : Int)) := by omega
    have hf : fo = none := by
      rw [HFO.out]
      refine find_no ?_
      have := HT.out
      rwa [List.take_of_length_le (by have := HGL.out; omega)] at this
    subst hf
    clear HFO HT
    go_wp2_with fail
    go_ret
    exact ⟨rfl, BL.out⟩
  have hlt' : (k : Int) < (gs.length : Int) := by omega
  have hk0 : (0 : Int) ≤ (k : Int) := by omega
  obtain ⟨gq, eA, e7⟩ := ptr_at (H.out.below BL.out).ptrs k hlt rfl
  subst eA
  obtain ⟨cr, hc⟩ : ∃ cr, r[k]? = some cr := ⟨_, List.getElem?_eq_getElem (by rw [← HGL.out]; exact hlt)⟩
  obtain ⟨g, hg⟩ : ∃ g, gs[k]? = some g := ⟨_, List.getElem?_eq_getElem hlt⟩
  have e8 : gs.getD k 0 = g := by simp [List.getD_eq_getElem?_getD, hg]
  rw [e8] at e7
  obtain ⟨X2, X5, X7, X17, X19, X20, X21, X22, z2, z5, z7, z17, z19, z20, z21, z22, hbx, q1, q2, -, -, -, -, -, -⟩ := (H.out.below BL.out).creds.2 k g cr hg hc
  have d4 := hbx.cell 4 _ rfl
  have d5 := hbx.cell 5 _ rfl
  have p0 := HX.out.cell 0 _ rfl
  have p1 := HX.out.cell 1 _ rfl
  have HC := Aside0.mk hc
  have HQ := Aside0.mk q2
  clear hc hg e8 hbx q1 q2
  go_wp2_with fail
  go_still_tail 6, (by kernel_rfl)
  change wpList _ _ _ _ _ wr.drew
  clear d4 d5 p0 p1 e7
  obtain ⟨wx, hwx⟩ : ∃ wx, wx = wr.drew := ⟨_, rfl⟩
  have hbd : Below wr.heap.size wr wx := hwx ▸ below_drew (Below.refl _ _)
  rw [← hwx]
  clear hwx
  have HX2 := Aside0.mk (HX.out.below hbd)
  have BL2 := Aside0.mk (below_step BL.out hbd)
  have HQ2 := Aside0.mk (Kd.R_below HQ.out hbd)
  clear HX BL HQ hbd
  go_wp2_with fail
  refine (namesEq_any cr.server.kind n2 cr.server.names ys X5 A z5 c _ (Kd.R_reads' HQ2.out).2.2 (Kd.C_below HY.out BL2.out)).mono ?_
  rintro e w3 ⟨rfl, hb⟩
  have HX3 := Aside0.mk (HX2.out.below hb)
  have BL3 := Aside0.mk (below_step BL2.out hb)
  clear hb HX2 BL2 HQ2
  by_cases hp : cr.server.names = ys
  · rw [decide_eq_true hp]
    have hf : fo = some cr := by rw [HFO.out]; exact find_at HT.out HC.out hp
    subst hf
    clear hp HT HFO
    go_wp2_with fail
    go_ret
    exact ⟨rfl, BL3.out⟩
  · rw [decide_eq_false hp]
    have HT2 := Aside0.mk (take_no HT.out HC.out hp)
    have HLT := Aside0.mk hlt
    clear hp HT
    go_wp2_with fail
    go_roundw
    case rel => exact ⟨k + 1, by have := HLT.out; omega, by go_num, HT2, HX3, BL3⟩
    case measure => have := HLT.out; simp [intOf]; omega
end Go.Proofs.Ytnipcocllhfaoaa.B

/- A cache is asked: an entry, the entries; under what each theorem states. -/
import Derived.Test.YtnipcocllhfaoaaB14
namespace Go.Proofs.Ytnipcocllhfaoaa.B
open Go.RowKit Go.Proofs.YtnipcocllhfaoaaW.PrintWords Go.Proofs.YtnipcocllhfaoaaW.PrintLast
set_option linter.unusedVariables false
set_option linter.unusedSimpArgs false
set_option maxRecDepth 100000
def ticketOf (o : Option PCred) : List Int := match o with | some c => c.tk | none => []
def zero96 : Array Value := #[.string ⟨#[]⟩, .int .i32 0, .slice none 0 0, .string ⟨#[]⟩, .int .i32 0, .slice none 0 0, .int .i32 0, .slice none 0 0, .int .i64 0, .bool false, .int .i64 0, .bool false, .int .i64 0, .bool false, .int .i64 0, .bool false, .bool false, .slice none 0 0, .int .i64 0, .slice none 0 0, .slice none 0 0, .slice none 0 0, .slice none 0 0]
/-- The ticket of an entry that has been told. -/
def Ticket (base : Nat) (g : Nat) (tk : List Int) (w : World) : Prop := ∃ (cs : Array Value) (A : Option Addr) (c : Nat), Box w g 96 cs ∧ cs[21]? = some (.slice A tk.length c) ∧ (Kd.int .u8).R 5 w base (fun _ => True) (.slice A tk.length c) tk
theorem Ticket.kp {X : List Nat} {base g : Nat} {tk : List Int} {w w' : World} (h : Ticket base g tk w) (hX : ∀ q, q ∈ [96, 5] → q ∉ X) (hk : Kp X w w') : Ticket base g tk w' := by
  obtain ⟨cs, A, c, h1, h2, h3⟩ := h
  exact ⟨cs, A, c, Stable.box X _ _ _ (hX 96 (by simp)) _ _ h1 hk, h2, Stable.row X _ _ _ _ _ (fun q hq => hX q (by simp [Kd.int, Kd.scalar] at hq; simp [hq])) _ _ h3 hk⟩
theorem Ticket.below {base g : Nat} {tk : List Int} {w w' : World} (h : Ticket base g tk w) (hb : Below w.heap.size w w') : Ticket base g tk w' := h.kp (X := []) (by simp) (Kp.below _ hb)
theorem Ticket.of {base g : Nat} {a : PCred} {w : World} (h : CredAt base w g a) : Ticket base g a.tk w := by
  obtain ⟨A2, A5, A7, A17, A19, A20, A21, A22, c2, c5, c7, c17, c19, c20, c21, c22, h0, h1, h2, h3, h4, h5, h6, h7, h8⟩ := h
  exact ⟨_, A21, c21, h0, rfl, h7⟩
theorem Ticket.zero {base g : Nat} {w : World} (h : Box w g 96 zero96) : Ticket base g [] w := ⟨_, none, 0, h, rfl, Kd.R_nil _ _ _ _ _⟩
set_option maxHeartbeats 4000000 in
theorem getEntry_any (base gc : Nat) (cs : Array Value) (A6 : Option Addr) (c6 : Nat) (gs : List Nat) (r : List PCred) (n2 : Int) (ys : List ByteArray) (A : Option Addr) (c : Nat) (w : World) (h : Held base gc cs (.slice A6 gs.length c6) gs r w) (h6 : cs[6]? = some (.slice A6 gs.length c6)) (hgl : gs.length ≤ 4294967297) (hy : Kd.C Kd.string w A ys.length ys) :
    Calls Try.prog 41 #[.pointer (some ⟨gc, 0, none⟩), .agg #[.int .i32 n2, .slice A ys.length c]] w fun e w' => ∃ g, e = .returned (.tuple #[.pointer (some ⟨g, 0, none⟩), .bool (r.find? (fun c => decide (c.server.names = ys))).isSome]) ∧ Ticket base g (ticketOf (r.find? (fun c => decide (c.server.names = ys)))) w' ∧ Below w.heap.size w w' := by
  have hu74 := Try.underlying74
  have hu96 := Try.underlying96
  obtain ⟨fo, hfo⟩ : ∃ fo, fo = r.find? (fun c => decide (c.server.names = ys)) := ⟨_, rfl⟩
  rw [← hfo]
  have HFO := Aside0.mk hfo
  have H := Aside0.mk h
  have HY := Aside0.mk hy
  have HGL := Aside0.mk h.creds.1
  have H6 := Aside0.mk h6
  clear h hy h6 hfo
  go_enter Try.func41, Try.ntmps41
  go_upto_region 1 with (first
    | ((with_reducible refine gate_dst (N := 3) rfl ?_); refine box_event ?hg (N := 3) ?hd (cs := #[.int .i32 n2, .slice A ys.length c]) (t := 74) ?hr ?_; (case hd => rfl); (case hg => rfl); (case hr => first | (go_simp; done) | (go_simp; rfl)); intro gp hgb w1 hbox hb; have HX1 := Aside0.mk hbox; have BL1 := Aside0.mk hb; clear hbox hb hgb)
    | fail)
  go_upto_region 2 with fail
  have hz := Box.new w1 zero96 96
  have HXa := Aside0.mk (Box.alloc (show Box w1 gp 74 #[.int .i32 n2, .slice A ys.length c] from HX1.out) (.cells zero96 96))
  have BLa := Aside0.mk (below_alloc BL1.out (.cells zero96 96))
  unfold zero96 at hz HXa BLa
  generalize w1.alloc _ = w2 at *
  generalize w1.heap.size = gn at *
  have HZ := Aside0.mk (show Box w2 gn 96 zero96 from hz)
  clear hz HX1 BL1
  have x6 : w2.cell? ⟨gc, 6, none⟩ = some (.slice A6 gs.length c6) := (H.out.below BLa.out).cache.cell 6 _ H6.out
  go_wp2_with fail
  go_loopw [6, 7, 15] (fun v6 v7 i wr => ∃ (k : Nat), k ≤ gs.length ∧ v6 = .pointer (some ⟨gn, 0, none⟩) ∧ v7 = .bool false ∧ i = .int .i64 k ∧ Aside0 (∀ x ∈ r.take k, ¬ x.server.names = ys) ∧ Aside0 (Box wr gp 74 #[.int .i32 n2, .slice A ys.length c]) ∧ Aside0 (Box wr gn 96 zero96) ∧ Aside0 (Below w.heap.size w wr)) (fun _ _ i _ => gs.length - (intOf i).toNat)
  case atStart => exact ⟨0, Nat.zero_le _, rfl, rfl, rfl, ⟨by simp⟩, HXa, HZ, BLa⟩
  clear HXa HZ BLa x6
  obtain ⟨k, hk, rfl, rfl, rfl, HT, HX, HZ, BL⟩ := hrel
  have x6 : wr.cell? ⟨gc, 6, none⟩ = some (.slice A6 gs.length c6) := (H.out.below BL.out).cache.cell 6 _ H6.out
  by_cases hlt : k < gs.length
  case neg =>
    have hnl : ¬ ((k : Int) < (gs.length : Int)) := by omega
    have hf : fo = none := by
      rw [HFO.out]
      refine find_no ?_
      have := HT.out
      rwa [List.take_of_length_le (by have := HGL.out; omega)] at this
    subst hf
    clear HFO HT
    go_wp2_with fail
    go_ret2
    exact ⟨gn, rfl, Ticket.zero HZ.out, BL.out⟩
  have hlt' : (k : Int) < (gs.length : Int) := by omega
  have hk0 : (0 : Int) ≤ (k : Int) := by omega
  obtain ⟨gq, eA, e7⟩ := ptr_at (H.out.below BL.out).ptrs k hlt rfl
  subst eA
  obtain ⟨cr, hc⟩ : ∃ cr, r[k]? = some cr := ⟨_, List.getElem?_eq_getElem (by rw [← HGL.out]; exact hlt)⟩
  obtain ⟨g, hg⟩ : ∃ g, gs[k]? = some g := ⟨_, List.getElem?_eq_getElem hlt⟩
  have e8 : gs.getD k 0 = g := by simp [List.getD_eq_getElem?_getD, hg]
  rw [e8] at e7
  have HG := Aside0.mk hg
  obtain ⟨X2, X5, X7, X17, X19, X20, X21, X22, z2, z5, z7, z17, z19, z20, z21, z22, hbx, q1, q2, -, -, -, -, -, -⟩ := (H.out.below BL.out).creds.2 k g cr hg hc
  have d4 := hbx.cell 4 _ rfl
  have d5 := hbx.cell 5 _ rfl
  have p0 := HX.out.cell 0 _ rfl
  have p1 := HX.out.cell 1 _ rfl
  have HC := Aside0.mk hc
  have HQ := Aside0.mk q2
  clear hc hg e8 hbx q1 q2
  go_wp2_with fail
  go_still_tail 12, (by kernel_rfl)
  change wpList _ _ _ _ _ wr.drew
  clear d4 d5 p0 p1 e7 x6
  obtain ⟨wx, hwx⟩ : ∃ wx, wx = wr.drew := ⟨_, rfl⟩
  have hbd : Below wr.heap.size wr wx := hwx ▸ below_drew (Below.refl _ _)
  rw [← hwx]
  clear hwx
  have HX2 := Aside0.mk (HX.out.below hbd)
  have HZ2 := Aside0.mk (HZ.out.below hbd)
  have BL2 := Aside0.mk (below_step BL.out hbd)
  have HQ2 := Aside0.mk (Kd.R_below HQ.out hbd)
  clear HX HZ BL HQ hbd
  go_wp2_with fail
  refine (namesEq_any cr.server.kind n2 cr.server.names ys X5 A z5 c _ (Kd.R_reads' HQ2.out).2.2 (Kd.C_below HY.out BL2.out)).mono ?_
  rintro e w3 ⟨rfl, hb⟩
  have HX3 := Aside0.mk (HX2.out.below hb)
  have HZ3 := Aside0.mk (HZ2.out.below hb)
  have BL3 := Aside0.mk (below_step BL2.out hb)
  clear hb HX2 HZ2 BL2 HQ2
  by_cases hp : cr.server.names = ys
  · rw [decide_eq_true hp]
    have hf : fo = some cr := by rw [HFO.out]; exact find_at HT.out HC.out hp
    subst hf
    have x6 : w3.cell? ⟨gc, 6, none⟩ = some (.slice (some ⟨gq, 0, none⟩) gs.length c6) := (H.out.below BL3.out).cache.cell 6 _ H6.out
    obtain ⟨gq', eA, e7⟩ := ptr_at (H.out.below BL3.out).ptrs k hlt rfl
    obtain rfl : gq = gq' := by injection eA with eA; injection eA
    have e8 : gs.getD k 0 = g := by simp [List.getD_eq_getElem?_getD, HG.out]
    rw [e8] at e7
    clear hp HT HFO eA e8
    go_wp2_with fail
    go_ret2
    exact ⟨g, rfl, Ticket.of ((H.out.below BL3.out).creds.2 k g cr HG.out HC.out), BL3.out⟩
  · rw [decide_eq_false hp]
    have HT2 := Aside0.mk (take_no HT.out HC.out hp)
    have HLT := Aside0.mk hlt
    clear hp HT
    go_wp2_with fail
    go_roundw
    case rel => exact ⟨k + 1, by have := HLT.out; omega, rfl, rfl, by go_num, HT2, HX3, HZ3, BL3⟩
    case measure => have := HLT.out; simp [intOf]; omega
/-- Is an entry told. -/
def Told1 (c : PCred) : Bool := !confB c.server.realm
theorem filter_snoc {r : List PCred} {k : Nat} {c : PCred} (hc : r[k]? = some c) : (r.take (k + 1)).filter Told1 = if Told1 c then (r.take k).filter Told1 ++ [c] else (r.take k).filter Told1 := by
  rw [List.take_add_one, hc, List.filter_append]
  by_cases h : Told1 c <;> simp [h]
set_option maxHeartbeats 4000000 in
theorem getEntries_any (base gc : Nat) (cs : Array Value) (A6 : Option Addr) (c6 : Nat) (gs : List Nat) (r : List PCred) (w : World) (h : Held base gc cs (.slice A6 gs.length c6) gs r w) (h6 : cs[6]? = some (.slice A6 gs.length c6)) (hgl : gs.length ≤ 4294967297) (hsz : ∀ c ∈ r, c.server.realm.size ≤ 1099511627776) :
    Calls Try.prog 40 #[.pointer (some ⟨gc, 0, none⟩)] w fun e w' => ∃ (A : Option Addr) (cc : Nat) (gs' : List Nat), e = .returned (.slice A gs'.length cc) ∧ kPtr.R 85 w' w.heap.size (fun _ => True) (.slice A gs'.length cc) gs' ∧ CredsAt base w' gs' (r.filter Told1) ∧ gs'.length ≤ gs.length ∧ Below w.heap.size w w' := by
  have hmk : ∀ W : World, (Instr.makeSlice 77 (.int .i64 0) (.int .i64 0)).run Try.prog W = .ok (.slice (some ⟨W.heap.size, 0, none⟩) 0 0) (W.alloc (.cells (madeCells #[.pointer none] 0) 85)) := fun W =>
    print_make_of (P := Try.prog) 77 85 (.pointer none) 8 Try.underlying77 info85 rfl (by decide) 0 (by decide) W
  have H := Aside0.mk h
  have HGL := Aside0.mk h.creds.1
  have H6 := Aside0.mk h6
  have HSZ := Aside0.mk hsz
  have HG4 := Aside0.mk hgl
  clear h h6 hsz
  have R0 : Aside0 (kPtr.R 85 (w.alloc (.cells (madeCells #[.pointer none] 0) 85)) w.heap.size (fun _ => True) (.slice (some ⟨w.heap.size, 0, none⟩) 0 0) []) := ⟨Kd.R_of_own (World.ownsRow_made w _ 0 (Nat.le_refl _) (by decide) (size_madeCells _ _)) (fun _ _ => trivial)⟩
  have B0 := Aside0.mk (below_alloc (Below.refl w.heap.size w) (.cells (madeCells #[.pointer none] 0) 85))
  have x6 : (w.alloc (.cells (madeCells #[.pointer none] 0) 85)).cell? ⟨gc, 6, none⟩ = some (.slice A6 gs.length c6) := (H.out.below B0.out).cache.cell 6 _ H6.out
  go_enter Try.func40, Try.ntmps40
  go_upto_region 2 with fail
  clear hmk
  generalize w.alloc (.cells (madeCells #[.pointer none] 0) 85) = w1 at *
  generalize hsn : (some { block := w.heap.size, off := 0 } : Option Addr) = Am at *
  clear hsn
  go_wp2_with fail
  go_loopw [3, 12] (fun v3 i wr => ∃ (k : Nat) (A : Option Addr) (cc : Nat) (gs' : List Nat), k ≤ gs.length ∧ gs'.length ≤ k ∧ v3 = .slice A gs'.length cc ∧ i = .int .i64 k ∧ Aside0 (kPtr.R 85 wr w.heap.size (fun _ => True) (.slice A gs'.length cc) gs') ∧ Aside0 (CredsAt base wr gs' ((r.take k).filter Told1)) ∧ Aside0 (Below w.heap.size w wr)) (fun _ i _ => gs.length - (intOf i).toNat)
  case atStart => exact ⟨0, Am, 0, [], Nat.zero_le _, Nat.le_refl _, rfl, rfl, R0, ⟨⟨rfl, fun i g c h => by simp at h⟩⟩, B0⟩
  clear R0 B0 x6
  obtain ⟨k, A, cc, gs', hk, hgk, rfl, rfl, RP, RC, BL⟩ := hrel
  by_cases hlt : k < gs.length
  case neg =>
    have hnl : ¬ ((k : Int) < (gs.length : Int)) := by omega
    have RC2 := Aside0.mk (show CredsAt base wr gs' (r.filter Told1) from by
      have := RC.out
      rwa [List.take_of_length_le (by have := HGL.out; omega)] at this)
    clear RC
    go_wp2_with fail
    go_ret
    exact ⟨A, cc, gs', rfl, RP.out, RC2.out, by omega, BL.out⟩
  have hlt' : (k : Int) < (gs.length : Int) := by omega
  have hk0 : (0 : Int) ≤ (k : Int) := by omega
  obtain ⟨gq, eA, e7⟩ := ptr_at (H.out.below BL.out).ptrs k hlt rfl
  subst eA
  obtain ⟨cr, hc⟩ : ∃ cr, r[k]? = some cr := ⟨_, List.getElem?_eq_getElem (by rw [← HGL.out]; exact hlt)⟩
  obtain ⟨g, hg⟩ : ∃ g, gs[k]? = some g := ⟨_, List.getElem?_eq_getElem hlt⟩
  have e8 : gs.getD k 0 = g := by simp [List.getD_eq_getElem?_getD, hg]
  rw [e8] at e7
  have HCA := Aside0.mk ((H.out.below BL.out).creds.2 k g cr hg hc)
  obtain ⟨X2, X5, X7, X17, X19, X20, X21, X22, z2, z5, z7, z17, z19, z20, z21, z22, hbx, -, -, -, -, -, -, -, -⟩ := HCA.out
  have d3 := hbx.cell 3 _ rfl
  have HC := Aside0.mk hc
  have HLT := Aside0.mk hlt
  have HGK := Aside0.mk hgk
  clear hc hg e8 hbx hlt hgk hk
  go_wp2_with fail
  refine (hasPrefix_any cr.server.realm _ (HSZ.out cr (List.mem_of_getElem? HC.out))).mono ?_
  rintro e w3 ⟨rfl, hb⟩
  have RP3 := Aside0.mk (Kd.R_below RP.out hb)
  have RC3 := Aside0.mk (CredsAt.stable [] _ _ _ (by simp) _ _ RC.out (Kp.below _ hb))
  have CA3 := Aside0.mk (CredAt.stable [] _ _ _ (by simp) _ _ HCA.out (Kp.below _ hb))
  have BL3 := Aside0.mk (below_step BL.out hb)
  clear hb RP RC HCA BL e7 d3
  cases hp : confB cr.server.realm with
  | true =>
    have hf : (r.take (k + 1)).filter Told1 = (r.take k).filter Told1 := by rw [filter_snoc HC.out, if_neg (by simp [Told1, hp])]
    have RC4 := Aside0.mk (hf ▸ RC3.out)
    clear hp hf RC3
    go_wp2_with fail
    go_roundw
    case rel => exact ⟨k + 1, A, cc, gs', by have := HLT.out; omega, by have := HGK.out; omega, rfl, by go_num, RP3, RC4, BL3⟩
    case measure => have := HLT.out; simp [intOf]; omega
  | false =>
    have hf : (r.take (k + 1)).filter Told1 = (r.take k).filter Told1 ++ [cr] := by rw [filter_snoc HC.out, if_pos (by simp [Told1, hp])]
    have HF := Aside0.mk hf
    have HLE := Aside0.mk (show (gs'.length + 1) * 8 ≤ 140737488355328 from by have := HLT.out; have := HGK.out; have := HG4.out; omega)
    clear hp hf
    go_wp2_with ((with_reducible refine gate_builtin (b := .append) (xs := #[.tmp 22, .tmp 24]) rfl ?_); at_builtin; refine Kd.R_append kPtr (w0 := w3) w.heap.size rfl (.tmp 22) (.tmp 24) 77 85 (.pointer none) 8 rfl Try.underlying77 info85 rfl (by decide) (by decide) (.slice A gs'.length cc) gs' g [.pointer (some ⟨g, 0, none⟩)] (fun _ => True) (fun _ => False) rfl rfl rfl (fun _ h => h.elim) (fun _ _ => trivial) RP3.out (below_low (Below.refl _ w3) BL3.out.size) BL3.out.size HLE.out ?_; intro v6 w6 hv6 hb6 hg6 hat6; obtain ⟨gs1, hgs⟩ : ∃ r_, r_ = gs' ++ [g] := ⟨_, rfl⟩; rw [← hgs] at hv6; have HGS := Aside0.mk hgs; clear hgs; obtain ⟨A6_, c6_, ev6⟩ := Kd.R_slice hv6; subst ev6; have RP6 := Aside0.mk hv6; have HKP := Aside0.mk (Kp.row (X := [85]) RP3.out (by decide) hg6); have RC6 := Aside0.mk (((CredsAt.stable [85] _ _ _ (by decide)) _ _ RC3.out HKP.out).snoc ((CredAt.stable [85] _ _ _ (by decide)) _ _ CA3.out HKP.out)); have BL6 := Aside0.mk (below_row BL3.out RP3.out hg6); clear hv6 hb6 hg6 hat6 HKP)
    have RC7 := Aside0.mk (show CredsAt base w6 gs1 ((r.take (k + 1)).filter Told1) from by rw [HF.out, HGS.out]; exact RC6.out)
    have HN1 := Aside0.mk (show gs1.length = gs'.length + 1 from by rw [HGS.out]; simp)
    clear RC6 HF RC3 CA3 RP3 BL3
    go_roundw
    case rel => exact ⟨k + 1, A6_, c6_, gs1, by have := HLT.out; omega, by have := HN1.out; have := HGK.out; omega, rfl, by go_num, RP6, RC7, BL6⟩
    case measure => have := HLT.out; simp [intOf]; omega
theorem idle39 (p0 p1 p2 p3 p4 p5 p6 : Addr) (w : World) :
    CallsD Try.prog 39 #[.pointer (some p0), .pointer (some p1), .pointer (some p2), .pointer (some p3), .pointer (some p4), .pointer (some p5), .pointer (some p6)] .returning w fun e u' w' => e = .returned (.tuple #[]) ∧ u' = .returning ∧ w' = w := by
  refine callsD_of_wpS Try.func39 rfl fun c₀ cs hu => ?_
  apply wpS_seq
  apply wpS_region
  simp [wpOpsS, go_sem, recoverD, hu, Try.ntmps39, Exit.thenS]
  refine wpS_cond (t := false) (by simp [Act.eval, Array.replicate]) ?_
  simp only [Bool.false_eq_true, if_false]
  refine wpS_of_wp (wp_skip ?_)
  cases c₀
  simp_all [bodyPostS, results, Try.results39]
end Go.Proofs.Ytnipcocllhfaoaa.B

/- The bytes of a keytab, as the specification writes them; under what each theorem states. Written by a program of this session. -/
import Derived.Test.YtcbbipdiahmelaaB8
namespace Go.Proofs.Ytcbbipdiahmelaa.B
open Go.RowKit Go.Proofs.YtcbbipdiahmelaaW.PrintWords Go.Proofs.YtcbbipdiahmelaaW.PrintLast
open Go.Proofs.Ytcbbipdiahmelaa.A (S25 k25 k25_open z25)
set_option linter.unusedVariables false
set_option linter.unusedSimpArgs false
set_option maxRecDepth 100000
/-- An entry of a row: its cells. -/
theorem row25 {w : World} {A : Option Addr} {n : Nat} {xs : List S25} (h : Kd.C k25 w A n xs) (j : Nat) (hj : j < n) (hn : n = xs.length) : ∃ (ad : Addr) (x : S25) (A1 : Option Addr) (c1 : Nat), A = some ad ∧ xs[j]? = some x ∧
    (∀ i u, [Value.string x.f0, .slice A1 x.f1.length c1, .int .i32 x.f2, .int .i64 x.f3, .int .u8 x.f4, .int .u32 x.f5, .int .i32 x.f6, .string x.f7][i]? = some u → w.cell? ((ad.add (j * 8)).add i) = some u) ∧
    x.f1.length ≤ c1 ∧ Kd.string.C w A1 x.f1.length x.f1 := by
  obtain ⟨ad, c, e, _, hK, hc⟩ := Kd.C_get h z25 (j : Int) (by omega) (by omega)
  rw [Int.toNat_natCast] at hK hc
  obtain ⟨A1, c1, rfl, l1, g1⟩ := k25_open hK
  refine ⟨ad, xs.getD j z25, A1, c1, e, ?_, fun i u hu => by rw [add_add]; exact hc i u hu, l1, g1⟩
  rw [List.getD_eq_getElem?_getD, List.getElem?_eq_getElem (by omega)]; rfl
theorem pw_low {w w1 : World} {p : Addr} {v : Value} (hb : Below w.heap.size w w1) (h : w.cell? p = some v) : w1.cell? p = some v := (hb.cell (World.block_lt_of_cell? w _ h)).trans h
theorem size25 : (Try.prog.info? 25).map (·.size) = some 8 := by kernel_rfl
/-- The hole ahead of the entry i. -/
def holeAt (holes : List Int) (i : Nat) : List Chunk := if 0 < holes.getD i 0 then [Chunk.hole (holes.getD i 0).toNat] else []
def wholeAt (short : List Bool) (i : Nat) (e : S25) : Bool := !(short.getD i false) || decide (e.f5 ≠ e.f4)
def chunksAt (holes : List Int) (short : List Bool) : Nat → List S25 → List Chunk
  | _, [] => []
  | i, e :: r => holeAt holes i ++ Chunk.entry e (wholeAt short i e) :: chunksAt holes short (i + 1) r
theorem chunksAt_snoc (holes : List Int) (short : List Bool) (e : S25) : ∀ (l : List S25) (i : Nat), chunksAt holes short i (l ++ [e]) = chunksAt holes short i l ++ (holeAt holes (i + l.length) ++ [Chunk.entry e (wholeAt short (i + l.length) e)])
  | [], i => by simp [chunksAt]
  | a :: r, i => by
    rw [List.cons_append, chunksAt, chunksAt_snoc holes short e r (i + 1), chunksAt, List.length_cons, show i + 1 + r.length = i + (r.length + 1) from by omega]
    simp
theorem chunksAt_ok {holes : List Int} {short : List Bool} (hh : ∀ x ∈ holes, 0 ≤ x ∧ x < 256) : ∀ {l : List S25} {i : Nat}, (∀ e ∈ l, OkE e) → ∀ c ∈ chunksAt holes short i l, c.Ok
  | [], i, _, c, hc => by simp [chunksAt] at hc
  | a :: r, i, he, c, hc => by
    rw [chunksAt] at hc
    rcases List.mem_append.1 hc with hc | hc
    · unfold holeAt at hc
      split at hc
      · rename_i hp
        obtain rfl := List.mem_singleton.1 hc
        have hx : holes.getD i 0 < 256 := by
          rw [List.getD_eq_getElem?_getD]
          rcases Nat.lt_or_ge i holes.length with h1 | h1
          · rw [List.getElem?_eq_getElem h1]; exact (hh _ (List.getElem_mem h1)).2
          · rw [List.getElem?_eq_none h1]; decide
        show 1 ≤ (holes.getD i 0).toNat ∧ (holes.getD i 0).toNat ≤ 255
        omega
      · cases hc
    · rcases List.mem_cons.1 hc with rfl | hc
      · refine ⟨he a (List.mem_cons_self ..), fun hw => ?_⟩
        have h2 : (!(short.getD i false) || decide (a.f5 ≠ a.f4)) = false := hw
        simp at h2
        exact h2.2
      · exact chunksAt_ok hh (fun e h => he e (List.mem_cons_of_mem _ h)) c hc
theorem chunksAt_len (holes : List Int) (short : List Bool) : ∀ (l : List S25) (i : Nat), l.length ≤ (chunksAt holes short i l).length ∧ (chunksAt holes short i l).length ≤ 2 * l.length
  | [], i => by simp [chunksAt]
  | a :: r, i => by
    have := chunksAt_len holes short r (i + 1)
    have h2 : (holeAt holes i).length ≤ 1 := by unfold holeAt; split <;> simp
    rw [chunksAt, List.length_append, List.length_cons, List.length_cons]
    omega
theorem chunksAt_out (holes : List Int) (short : List Bool) : ∀ (l : List S25) (i : Nat), (chunksAt holes short i l).flatMap Chunk.out = l.map pe
  | [], i => rfl
  | a :: r, i => by
    rw [chunksAt, List.flatMap_append, List.flatMap_cons, chunksAt_out holes short r (i + 1), List.map_cons]
    have : (holeAt holes i).flatMap Chunk.out = [] := by unfold holeAt; split <;> simp [Chunk.out]
    rw [this]; rfl
theorem made_of {n : Nat} {w0 w : World} (h : Below n w0 w) (cs : Array Value) (t : Nat) : Box (w.alloc (.cells cs t)) w.heap.size t cs ∧ Below w.heap.size w (w.alloc (.cells cs t)) := ⟨Box.new _ _ _, below_alloc (Below.refl _ _) _⟩
theorem neg32 {n : Nat} (h : n ≤ 255) : wrap32 (-(n : Int)) = -(n : Int) := by unfold wrap32; omega
theorem pos32 {n : Nat} (h : n ≤ 255) : wrap32 (n : Int) = n := by unfold wrap32; omega
theorem bytes_str {l : List Int} (h : ∀ x ∈ l, 0 ≤ x ∧ x < 256) : bytesOf (strOfNums l) = l := by
  unfold bytesOf strOfNums
  simp only [List.map_map]
  conv => rhs; rw [← List.map_id l]
  apply List.map_congr_left
  intro x hx
  have := h x hx
  simp
  omega
theorem bytesOf_ok (s : ByteArray) : ∀ x ∈ bytesOf s, 0 ≤ x ∧ x < 256 := by
  intro x hx
  unfold bytesOf at hx
  obtain ⟨b, _, rfl⟩ := List.mem_map.1 hx
  have := b.toNat_lt
  omega
theorem e16_ok (v : Int) : ∀ x ∈ e16 v, 0 ≤ x ∧ x < 256 := by intro x hx; simp [e16] at hx; omega
theorem e32_ok (v : Int) : ∀ x ∈ e32 v, 0 ≤ x ∧ x < 256 := by intro x hx; simp [e32] at hx; omega
theorem app_ok {a b : List Int} (ha : ∀ x ∈ a, 0 ≤ x ∧ x < 256) (hb : ∀ x ∈ b, 0 ≤ x ∧ x < 256) : ∀ x ∈ a ++ b, 0 ≤ x ∧ x < 256 := fun x hx => (List.mem_append.1 hx).elim (ha x) (hb x)
theorem cnt16_ok (s : ByteArray) : ∀ x ∈ cnt16 s, 0 ≤ x ∧ x < 256 := app_ok (e16_ok _) (bytesOf_ok _)
theorem flat_ok {α : Type} {f : α → List Int} {l : List α} (h : ∀ a ∈ l, ∀ x ∈ f a, 0 ≤ x ∧ x < 256) : ∀ x ∈ l.flatMap f, 0 ≤ x ∧ x < 256 := fun x hx => by obtain ⟨a, ha, hx⟩ := List.mem_flatMap.1 hx; exact h a ha x hx
theorem entB_ok {e : S25} (he : OkE e) (wh : Bool) : ∀ x ∈ entB e wh, 0 ≤ x ∧ x < 256 := by
  unfold entB prinB
  refine app_ok (app_ok (e16_ok _) (app_ok (cnt16_ok _) (app_ok (flat_ok fun a _ => cnt16_ok a) (e32_ok _)))) (app_ok (e32_ok _) fun x hx => ?_)
  rcases List.mem_cons.1 hx with rfl | hx
  · have := he.short; omega
  · refine app_ok (e16_ok _) (app_ok (cnt16_ok _) ?_) x hx
    cases wh
    · intro x hx; cases hx
    · exact e32_ok _
theorem bytes_ok {c : Chunk} (h : c.Ok) : ∀ x ∈ c.bytes, 0 ≤ x ∧ x < 256 := by
  refine app_ok (e32_ok _) ?_
  cases c with
  | hole n => intro x hx; have := (List.mem_replicate.1 hx).2; omega
  | entry e wh => exact entB_ok h.1 wh
theorem size3 {a b c : ByteArray} {n : Nat} (ha : a.size ≤ n) (hb : b.size ≤ 4) (hc : c.size ≤ 255) : (a ++ (b ++ c)).size ≤ n + 5004 := by rw [ByteArray.size_append, ByteArray.size_append]; omega
theorem bytes_len {c : Chunk} (h : c.Ok) : c.bytes.length ≤ 5004 := by
  have := Chunk.body_len h
  rw [Chunk.bytes, List.length_append]
  have : (e32 (IntKind.u32.wrap c.size)).length = 4 := rfl
  omega
set_option maxHeartbeats 8000000 in
theorem ktBytes_any (l : List S25) (holes : List Int) (short : List Bool) (A A2 A3 : Option Addr) (c c2 c3 : Nat) (w : World) (he : ∀ e ∈ l, OkE e) (hl : l.length ≤ 20) (hh : ∀ x ∈ holes, 0 ≤ x ∧ x < 256)
    (hr : Kd.C k25 w A l.length l) (hr2 : (Kd.int .u8).C w A2 holes.length holes) (hr3 : Kd.bool.C w A3 short.length short) :
    Calls Try.prog 11 #[.slice A l.length c, .slice A2 holes.length c2, .slice A3 short.length c3] w fun x w' => x = .returned (.string (strOfNums (5 :: 2 :: (chunksAt holes short 0 l).flatMap Chunk.bytes))) ∧ Below w.heap.size w w' := by
  have HE := Aside0.mk he
  have HL := Aside0.mk hl
  have HH := Aside0.mk hh
  have R1 := Aside0.mk hr
  have R2 := Aside0.mk hr2
  have R3 := Aside0.mk hr3
  have hu25 := Try.underlying25
  clear he hh hr hr2 hr3
  go_enter Try.func11, Try.ntmps11
  go_wp2_with fail
  go_loopw [7, 15] (fun v7 i wr => ∃ (j : Nat) (oj : ByteArray), j ≤ l.length ∧ v7 = .string oj ∧ i = .int .i64 j ∧ Aside0 (oj = strOfNums (5 :: 2 :: (chunksAt holes short 0 (l.take j)).flatMap Chunk.bytes)) ∧ Aside0 (oj.size ≤ 2 + 10008 * j) ∧ Aside0 (Below w.heap.size w wr)) (fun _ i _ => l.length - (intOf i).toNat)
  case atStart => exact ⟨0, _, Nat.zero_le _, rfl, rfl, ⟨rfl⟩, ⟨by decide⟩, ⟨Below.refl _ _⟩⟩
  obtain ⟨j, oj, hj, rfl, rfl, OJ, ZJ, BJ⟩ := hrel
  by_cases hlt : j < l.length
  case neg =>
    obtain rfl : j = l.length := by omega
    have hnl : ¬ ((l.length : Int) < (l.length : Int)) := by omega
    have oj_ := OJ.out
    rw [List.take_length] at oj_
    have OZ := Aside0.mk oj_
    clear oj_ OJ
    go_wp2
    go_ret
    exact ⟨by rw [OZ.out]; rfl, BJ.out⟩
  have hlt' : (j : Int) < (l.length : Int) := by omega
  have hj0 : (0 : Int) ≤ (j : Int) := by omega
  obtain ⟨ad, e, A1, c1, rfl, hx, hcells, _, g1⟩ := row25 R1.out j hlt rfl
  have HX := Aside0.mk hx
  have HLT := Aside0.mk hlt
  have HEE := Aside0.mk (HE.out e (List.mem_of_getElem? hx))
  have G1 := Aside0.mk g1
  obtain ⟨cs, hcs⟩ : ∃ y : Array Value, y = #[.string e.f0, .slice A1 e.f1.length c1, .int .i32 e.f2, .int .i64 e.f3, .int .u8 e.f4, .int .u32 e.f5, .int .i32 e.f6, .string e.f7] := ⟨_, rfl⟩
  have HC2 := Aside0.mk (show (∀ i u, cs.toList[i]? = some u → wr.cell? ((ad.add (j * 8)).add i) = some u) ∧ cs.toList.length = 8 from by subst hcs; exact ⟨fun i u hu => pw_low BJ.out (hcells i u hu), rfl⟩)
  have HS2 := Aside0.mk (show cs.size = 8 ∧ cs.all (·.oneCell') = true from by subst hcs; exact ⟨rfl, by simp [Value.oneCell']⟩)
  have HCS := Aside0.mk hcs
  have HZ25 : (Try.prog.info? 25).map (·.size) = some cs.size := size25.trans (congrArg some HS2.out.1.symm)
  have HI25 := Aside0.mk HZ25
  clear hcs hx hcells g1 hlt HZ25
  go_upto_region 5 with (first
    | ((with_reducible refine gate_dst (N := 19) rfl ?_); refine load_cells_event ?hg (N := 19) ?hd 25 (.tmp 18) (ad.add (j * 8)) cs.toList _ ?ho ?hx HC2.out.1 Try.underlying25 ?hq ?hi ?_; (case hg => rfl); (case hd => rfl); (case ho => rfl); (case hx => first | rfl | (go_simp; done)); (case hq => rfl); (case hi => exact size25.trans (congrArg some HC2.out.2.symm)))
    | ((with_reducible refine gate_dst (N := 9) rfl ?_); refine box_event ?hg (N := 9) ?hd (cs := #[.string ⟨#[]⟩, .slice none 0 0, .int .i32 0, .int .i64 0, .int .u8 0, .int .u32 0, .int .i32 0, .string ⟨#[]⟩]) (t := 25) ?hr ?_; (case hd => rfl); (case hg => rfl); (case hr => first | (go_simp; done) | (go_simp; rfl)); intro gb hgb w1 hbox hb; have HBX := Aside0.mk hbox; have HBB := Aside0.mk hb; have HGB := Aside0.mk (show wr.heap.size ≤ gb from by rw [hgb]; exact Nat.le_refl _); clear hbox hb hgb)
    | ((with_reducible refine gate_store (t := 25) (p := 9) (v := .tmp 19) rfl ?_); refine store_event ?hg 25 (.tmp 9) (.tmp 19) ?ho gb cs ?hx ?hy 25 _ HBX.out ?hi ?hl HS2.out.2 ?_; (case hg => rfl); (case ho => rfl); (case hx => first | rfl | (go_simp; done)); (case hy => first | (simp only [Array.toArray_toList]; rfl) | (go_simp; done)); (case hi => exact HI25.out); (case hl => exact HS2.out.1.symm); intro w2 hb2 hbl2 hsz2 hot2; have Q2 := Aside0.mk (show Box w2 gb 25 cs from hb2); have HBL2 := Aside0.mk (hbl2 wr HBB.out HGB.out); clear hb2 hbl2 hsz2 hot2)
    | fail)
  have B2 := Aside0.mk (below_step BJ.out HBL2.out)
  clear HBX HBB HGB HC2 HBL2 BJ
  obtain ⟨hb, hhb⟩ : ∃ z, z = decide (0 < holes.getD j 0) := ⟨_, rfl⟩
  have HHB := Aside0.mk hhb
  clear hhb
  (try simp only [Act.put, List.setIfInBounds_toArray, List.set_cons_zero, List.set_cons_succ])
  go_cut [30] (fun v30 wc => v30 = .bool hb ∧ wc = w2)
  case first =>
    by_cases h1 : j < holes.length
    · have h1' : (j : Int) < (holes.length : Int) := by omega
      obtain ⟨ad2, rfl, hc⟩ := Kd.at_int (Kd.C_below R2.out B2.out) (j : Int) hj0 h1'
      have hrd : rd holes (j : Int) = holes.getD j 0 := rfl
      rw [Int.toNat_natCast, hrd] at hc
      have hhb := HHB.out
      generalize holes.getD j 0 = x at *
      cases hb with
      | true =>
        have hx1 : 0 < x := of_decide_eq_true hhb.symm
        clear hhb h1 hrd HHB
        go_wp2_with fail
        go_meet
        exact ⟨rfl, rfl⟩
      | false =>
        have hx1 : ¬ 0 < x := of_decide_eq_false hhb.symm
        clear hhb h1 hrd HHB
        go_wp2_with fail
        go_meet
        exact ⟨rfl, rfl⟩
    · have h1' : ¬ (j : Int) < (holes.length : Int) := by omega
      have hd1 : decide ((j : Int) < (holes.length : Int)) = false := decide_eq_false h1'
      have hhb : hb = false := by rw [HHB.out, List.getD_eq_getElem?_getD, List.getElem?_eq_none (by omega)]; rfl
      subst hhb
      go_wp2_with fail
      go_meet
      exact ⟨rfl, rfl⟩
  obtain ⟨rfl, rfl⟩ := hcut
  (try simp only [Act.put, List.setIfInBounds_toArray, List.set_cons_zero, List.set_cons_succ])
  go_upto_if 30 with fail
  go_cut [7] (fun v7 wy => ∃ o2, v7 = .string o2 ∧ Aside0 (o2 = strOfNums (5 :: 2 :: (chunksAt holes short 0 (l.take j) ++ holeAt holes j).flatMap Chunk.bytes)) ∧ Aside0 (o2.size ≤ 2 + 10008 * j + 5004) ∧ Aside0 (Box wy gb 25 cs) ∧ Aside0 (Below w.heap.size w wy))
  case first =>
    cases hb with
    | false =>
      have hh0 : holeAt holes j = [] := by unfold holeAt; rw [if_neg (of_decide_eq_false HHB.out.symm)]
      have HO2 := Aside0.mk (show oj = strOfNums (5 :: 2 :: (chunksAt holes short 0 (l.take j) ++ holeAt holes j).flatMap Chunk.bytes) from by rw [hh0, List.append_nil]; exact OJ.out)
      have HZ2 := Aside0.mk (show oj.size ≤ 2 + 10008 * j + 5004 from by have := ZJ.out; omega)
      clear hh0
      go_wp2_with fail
      go_meet
      exact ⟨_, rfl, HO2, HZ2, Q2, B2⟩
    | true =>
      have hpos : 0 < holes.getD j 0 := of_decide_eq_true HHB.out.symm
      have h1 : j < holes.length := by
        rcases Nat.lt_or_ge j holes.length with h | h
        · exact h
        · rw [List.getD_eq_getElem?_getD, List.getElem?_eq_none h] at hpos; cases hpos
      have h1' : (j : Int) < (holes.length : Int) := by omega
      obtain ⟨ad2, rfl, hc⟩ := Kd.at_int (Kd.C_below R2.out B2.out) (j : Int) hj0 h1'
      have hrd : rd holes (j : Int) = holes.getD j 0 := rfl
      rw [Int.toNat_natCast, hrd] at hc
      have hx255 : holes.getD j 0 < 256 := by rw [List.getD_eq_getElem?_getD, List.getElem?_eq_getElem h1]; exact (HH.out _ (List.getElem_mem h1)).2
      obtain ⟨n0, hn0⟩ : ∃ n0 : Nat, holes.getD j 0 = (n0 : Int) := ⟨(holes.getD j 0).toNat, by omega⟩
      rw [hn0] at hc hpos hx255
      have hha : holeAt holes j = [Chunk.hole n0] := by unfold holeAt; rw [hn0, if_pos hpos, Int.toNat_natCast]
      have HA := Aside0.mk hha
      have hw0 : wrap64 (n0 : Int) = n0 := by unfold wrap64; omega
      have hn1 : n0 ≤ 255 := by omega
      have hn2 : 1 ≤ n0 := by omega
      clear hha hn0 hrd hpos hx255 h1
      go_upto_region 7 with fail
      obtain ⟨wx, hwx⟩ : ∃ z, z = wc.drew := ⟨_, rfl⟩
      have hbd : Below wc.heap.size wc wx := hwx ▸ below_drew (Below.refl _ _)
      have QX := Aside0.mk (Q2.out.below hbd)
      have BX := Aside0.mk (below_step B2.out hbd)
      have hmk : ∀ W : World, (Instr.makeSlice 35 (.int .i64 (n0 : Int)) (.int .i64 (n0 : Int))).run Try.prog W = .ok (.slice (some ⟨W.heap.size, 0, none⟩) n0 n0) (W.alloc (.cells (madeCells #[.int .u8 0] n0) 5)) :=
        fun W => run_make_row' 35 5 (.int .u8 0) 1 Try.underlying35 info5 rfl .i64 .i64 n0 (by omega) (by omega) W
      obtain ⟨a1, ha1⟩ : ∃ s, s = strOfNums (e32 (IntKind.u32.wrap (-(n0 : Int)))) := ⟨_, rfl⟩
      obtain ⟨a2, ha2⟩ : ∃ s, s = strOfNums (List.replicate n0 0) := ⟨_, rfl⟩
      have hm : madeCells #[.int .u8 0] n0 = (nums .u8 (List.replicate n0 0)).toArray := by
        apply Array.ext
        · simp [madeCells, nums]
        · intro i h1 h2
          simp [madeCells, Nat.mod_one, nums]
      have hcvA : ∀ (W : World) (gm : Nat), Box W gm 5 (madeCells #[.int .u8 0] n0) → (convert 35 9 (.slice (some ⟨gm, 0, none⟩) n0 n0)).run Try.prog W = .ok (.string a2) W := fun W gm hbx => by
        rw [ha2]
        refine own_string (P := Try.prog) (base := 0) Try.underlying35 Try.underlying5 Try.underlying9 (xs := List.replicate n0 0) ⟨by simp [nums], .inr ⟨gm, n0, _, rfl, Nat.zero_le _, hbx, Nat.le_refl _, by unfold maxLen; omega, by simp [madeCells], ?_⟩⟩
        rw [hm, Nat.mul_one]
        exact List.take_of_length_le (by simp [nums])
      clear hm
      have z1 : a1.size ≤ 4 := by rw [ha1, str_size]; simp [e32]
      have z2 : a2.size ≤ 255 := by rw [ha2, str_size, List.length_replicate]; exact hn1
      have zj : oj.size ≤ 210000 := by have := ZJ.out; omega
      have y1 : (9223372036854775807 < a1.size + a2.size) = False := by simp; omega
      have y2 : (9223372036854775807 < oj.size + (a1.size + a2.size)) = False := by simp; omega
      have hwn := pos32 hn1
      have hwm := neg32 hn1
      have HA1 := Aside0.mk ha1
      have HA2 := Aside0.mk ha2
      have HMK := Aside0.mk hmk
      have HCA := Aside0.mk hcvA
      clear ha1 ha2 hbd Q2 B2 hcvA
      refine start_ (n := 13) (S := fun w' => True) (ds := []) #[false, false, false, false, false, false, false, false, false, false, false, false, false] (by kernel_rfl) rfl rfl trivial (fun hHeld => ?_)
      rw [← hwx]
      clear hwx
      refine pure_ (i := 0) (N := some 36) (v := ?_) (a' := ?_) #[true, false, false, false, false, false, false, false, false, false, false, false, false] rfl rfl (by kernel_rfl) (fun _ _ _ h => h) (Or.inl ⟨by rfl, ?_⟩) ?_ ?_
      rotate_left
      · intro w'
        go_simp
        with_reducible rfl
      rotate_left
      · simp only [Act.put, List.setIfInBounds_toArray, List.set_cons_zero, List.set_cons_succ, i64_w, i32_w]
        rfl
      refine pure_ (i := 1) (N := some 37) (v := ?_) (a' := ?_) #[true, true, false, false, false, false, false, false, false, false, false, false, false] rfl rfl (by kernel_rfl) (fun _ _ _ h => h) (Or.inl ⟨by rfl, ?_⟩) ?_ ?_
      rotate_left
      · intro w'
        go_simp
        with_reducible rfl
      rotate_left
      · simp only [Act.put, List.setIfInBounds_toArray, List.set_cons_zero, List.set_cons_succ, i64_w, i32_w]
        rfl
      refine pure_ (i := 2) (N := some 38) (v := ?_) (a' := ?_) #[true, true, true, false, false, false, false, false, false, false, false, false, false] rfl rfl (by kernel_rfl) (fun _ _ _ h => h) (Or.inl ⟨by rfl, ?_⟩) ?_ ?_
      rotate_left
      · intro w'
        go_simp
        with_reducible rfl
      rotate_left
      · simp only [Act.put, List.setIfInBounds_toArray, List.set_cons_zero, List.set_cons_succ, i64_w, i32_w]
        rfl
      refine pure_ (i := 3) (N := some 39) (v := ?_) (a' := ?_) #[true, true, true, true, false, false, false, false, false, false, false, false, false] rfl rfl (by kernel_rfl) (fun _ _ _ h => h) (Or.inl ⟨by rfl, ?_⟩) ?_ ?_
      rotate_left
      · intro w'
        go_simp
        with_reducible rfl
      rotate_left
      · simp only [Act.put, List.setIfInBounds_toArray, List.set_cons_zero, List.set_cons_succ, i64_w, i32_w]
        rfl
      refine pure_ (i := 4) (N := some 40) (v := ?_) (a' := ?_) #[true, true, true, true, true, false, false, false, false, false, false, false, false] rfl rfl (by kernel_rfl) (fun _ _ _ h => h) (Or.inl ⟨by rfl, ?_⟩) ?_ ?_
      rotate_left
      · intro w'
        go_simp
        with_reducible rfl
      rotate_left
      · simp only [Act.put, List.setIfInBounds_toArray, List.set_cons_zero, List.set_cons_succ, i64_w, i32_w]
        rfl
      refine pure_ (i := 5) (N := some 41) (v := ?_) (a' := ?_) #[true, true, true, true, true, true, false, false, false, false, false, false, false] rfl rfl (by kernel_rfl) (fun _ _ _ h => h) (Or.inl ⟨by rfl, ?_⟩) ?_ ?_
      rotate_left
      · intro w'
        go_simp
        with_reducible rfl
      rotate_left
      · simp only [Act.put, List.setIfInBounds_toArray, List.set_cons_zero, List.set_cons_succ, i64_w, i32_w]
        rfl
      refine pure_ (i := 7) (N := some 43) (v := ?_) (a' := ?_) #[true, true, true, true, true, true, false, true, false, false, false, false, false] rfl rfl (by kernel_rfl) (fun _ _ _ h => h) (Or.inl ⟨by rfl, ?_⟩) ?_ ?_
      rotate_left
      · intro w'
        go_simp
        with_reducible rfl
      rotate_left
      · simp only [Act.put, List.setIfInBounds_toArray, List.set_cons_zero, List.set_cons_succ, i64_w, i32_w]
        rfl
      refine join_ (σ := Nat) 3 #[true, true, true, true, true, true, true, true, true, true, false, false, false] (fun s => [(42, .string a1), (44, .slice (some ⟨s, 0, none⟩) n0 n0), (45, .string a2)]) (fun s w' => Box w' gb 25 cs ∧ Box w' s 5 (madeCells #[.int .u8 0] n0) ∧ Below w.heap.size w w') ?_ ?_
      rotate_left
      · intro hCont
        refine two_ (i := 6) (j := 8) (Ni := some 42) (Nj := some 44) #[true, true, true, true, true, true, true, true, false, false, false, false, false] #[true, true, true, true, true, true, false, true, true, false, false, false, false] rfl rfl rfl rfl (by kernel_rfl) (by decide) (by decide) (fun K hK => ?_) (fun K hK => ?_)
        · skip
          have h6_ := fun W_ => big4_any (IntKind.u32.wrap (-(n0 : Int))) W_ (u32_range _).1
          simp only [← HA1.out] at h6_
          rw [← u64_nat (x := IntKind.u32.wrap (-(n0 : Int))) (u32_range _).1 (by have := (u32_range (-(n0 : Int))).2; omega)] at h6_
          refine goes_ Try.func20 (by kernel_rfl) rfl #[.int .u64 (IntKind.u64.wrap (IntKind.u32.wrap (-(n0 : Int)))), .int .i64 4] (by rfl) rfl rfl (by simp only [List.map_toArray, List.map_cons, List.map_nil]; rfl) ?_
          with_reducible refine (h6_ _).mono ?_
          rintro e_ wY ⟨rfl, hb_⟩
          refine ⟨_, rfl, ?_⟩
          have t1_ := Aside0.mk (QX.out.below hb_)
          have t2_ := Aside0.mk (below_step BX.out hb_)
          clear QX BX
          have QX := t1_
          have BX := t2_
          clear t1_ t2_
          clear hb_ h6_
          refine hK.out _ _ trivial (fun hHeld => ?_)
          clear hK K
          refine norm_ (a' := ?_) ?_ ?_
          rotate_left
          · show Act.put _ (some 42) _ = _
            simp only [Act.put, List.setIfInBounds_toArray, List.set_cons_zero, List.set_cons_succ, i64_w, i32_w]
            rfl
          refine one_ (i := 8) (N := some 44) #[true, true, true, true, true, true, true, true, true, false, false, false, false] rfl rfl (by kernel_rfl) (by decide) (fun K hK => ?_)
          refine value_ (w1 := ?_) (v := ?_) (by rfl) rfl ?_ ?_
          rotate_left 2
          · go_simp
            constructor
            · rfl
            · rfl
          obtain ⟨hbm, hb_⟩ := made_of BX.out (madeCells #[.int .u8 0] n0) 5
          have HM := Aside0.mk hbm
          have t1_ := Aside0.mk (QX.out.below hb_)
          have t2_ := Aside0.mk (below_step BX.out hb_)
          clear QX BX
          have QX := t1_
          have BX := t2_
          clear t1_ t2_
          clear hb_ hbm
          refine hK.out _ _ trivial (fun hHeld => ?_)
          clear hK K
          refine norm_ (a' := ?_) ?_ ?_
          rotate_left
          · show Act.put _ (some 44) _ = _
            simp only [Act.put, List.setIfInBounds_toArray, List.set_cons_zero, List.set_cons_succ, i64_w, i32_w]
            rfl
          refine one_ (i := 9) (N := some 45) #[true, true, true, true, true, true, true, true, true, true, false, false, false] rfl rfl (by kernel_rfl) (by decide) (fun K hK => ?_)
          have hcv := HCA.out _ _ HM.out
          refine value_ (w1 := ?_) (v := ?_) (by rfl) rfl ?_ ?_
          rotate_left 2
          · go_simp
            constructor
            · rfl
            · rfl
          clear hcv
          refine hK.out _ _ trivial (fun hHeld => ?_)
          clear hK K
          refine norm_ (a' := ?_) ?_ ?_
          rotate_left
          · show Act.put _ (some 45) _ = _
            simp only [Act.put, List.setIfInBounds_toArray, List.set_cons_zero, List.set_cons_succ, i64_w, i32_w]
            rfl
          exact norm_ (by simp only [putAll, Act.put, List.setIfInBounds_toArray, List.set_cons_zero, List.set_cons_succ]) (hCont _ _ ⟨QX.out, HM.out, BX.out⟩)
        · skip
          refine value_ (w1 := ?_) (v := ?_) (by rfl) rfl ?_ ?_
          rotate_left 2
          · go_simp
            constructor
            · rfl
            · rfl
          obtain ⟨hbm, hb_⟩ := made_of BX.out (madeCells #[.int .u8 0] n0) 5
          have HM := Aside0.mk hbm
          have t1_ := Aside0.mk (QX.out.below hb_)
          have t2_ := Aside0.mk (below_step BX.out hb_)
          clear QX BX
          have QX := t1_
          have BX := t2_
          clear t1_ t2_
          clear hb_ hbm
          refine hK.out _ _ trivial (fun hHeld => ?_)
          clear hK K
          refine norm_ (a' := ?_) ?_ ?_
          rotate_left
          · show Act.put _ (some 44) _ = _
            simp only [Act.put, List.setIfInBounds_toArray, List.set_cons_zero, List.set_cons_succ, i64_w, i32_w]
            rfl
          refine two_ (i := 6) (j := 9) (Ni := some 42) (Nj := some 45) #[true, true, true, true, true, true, true, true, true, false, false, false, false] #[true, true, true, true, true, true, false, true, true, true, false, false, false] rfl rfl rfl rfl (by kernel_rfl) (by decide) (by decide) (fun K hK => ?_) (fun K hK => ?_)
          · skip
            have h6_ := fun W_ => big4_any (IntKind.u32.wrap (-(n0 : Int))) W_ (u32_range _).1
            simp only [← HA1.out] at h6_
            rw [← u64_nat (x := IntKind.u32.wrap (-(n0 : Int))) (u32_range _).1 (by have := (u32_range (-(n0 : Int))).2; omega)] at h6_
            refine goes_ Try.func20 (by kernel_rfl) rfl #[.int .u64 (IntKind.u64.wrap (IntKind.u32.wrap (-(n0 : Int)))), .int .i64 4] (by rfl) rfl rfl (by simp only [List.map_toArray, List.map_cons, List.map_nil]; rfl) ?_
            with_reducible refine (h6_ _).mono ?_
            rintro e_ wY ⟨rfl, hb_⟩
            refine ⟨_, rfl, ?_⟩
            have t1_ := Aside0.mk (QX.out.below hb_)
            have t2_ := Aside0.mk (below_step BX.out hb_)
            have t3_ := Aside0.mk (HM.out.below hb_)
            clear QX BX
            have QX := t1_
            have BX := t2_
            clear t1_ t2_
            clear HM
            have HM := t3_
            clear t3_
            clear hb_ h6_
            refine hK.out _ _ trivial (fun hHeld => ?_)
            clear hK K
            refine norm_ (a' := ?_) ?_ ?_
            rotate_left
            · show Act.put _ (some 42) _ = _
              simp only [Act.put, List.setIfInBounds_toArray, List.set_cons_zero, List.set_cons_succ, i64_w, i32_w]
              rfl
            refine one_ (i := 9) (N := some 45) #[true, true, true, true, true, true, true, true, true, true, false, false, false] rfl rfl (by kernel_rfl) (by decide) (fun K hK => ?_)
            have hcv := HCA.out _ _ HM.out
            refine value_ (w1 := ?_) (v := ?_) (by rfl) rfl ?_ ?_
            rotate_left 2
            · go_simp
              constructor
              · rfl
              · rfl
            clear hcv
            refine hK.out _ _ trivial (fun hHeld => ?_)
            clear hK K
            refine norm_ (a' := ?_) ?_ ?_
            rotate_left
            · show Act.put _ (some 45) _ = _
              simp only [Act.put, List.setIfInBounds_toArray, List.set_cons_zero, List.set_cons_succ, i64_w, i32_w]
              rfl
            exact norm_ (by simp only [putAll, Act.put, List.setIfInBounds_toArray, List.set_cons_zero, List.set_cons_succ]) (hCont _ _ ⟨QX.out, HM.out, BX.out⟩)
          · skip
            have hcv := HCA.out _ _ HM.out
            refine value_ (w1 := ?_) (v := ?_) (by rfl) rfl ?_ ?_
            rotate_left 2
            · go_simp
              constructor
              · rfl
              · rfl
            clear hcv
            refine hK.out _ _ trivial (fun hHeld => ?_)
            clear hK K
            refine norm_ (a' := ?_) ?_ ?_
            rotate_left
            · show Act.put _ (some 45) _ = _
              simp only [Act.put, List.setIfInBounds_toArray, List.set_cons_zero, List.set_cons_succ, i64_w, i32_w]
              rfl
            refine one_ (i := 6) (N := some 42) #[true, true, true, true, true, true, true, true, true, true, false, false, false] rfl rfl (by kernel_rfl) (by decide) (fun K hK => ?_)
            have h6_ := fun W_ => big4_any (IntKind.u32.wrap (-(n0 : Int))) W_ (u32_range _).1
            simp only [← HA1.out] at h6_
            rw [← u64_nat (x := IntKind.u32.wrap (-(n0 : Int))) (u32_range _).1 (by have := (u32_range (-(n0 : Int))).2; omega)] at h6_
            refine goes_ Try.func20 (by kernel_rfl) rfl #[.int .u64 (IntKind.u64.wrap (IntKind.u32.wrap (-(n0 : Int)))), .int .i64 4] (by rfl) rfl rfl (by simp only [List.map_toArray, List.map_cons, List.map_nil]; rfl) ?_
            with_reducible refine (h6_ _).mono ?_
            rintro e_ wY ⟨rfl, hb_⟩
            refine ⟨_, rfl, ?_⟩
            have t1_ := Aside0.mk (QX.out.below hb_)
            have t2_ := Aside0.mk (below_step BX.out hb_)
            have t3_ := Aside0.mk (HM.out.below hb_)
            clear QX BX
            have QX := t1_
            have BX := t2_
            clear t1_ t2_
            clear HM
            have HM := t3_
            clear t3_
            clear hb_ h6_
            refine hK.out _ _ trivial (fun hHeld => ?_)
            clear hK K
            refine norm_ (a' := ?_) ?_ ?_
            rotate_left
            · show Act.put _ (some 42) _ = _
              simp only [Act.put, List.setIfInBounds_toArray, List.set_cons_zero, List.set_cons_succ, i64_w, i32_w]
              rfl
            exact norm_ (by simp only [putAll, Act.put, List.setIfInBounds_toArray, List.set_cons_zero, List.set_cons_succ]) (hCont _ _ ⟨QX.out, HM.out, BX.out⟩)
      rintro gm wn ⟨hz1, hz2, hz3⟩
      clear QX BX
      have QX := Aside0.mk hz1
      have BX := Aside0.mk hz3
      clear hz1 hz2 hz3
      have hHeld : True := trivial
      refine norm_ (a' := ?_) ?_ ?_
      rotate_left
      · simp only [putAll, Act.put, List.setIfInBounds_toArray, List.set_cons_zero, List.set_cons_succ]
        rfl
      refine pure_ (i := 10) (N := some 46) (v := ?_) (a' := ?_) #[true, true, true, true, true, true, true, true, true, true, true, false, false] rfl rfl (by kernel_rfl) (fun _ _ _ h => h) (Or.inl ⟨by rfl, ?_⟩) ?_ ?_
      rotate_left
      · intro w'
        go_simp
        with_reducible rfl
      rotate_left
      · simp only [Act.put, List.setIfInBounds_toArray, List.set_cons_zero, List.set_cons_succ, i64_w, i32_w]
        rfl
      refine pure_ (i := 11) (N := some 47) (v := ?_) (a' := ?_) #[true, true, true, true, true, true, true, true, true, true, true, true, false] rfl rfl (by kernel_rfl) (fun _ _ _ h => h) (Or.inl ⟨by rfl, ?_⟩) ?_ ?_
      rotate_left
      · intro w'
        go_simp
        with_reducible rfl
      rotate_left
      · simp only [Act.put, List.setIfInBounds_toArray, List.set_cons_zero, List.set_cons_succ, i64_w, i32_w]
        rfl
      refine pure_ (i := 12) (N := some 7) (v := ?_) (a' := ?_) #[true, true, true, true, true, true, true, true, true, true, true, true, true] rfl rfl (by kernel_rfl) (fun _ _ _ h => h) (Or.inl ⟨by rfl, ?_⟩) ?_ ?_
      rotate_left
      · intro w'
        go_simp
        with_reducible rfl
      rotate_left
      · simp only [Act.put, List.setIfInBounds_toArray, List.set_cons_zero, List.set_cons_succ, i64_w, i32_w]
        rfl
      refine done_ (by kernel_rfl) ?_
      
      have HO2 := Aside0.mk (show oj ++ (a1 ++ a2) = strOfNums (5 :: 2 :: (chunksAt holes short 0 (l.take j) ++ holeAt holes j).flatMap Chunk.bytes) from by
        rw [OJ.out, HA1.out, HA2.out, str_app, str_app, HA.out, List.flatMap_append]
        simp [Chunk.bytes, Chunk.size, Chunk.body])
      have HZ2 := Aside0.mk (show (oj ++ (a1 ++ a2)).size ≤ 2 + 10008 * j + 5004 from size3 ZJ.out z1 z2)
      clear HA1 HA2 HMK HCA y1 y2 hwn hwm z1 z2 zj hmk hHeld hn1 hn2 hc HA OJ ZJ
      go_wp2_with fail
      go_meet
      exact ⟨_, rfl, HO2, HZ2, QX, BX⟩
  clear OJ ZJ Q2 B2 HHB
  obtain ⟨o2, rfl, O2, Z2, Q3, B3⟩ := hcut
  generalize wc = w3 at *
  go_upto_region 8 with fail
  (try simp only [Act.put, List.setIfInBounds_toArray, List.set_cons_zero, List.set_cons_succ])
  obtain ⟨wh, hwh⟩ : ∃ z, z = wholeAt short j e := ⟨_, rfl⟩
  have HWH := Aside0.mk hwh
  clear hwh
  go_cut [11] (fun v11 wd => v11 = .bool wh ∧ wd = w3)
  case first =>
    have k5 : w3.cell? ⟨gb, 5, none⟩ = some (.int .u32 e.f5) := Q3.out.cell 5 _ (by rw [HCS.out]; rfl)
    have k4 : w3.cell? ⟨gb, 4, none⟩ = some (.int .u8 e.f4) := Q3.out.cell 4 _ (by rw [HCS.out]; rfl)
    have hwu : IntKind.u32.wrap e.f4 = e.f4 := by rw [IntKind.wrap_u32]; have := HEE.out.short; omega
    by_cases h1 : j < short.length
    · have h1' : (j : Int) < (short.length : Int) := by omega
      obtain ⟨ad2, rfl, hc⟩ := Kd.at_bool (Kd.C_below R3.out B3.out) (j : Int) hj0 h1'
      have hrd : rdOf false short (j : Int) = short.getD j false := rfl
      rw [Int.toNat_natCast, hrd] at hc
      have hwh := HWH.out
      unfold wholeAt at hwh
      generalize short.getD j false = b at *
      clear HWH h1 hrd
      cases b with
      | false =>
        obtain rfl : wh = true := by rw [hwh]; rfl
        clear hwh
        go_wp2_with fail
        go_meet
        exact ⟨rfl, rfl⟩
      | true =>
        have hne : (e.f5 != e.f4) = wh := by rw [hwh]; by_cases h : e.f5 = e.f4 <;> simp [h]
        clear hwh
        go_wp2_with fail
        go_meet
        exact ⟨by first | rfl | rw [hne], rfl⟩
    · have h1' : ¬ (j : Int) < (short.length : Int) := by omega
      have hd1 : decide ((j : Int) < (short.length : Int)) = false := decide_eq_false h1'
      obtain rfl : wh = true := by rw [HWH.out]; unfold wholeAt; rw [List.getD_eq_getElem?_getD, List.getElem?_eq_none (by omega)]; rfl
      clear h1
      go_wp2_with fail
      go_meet
      exact ⟨rfl, rfl⟩
  obtain ⟨rfl, rfl⟩ := hcut
  (try simp only [Act.put, List.setIfInBounds_toArray, List.set_cons_zero, List.set_cons_succ])
  go_wp2_with (first | ((with_reducible refine gate_dst (N := 67) rfl ?_); refine row_event ?hg (N := 67) ?hd 25 (.tmp 9) gb 25 cs _ ?ho ?hx Q3.out Try.underlying25 ?hq ?hi ?_; (case hg => rfl); (case hd => rfl); (case ho => rfl); (case hx => first | rfl | (go_simp; done)); (case hq => rfl); (case hi => exact HI25.out)) | fail)
  have hcall := entryBytes_any e A1 c1 wh _ HEE.out (Kd.C_below G1.out B3.out)
  obtain ⟨s4, hs4⟩ : ∃ s, s = strOfNums (entB e wh) := ⟨_, rfl⟩
  rw [← HCS.out, ← hs4] at hcall
  have hz4 : s4.size ≤ 5000 := by rw [hs4, str_size]; exact (HEE.out.len wh).2.1
  have HS4 := Aside0.mk hs4
  refine hcall.mono ?_
  clear hcall hs4
  rintro x_ w4 ⟨rfl, hb_⟩
  have B4 := Aside0.mk (below_step B3.out hb_)
  clear hb_ B3 Q3
  go_wp2_with fail
  obtain ⟨s5, hs5⟩ : ∃ s, s = strOfNums (e32 s4.size ++ bytesOf s4) := ⟨_, rfl⟩
  have h5 := counted4_any s4 w4 (by omega)
  rw [← hs5] at h5
  have hz5 : s5.size ≤ 5004 := by rw [hs5, str_size, List.length_append, bytesOf_length]; simp only [e32, List.length_cons, List.length_nil]; omega
  have hzo : o2.size ≤ 300000 := by have := Z2.out; omega
  have zz5 : o2.size + s5.size ≤ 9223372036854775807 := by omega
  have HS5 := Aside0.mk (show s5 = strOfNums (Chunk.entry e wh).bytes from by
    have hb := bytes_str (l := entB e wh) (entB_ok HEE.out wh)
    rw [hs5, HS4.out, hb, str_size, Chunk.bytes]
    have : IntKind.u32.wrap (Chunk.entry e wh).size = ((entB e wh).length : Int) := by rw [IntKind.wrap_u32]; have := (HEE.out.len wh).2.1; simp only [Chunk.size]; omega
    rw [this]; rfl)
  have HZ5 := Aside0.mk hz5
  refine h5.mono ?_
  clear h5 hs5 hz4 hzo hz5
  rintro x_ w5 ⟨rfl, hb_⟩
  have B5 := Aside0.mk (below_step B4.out hb_)
  clear hb_ B4
  go_wp2_with fail
  go_roundw
  case rel =>
    refine ⟨j + 1, o2 ++ s5, HLT.out, rfl, by go_num, ⟨?_⟩, ⟨by rw [ByteArray.size_append]; have := Z2.out; have := HZ5.out; omega⟩, B5⟩
    have htk : l.take (j + 1) = l.take j ++ [e] := by rw [List.take_add_one, HX.out]; rfl
    have htl : (l.take j).length = j := by rw [List.length_take]; have := HLT.out; omega
    rw [O2.out, HS5.out, str_app, htk, chunksAt_snoc, htl, Nat.zero_add, HWH.out]
    simp [List.flatMap_append]
  case measure => have := HLT.out; simp [intOf]; omega
end Go.Proofs.Ytcbbipdiahmelaa.B

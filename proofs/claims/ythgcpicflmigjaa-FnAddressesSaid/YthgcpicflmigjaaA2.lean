/- Go functions of this seat come to the answers of the Lean functions that stand here ('.calls'), under what each theorem states and nothing else. Written by pw.py, a program of this session, with texts of its own. -/
import Derived.Test.YthgcpicflmigjaaA0
import Derived.Test.YthgcpicflmigjaaA1
import Derived.Test.YthgcpicflmigjaaReg
import Derived.Deep.DrawnRows
namespace Go.Proofs.Ythgcpicflmigjaa.A
open Go.RowKit Go.Proofs.YthgcpicflmigjaaW.PrintWords Go.Proofs.YthgcpicflmigjaaW.PrintLast Go.Proofs.YthgcpicflmigjaaW.PrintMore
attribute [local go_sem] max2_int min2_int max_two min_two max_three min_three max_four min_four   -- for this text's walks alone
set_option linter.unusedVariables false
set_option linter.unusedSimpArgs false
set_option maxRecDepth 100000

/-! ### impl_AddressEqual: function 20 -/
-- EXT rounds=0 making=1
-- NEEDS 64
/-- Block b holds a text's bytes. -/
def Bytes (w : World) (b cap : Nat) (s : ByteArray) : Prop :=
  (s.size ≤ cap ∧ s.size ≤ 140737488355328) ∧ ∃ cells fr, w.heap[b]? = some (.cells cells 5 fr) ∧ ∀ j, j < s.size → cells[j]? = some (.int .u8 ((bytesOf s).getD j 0))
theorem Bytes.lt {w : World} {b cap : Nat} {s : ByteArray} (h : Bytes w b cap s) : b < w.heap.size := by
  obtain ⟨_, cells, fr, hh, _⟩ := h
  exact blk_lt hh
theorem Bytes.move {w w' : World} {b cap : Nat} {s : ByteArray} (h : Bytes w b cap s) (hm : w'.heap[b]? = w.heap[b]?) : Bytes w' b cap s := by
  obtain ⟨hc, cells, fr, hh, hx⟩ := h
  exact ⟨hc, cells, fr, hm.trans hh, hx⟩
theorem Bytes.below {w w' : World} {b cap : Nat} {s : ByteArray} (h : Bytes w b cap s) (hb : Below w.heap.size w w') : Bytes w' b cap s := h.move (hb.block b h.lt)
theorem Bytes.C {w : World} {b cap : Nat} {s : ByteArray} (h : Bytes w b cap s) : (Kd.int .u8).C w (some ⟨b, 0, none⟩) (bytesOf s).length (bytesOf s) := by
  obtain ⟨hc, cells, fr, hh, hx⟩ := h
  refine Kd.C_of_reads (d := (0 : Int)) (h1 := fun _ => rfl) ⟨rfl, by rw [bytesOf_length]; omega, fun _ => ⟨_, rfl, fun j hj => ?_⟩⟩
  rw [bytesOf_length] at hj
  rw [add_plain, cell_of_row w b j cells 5 fr hh]
  exact hx j hj
theorem Bytes.cap {w : World} {b cap : Nat} {s : ByteArray} (h : Bytes w b cap s) : (bytesOf s).length ≤ cap := by rw [bytesOf_length]; exact h.1.1
theorem strOf_bytesOf (s : ByteArray) : strOfNums (bytesOf s) = s := by
  apply ByteArray.ext
  unfold strOfNums bytesOf
  rw [List.map_map]
  have : ((fun n : Int => UInt8.ofNat n.toNat) ∘ fun b : UInt8 => (b.toNat : Int)) = id := by
    funext b
    simp
  rw [this, List.map_id]
/-- What address gives. -/
def Addressed (t : Int) (s : ByteArray) (w : World) (e : Ending) (w' : World) : Prop :=
  ∃ b cap, e = .returned (.agg #[.int .i32 t, .slice (some ⟨b, 0, none⟩) (bytesOf s).length cap]) ∧ Bytes w' b cap s ∧ w.heap.size ≤ b ∧ Below w.heap.size w w'
set_option maxHeartbeats 800000 in
theorem address_any (t : Int) (s : ByteArray) (w : World) (hs : s.size ≤ 140737488355328) :
    Calls Try.prog 47 #[.agg #[.int .i32 t, .string s]] w (Addressed t s w) := by
  have hcv : ∀ W : World, (convert 9 25 (.string s)).run Try.prog W = .ok (.slice (some ⟨W.heap.size, 0, none⟩) (bytesOf s).length (grownCap W s.size 0 5)) (Lib.bytesWorld W 5 s) := by
    intro W; rw [bytesOf_length]; exact Lib.run_convert_string_bytes W 9 25 5 s Try.underlying9 Try.underlying25 Try.underlying5
  have hbc : ∀ (W : World) (b o : Nat), b < W.heap.size → (Lib.bytesWorld W 5 s).cell? ⟨b, o, none⟩ = W.cell? ⟨b, o, none⟩ := fun W b o hb => Lib.bytesWorld_old W 5 s _ hb
  have hbf : ∀ (W : World) (b o : Nat), b < W.heap.size → (Lib.bytesWorld W 5 s).frozen? ⟨b, o, none⟩ = W.frozen? ⟨b, o, none⟩ := fun W b o hb => (bytes_below (Below.refl W.heap.size W) (Nat.le_refl _) 5 s).frozen hb
  have HS := Aside0.mk hs
  clear hs
  have hu34 := Try.underlying34
  have hu74 := Try.underlying74
  go_enter Try.func47, Try.ntmps47
  go_wp2
  refine bodyPost_ret (v := .agg #[.int .i32 t, .slice (some ⟨w.heap.size + 1 + 1, 0, none⟩) (bytesOf s).length (grownCap ((w.alloc (Obj.cells #[.int .i32 t, .string s] 34)).alloc (Obj.cells #[.int .i32 0, .slice none 0 0] 74)) s.size 0 5)]) (by simp [results, Try.results47, go_sem, hbc, World.cell?_setCell_other]) rfl ?_
  obtain ⟨W1, hW1⟩ : ∃ W1, W1 = (w.alloc (Obj.cells #[.int .i32 t, .string s] 34)).alloc (Obj.cells #[.int .i32 0, .slice none 0 0] 74) := ⟨_, rfl⟩
  have hz1 : W1.heap.size = w.heap.size + 1 + 1 := by rw [hW1]; simp
  have hB1 : Below w.heap.size w W1 := by rw [hW1]; exact below_alloc (below_alloc (Below.refl _ _) _) _
  rw [← hW1]
  have hb0 : Bytes (Lib.bytesWorld W1 5 s) (w.heap.size + 1 + 1) (grownCap W1 s.size 0 5) s := by
    refine ⟨⟨grownCap_ge _ _ _ _, HS.out⟩, _, _, by rw [← hz1]; exact Lib.bytesWorld_at_new W1 5 s, fun j hj => ?_⟩
    have h1 := Lib.bytesWorld_cell W1 5 s j hj
    rw [cell_of_row _ _ _ _ _ _ (Lib.bytesWorld_at_new W1 5 s)] at h1
    rw [h1]
    simp [bytesOf, List.getD_eq_getElem?_getD, List.getElem?_eq_getElem (show j < s.data.toList.length from by simpa using hj)]
  refine ⟨_, _, rfl, (hb0.move ?_), by omega, ?_⟩
  · rw [Below.heap_setCell _ _ _ _ (by simp), Below.heap_setCell _ _ _ _ (by simp)]
  · exact below_set (below_set (bytes_below hB1 (by omega) 5 s) (by omega)) (by omega)
/-- Equal of an address in memory and one that is handed over. -/
def haEq (t1 : Int) (s1 : ByteArray) (t2 : Int) (s2 : ByteArray) : Bool := decide (t1 = t2) && (s1.toList == s2.toList)
set_option maxHeartbeats 1600000 in
theorem haEqual_any (g : Nat) (t1 t2 : Int) (b1 c1 b2 c2 : Nat) (s1 s2 : ByteArray) (w : World) (k0 : w.cell? ⟨g, 0, none⟩ = some (.int .i32 t1)) (k1 : w.cell? ⟨g, 1, none⟩ = some (.slice (some ⟨b1, 0, none⟩) (bytesOf s1).length c1))
    (h1 : Bytes w b1 c1 s1) (h2 : Bytes w b2 c2 s2) :
    Calls Try.prog 48 #[.pointer (some ⟨g, 0, none⟩), .agg #[.int .i32 t2, .slice (some ⟨b2, 0, none⟩) (bytesOf s2).length c2]] w fun e w' => e = .returned (.bool (haEq t1 s1 t2 s2)) ∧ Below w.heap.size w w' := by
  have hg : g < w.heap.size := World.block_lt_of_cell? w _ k0
  have hu74 := Try.underlying74
  have H1 := Aside0.mk h1
  have H2 := Aside0.mk h2
  clear h1 h2
  by_cases ht : t1 = t2
  · have ht1 : (t1 != t2) = false := by simp [ht]
    have ht2 : (t1 == t2) = true := by simp [ht]
    have HT := Aside0.mk ht
    clear ht
    go_enter Try.func48, Try.ntmps48
    go_wp2
    go_quiet (fail)
    go_wp2
    have hB0 : Below w.heap.size w ((w.alloc (.cells #[.int .i32 t2, .slice (some ⟨b2, 0, none⟩) (bytesOf s2).length c2] 74)).drewN nq) := pw_below_drewN (below_alloc (Below.refl _ _) _) _
    obtain ⟨w2, hw2, q1, q2, B1, B2, hB⟩ : ∃ w2, w2 = ((w.alloc (.cells #[.int .i32 t2, .slice (some ⟨b2, 0, none⟩) (bytesOf s2).length c2] 74)).drewN nq) ∧
        w2.cell? ⟨g, 1, none⟩ = some (.slice (some ⟨b1, 0, none⟩) (bytesOf s1).length c1) ∧ w2.cell? ⟨w.heap.size, 1, none⟩ = some (.slice (some ⟨b2, 0, none⟩) (bytesOf s2).length c2) ∧
        Aside0 (Bytes w2 b1 c1 s1) ∧ Aside0 (Bytes w2 b2 c2 s2) ∧ Aside0 (Below w.heap.size w w2) :=
      ⟨_, rfl, (hB0.cell hg).trans k1, by simp [go_sem], ⟨H1.out.below hB0⟩, ⟨H2.out.below hB0⟩, ⟨hB0⟩⟩
    rw [← hw2]
    clear hw2 hB0 k0 k1
    go_quiet ((go_at_call 64; exact Calls.quiet_of ((bytes_Equal.calls _ _ (bytesOf s1) _ _ (bytesOf s2) _ _ (Kd.C_drewN B1.out.C _) H1.out.cap (Kd.C_drewN B2.out.C _) H2.out.cap rfl).mono fun e w' ⟨he, hd⟩ => ⟨he, hd.out⟩)))
    go_wp2
    go_ret
    refine ⟨by have := HT.out; simp [haEq, this, strOf_bytesOf], pw_below_drewN hB.out _⟩
  · have ht1 : (t1 != t2) = true := by simp [ht]
    have ht2 : (t1 == t2) = false := by simp [ht]
    have HT := Aside0.mk ht
    clear ht
    go_enter Try.func48, Try.ntmps48
    go_wp2
    go_quiet (fail)
    go_wp2
    go_ret
    refine ⟨by have := HT.out; simp [haEq, this], pw_below_drewN (below_alloc (Below.refl _ _) _) _⟩
theorem bcell {W w1 : World} (hb : Below W.heap.size W w1) : (∀ b o, b < W.heap.size → w1.cell? ⟨b, o, none⟩ = W.cell? ⟨b, o, none⟩) ∧ (∀ b o, b < W.heap.size → w1.frozen? ⟨b, o, none⟩ = W.frozen? ⟨b, o, none⟩) :=
  ⟨fun b o h => hb.cell (p := ⟨b, o, none⟩) h, fun b o h => hb.frozen (p := ⟨b, o, none⟩) h⟩

theorem infoHA : (Try.prog.info? 74).map (fun i => (i.zero, i.size, i.bytes)) = some (some (.agg #[.int .i32 0, .slice none 0 0]), 2, 32) := by kernel_rfl
/-! Lists of addresses in the package's own form: the heads of each, one behind the other, and where the bytes of each lie. -/
abbrev Hd := Int × (Nat × Nat × Nat)
def sliceOf (p : Nat × Nat × Nat) : Value := .slice (some ⟨p.1, 0, none⟩) p.2.1 p.2.2
def kH : Kd Hd := Kd.pair (Kd.int .i32) (Kd.scalar sliceOf (fun _ => rfl))
theorem kH_mkM (w : World) (base : Nat) (ok : Nat → Prop) (x : Hd) : kH.M w base ok x [.int .i32 x.1, sliceOf x.2] := ⟨[.int .i32 x.1], [sliceOf x.2], rfl, rfl, rfl⟩
theorem kH_open {w : World} {x : Hd} {cs : List Value} (h : kH.K w x cs) : cs = [.int .i32 x.1, sliceOf x.2] := by
  obtain ⟨c1, c2, rfl, h1, h2⟩ := h
  rw [show c1 = _ from h1, show c2 = _ from h2]
  rfl
def zHd : Hd := (0, 0, 0, 0)
theorem at_Hd {w : World} {A : Option Addr} {n : Nat} {xs : List Hd} (h : Kd.C kH w A n xs) (i : Nat) (h1 : i < n) : ∃ ad, A = some ad ∧ w.cell? (ad.add (i * 2)) = some (.int .i32 (xs.getD i zHd).1) ∧ w.cell? ⟨(ad.add (i * 2)).block, (ad.add (i * 2)).off + 1, none⟩ = some (sliceOf (xs.getD i zHd).2) := by
  obtain ⟨ad, c, e, _, hK, hc0⟩ := Kd.C_get h zHd (i : Int) (by omega) (by omega)
  have hc : ∀ j u, c[j]? = some u → w.cell? (ad.add (i * 2 + j)) = some u := hc0
  have hK' : kH.K w (xs.getD i zHd) c := hK
  obtain rfl := kH_open hK'
  exact ⟨ad, e, hc 0 _ rfl, by rw [← add_field _ _ 1 (by omega)]; exact hc 1 _ rfl⟩
/-- v holds the addresses l. -/
def Adrs (w : World) (base : Nat) (v : Value) (l : List S34) : Prop := ∃ hs : List Hd, Kd.R kH 74 w base (fun _ => True) v hs ∧ hs.length = l.length ∧
  ∀ (j : Nat) a h, l[j]? = some a → hs[j]? = some h → h.1 = a.f0 ∧ h.2.2.1 = (bytesOf a.f1).length ∧ Bytes w h.2.1 h.2.2.2 a.f1
theorem Adrs.nil (w : World) (base : Nat) : Adrs w base (.slice none 0 0) [] := ⟨[], Kd.R_nil _ _ _ _ _, rfl, fun j a h h1 _ => by simp at h1⟩
theorem Adrs.below {w w' : World} {base : Nat} {v : Value} {l : List S34} (h : Adrs w base v l) (hb : Below w.heap.size w w') : Adrs w' base v l := by
  obtain ⟨hs, h1, h2, h3⟩ := h
  refine ⟨hs, Kd.R_below h1 hb, h2, fun j a x hj hx => ?_⟩
  obtain ⟨e1, e2, e3⟩ := h3 j a x hj hx
  exact ⟨e1, e2, e3.below hb⟩
set_option maxHeartbeats 3200000 in
theorem addresses_any (A0 : Option Addr) (c0 : Nat) (l : List S34) (w : World) (hr0 : Kd.C k34 w A0 l.length l) (hc0 : l.length ≤ c0) (hl : l.length ≤ 1000000) (hs : ∀ a ∈ l, a.f1.size ≤ 140737488355328) :
    Calls Try.prog 45 #[.slice A0 l.length c0] w fun e w' => ∃ v, e = .returned v ∧ Adrs w' w.heap.size v l ∧ Below w.heap.size w w' := by
  have hu34 := Try.underlying34
  have hu74 := Try.underlying74
  have HR0 := Aside0.mk hr0
  have HL := Aside0.mk hl
  have HS := Aside0.mk hs
  clear hr0 hl hs
  have HB0 := Aside0.mk (Below.refl w.heap.size w)
  have HA0 := Aside0.mk (Adrs.nil w w.heap.size)
  go_enter Try.func45, Try.ntmps45
  go_wp2
  go_loopw [3, 8] (fun v i wr => ∃ k : Nat, k ≤ l.length ∧ i = .int .i64 k ∧ Aside0 (Adrs wr w.heap.size v (l.take k)) ∧ Aside0 (Below w.heap.size w wr)) (fun _ i _ => l.length - (intOf i).toNat)
  case atStart => exact ⟨0, Nat.zero_le _, rfl, HA0, HB0⟩
  case round =>
    clear HA0 HB0
    obtain ⟨k, hk, rfl, HA, HB⟩ := hrel
    by_cases hlt : k < l.length
    · obtain ⟨ad, e, hx0, hx1⟩ := at_T34 HR0.out (k : Int) (by omega) (by omega)
      cases e
      rw [show ((k : Int)).toNat = k from by omega] at hx0 hx1
      replace hx0 := (HB.out.cell (World.block_lt_of_cell? w _ hx0)).trans hx0
      replace hx1 := (HB.out.cell (World.block_lt_of_cell? w _ hx1)).trans hx1
      obtain ⟨a, ha⟩ : ∃ a, a = rd_T34 l (k : Int) := ⟨_, rfl⟩
      rw [← ha] at hx0 hx1
      have hal : l[k]? = some a := by
        rw [ha, rd_T34, List.getD_eq_getElem?_getD, List.getElem?_eq_getElem (show ((k : Int)).toNat < l.length from by omega)]
        simp [hlt]
      have HAL := Aside0.mk hal
      have HSZ := Aside0.mk (HS.out a (List.mem_of_getElem? hal))
      clear ha hal
      have hl1 : decide ((k : Int) < l.length) = true := decide_eq_true (by omega)
      obtain ⟨hs, ho, hlen, hrow⟩ := HA.out
      clear HA
      have HO := Aside0.mk ho
      have HLEN := Aside0.mk hlen
      have HROW := Aside0.mk hrow
      clear ho hlen hrow
      go_wp2_with (first
        | (go_at_call 47; refine (address_any a.f0 a.f1 _ HSZ.out).mono ?_; rintro e w2 ⟨b, cap, rfl, hb, hlb, hB2⟩; have HB2 := Aside0.mk (below_step (below_alloc HB.out _) hB2); have HO2 := Aside0.mk (Kd.R_below (Kd.R_alloc HO.out _) hB2); have HBY := Aside0.mk hb; have HB3 := Aside0.mk hB2; clear hb hB2)
        | ((with_reducible refine gate_builtin (b := .append) (xs := #[.tmp 12, .tmp 15]) rfl ?_); at_builtin; refine Kd.R_append kH (w0 := w) w.heap.size rfl (.tmp 12) (.tmp 15) 69 74 (.agg #[.int .i32 0, .slice none 0 0]) 32 rfl Try.underlying69 infoHA rfl (by decide) (by omega) u3 hs (a.f0, (b, (bytesOf a.f1).length, cap)) [.int .i32 a.f0, sliceOf (b, (bytesOf a.f1).length, cap)] (fun _ => True) (fun _ => False) rfl rfl (kH_mkM _ _ _ _) (fun _ hk => hk.elim) (fun _ _ => trivial) HO2.out HB2.out HB2.out.size (by have := HLEN.out; have := HL.out; simp only [List.length_take] at *; omega) ?_; intro v1 w3 ho3 hb3 hg3 hat3; have HO3 := Aside0.mk ho3; have HB4 := Aside0.mk hb3; have HG3 := Aside0.mk hg3; clear ho3 hb3 hg3 hat3))
      have hmove : ∀ (b' c' : Nat) (t : ByteArray), Bytes w2 b' c' t → Bytes w3 b' c' t := by
        intro b' c' t hb'
        refine hb'.move (HG3.out.block b' hb'.lt ?_)
        intro e
        obtain ⟨cells, hc⟩ := Kd.R_typed HO2.out b' e.symm
        obtain ⟨_, cells2, fr, hc2, _⟩ := hb'
        rw [hc2] at hc
        cases hc
      have hk' : hs.length = k := by rw [HLEN.out, List.length_take]; omega
      go_roundw
      case measure =>
        have hw : wrap64 ((k : Int) + 1) = ((k + 1 : Nat) : Int) := by unfold wrap64; have := HL.out; omega
        rw [hw]; show l.length - (((k + 1 : Nat) : Int)).toNat < l.length - ((k : Int)).toNat; omega
      case rel =>
        have hw : wrap64 ((k : Int) + 1) = ((k + 1 : Nat) : Int) := by unfold wrap64; have := HL.out; omega
        refine ⟨k + 1, by omega, by rw [hw], ⟨hs ++ [(a.f0, (b, (bytesOf a.f1).length, cap))], HO3.out, ?_, ?_⟩, HB4⟩
        · rw [List.length_append, hk', List.length_take]; simp; omega
        · intro j a' h' hj hh
          by_cases hjk : j < k
          · rw [List.getElem?_append_left (by omega)] at hh
            rw [List.getElem?_take_of_lt (by omega)] at hj
            obtain ⟨e1, e2, e3⟩ := HROW.out j a' h' (by rw [List.getElem?_take_of_lt hjk]; exact hj) hh
            exact ⟨e1, e2, hmove _ _ _ ((e3.below (below_alloc (Below.refl _ _) _)).below HB3.out)⟩
          · have hj2 : j < k + 1 := by
              have := (List.getElem?_eq_some_iff.1 hj).1
              rw [List.length_take] at this
              omega
            obtain rfl : j = k := by omega
            rw [List.getElem?_take_of_lt (by omega), HAL.out] at hj
            rw [List.getElem?_append_right (by omega), hk', Nat.sub_self] at hh
            cases hj
            cases hh
            exact ⟨rfl, rfl, hmove _ _ _ HBY.out⟩
    · obtain rfl : k = l.length := by omega
      go_wp2
      go_ret
      exact ⟨_, rfl, by have := HA.out; rwa [List.take_length] at this, HB.out⟩
theorem Adrs.form {w : World} {base : Nat} {v : Value} {l : List S34} (h : Adrs w base v l) : ∃ A c, v = .slice A l.length c ∧ l.length ≤ c := by
  obtain ⟨hs, h1, h2, _⟩ := h
  obtain ⟨A, c, rfl, hc, _⟩ := Kd.R_reads h1
  exact ⟨A, c, by rw [h2], by omega⟩
theorem Adrs.at {w : World} {base n c : Nat} {A : Option Addr} {l : List S34} (h : Adrs w base (.slice A n c) l) (j : Nat) (hj : j < l.length) (a : S34) (ha : l[j]? = some a) :
    ∃ ad b cap, A = some ad ∧ w.cell? (ad.add (j * 2)) = some (.int .i32 a.f0) ∧ w.cell? ⟨(ad.add (j * 2)).block, (ad.add (j * 2)).off + 1, none⟩ = some (.slice (some ⟨b, 0, none⟩) (bytesOf a.f1).length cap) ∧ Bytes w b cap a.f1 := by
  obtain ⟨hs, h1, h2, h3⟩ := h
  obtain ⟨A', c', e, _, hC⟩ := Kd.R_reads h1
  cases e
  obtain ⟨ad, rfl, k0, k1⟩ := at_Hd hC j (by omega)
  have hx : hs[j]? = some (hs.getD j zHd) := by
    rw [List.getD_eq_getElem?_getD, List.getElem?_eq_getElem (show j < hs.length from by omega)]
    rfl
  obtain ⟨e1, e2, e3⟩ := h3 j a _ ha hx
  refine ⟨ad, _, _, rfl, by rw [k0, e1], ?_, e3⟩
  rw [k1, sliceOf, e2]
set_option maxHeartbeats 3200000 in
theorem contains_any (g base b c : Nat) (v : Value) (l : List S34) (t : Int) (s : ByteArray) (w : World) (hg : w.cell? ⟨g, 0, none⟩ = some v) (hA : Adrs w base v l) (hl : l.length ≤ 1000000) (hb : Bytes w b c s) :
    Calls Try.prog 46 #[.pointer (some ⟨g, 0, none⟩), .agg #[.int .i32 t, .slice (some ⟨b, 0, none⟩) (bytesOf s).length c]] w fun e w' => e = .returned (.bool (l.any fun a => haEq a.f0 a.f1 t s)) ∧ Below w.heap.size w w' := by
  obtain ⟨A, cv, rfl, hcv⟩ := hA.form
  have hu74 := Try.underlying74
  have hgl : g < w.heap.size := World.block_lt_of_cell? w _ hg
  have HA := Aside0.mk hA
  have HB := Aside0.mk hb
  have HL := Aside0.mk hl
  clear hA hb hl
  go_enter Try.func46, Try.ntmps46
  go_wp2
  obtain ⟨w1, hw1, hB, q0, q1⟩ : ∃ w1, w1 = w.alloc (.cells #[.int .i32 t, .slice (some ⟨b, 0, none⟩) (bytesOf s).length c] 74) ∧ Below w.heap.size w w1 ∧ w1.cell? ⟨w.heap.size, 0, none⟩ = some (.int .i32 t) ∧ w1.cell? ⟨w.heap.size, 1, none⟩ = some (.slice (some ⟨b, 0, none⟩) (bytesOf s).length c) :=
    ⟨_, rfl, below_alloc (Below.refl _ _) _, by simp [go_sem], by simp [go_sem]⟩
  rw [← hw1]
  have hs1 : w.heap.size < w1.heap.size := by rw [hw1]; simp
  have HA1 := Aside0.mk (HA.out.below hB)
  have HB1 := Aside0.mk (HB.out.below hB)
  have HW := Aside0.mk hB
  have HT := Aside0.mk (Below.refl w1.heap.size w1)
  have HN := Aside0.mk (show (l.take 0).any (fun a => haEq a.f0 a.f1 t s) = false from rfl)
  clear hw1 HA HB hg hB
  obtain ⟨g3, hg3⟩ : ∃ g3, g3 = w.heap.size := ⟨_, rfl⟩
  rw [← hg3] at q0 q1 hs1 ⊢
  clear hg3
  go_loopw [11] (fun i wr => ∃ k : Nat, k ≤ l.length ∧ i = .int .i64 k ∧ Aside0 ((l.take k).any (fun a => haEq a.f0 a.f1 t s) = false) ∧ Aside0 (Below w1.heap.size w1 wr)) (fun i _ => l.length - (intOf i).toNat)
  case atStart => exact ⟨0, Nat.zero_le _, rfl, HN, HT⟩
  case round =>
    clear HN HT
    obtain ⟨k, hk, rfl, HN, HT⟩ := hrel
    by_cases hlt : k < l.length
    · obtain ⟨a, hal⟩ : ∃ a, l[k]? = some a := ⟨_, List.getElem?_eq_getElem hlt⟩
      obtain ⟨ad, b1, c1, e, x0, x1, hb1⟩ := (HA1.out.below HT.out).at k hlt a hal
      cases e
      have r0 := (HT.out.cell (p := ⟨g3, 0, none⟩) hs1).trans q0
      have r1 := (HT.out.cell (p := ⟨g3, 1, none⟩) hs1).trans q1
      have HB2 := Aside0.mk (HB1.out.below HT.out)
      have HX2 := Aside0.mk hb1
      have hg3r : g3 < wr.heap.size := Nat.lt_of_lt_of_le hs1 HT.out.size
      have hadr : (ad.add (k * 2)).block < wr.heap.size := World.block_lt_of_cell? wr _ x0
      have HAL := Aside0.mk hal
      have hl1 : decide ((k : Int) < l.length) = true := decide_eq_true (by omega)
      clear hal hb1 q0 q1
      have ra0 := fun o : Obj => ((below_alloc (Below.refl wr.heap.size wr) o).cell (p := ⟨g3, 0, none⟩) hg3r).trans r0
      have ra1 := fun o : Obj => ((below_alloc (Below.refl wr.heap.size wr) o).cell (p := ⟨g3, 1, none⟩) hg3r).trans r1
      clear r0 r1
      go_wp2_with (go_at_call 48; refine (haEqual_any _ a.f0 t b1 c1 b c a.f1 s _ (by simp [go_sem]) (by simp [go_sem]) (HX2.out.below (below_alloc (Below.refl _ _) _)) (HB2.out.below (below_alloc (Below.refl _ _) _))).mono ?_; rintro e w2 ⟨rfl, hB2⟩; have HT2 := Aside0.mk (below_step (below_alloc HT.out _) hB2); clear hB2)
      · go_ret
        refine ⟨?_, below_step HW.out HT2.out⟩
        rename_i hq
        have : (l.any fun a => haEq a.f0 a.f1 t s) = true := List.any_eq_true.2 ⟨a, List.mem_of_getElem? HAL.out, hq⟩
        exact congrArg (fun z => Ending.returned (Value.bool z)) this.symm
      · go_roundw
        case measure =>
          have hw : wrap64 ((k : Int) + 1) = ((k + 1 : Nat) : Int) := by unfold wrap64; have := HL.out; omega
          rw [hw]; show l.length - (((k + 1 : Nat) : Int)).toNat < l.length - ((k : Int)).toNat; omega
        case rel =>
          have hw : wrap64 ((k : Int) + 1) = ((k + 1 : Nat) : Int) := by unfold wrap64; have := HL.out; omega
          refine ⟨k + 1, by omega, by rw [hw], ⟨?_⟩, HT2⟩
          rw [List.take_add_one, HAL.out]
          simp [List.any_append, HN.out]
          assumption
    · obtain rfl : k = l.length := by omega
      go_wp2
      go_ret
      have hn := HN.out
      rw [List.take_length] at hn
      exact ⟨congrArg (fun z => Ending.returned (Value.bool z)) hn.symm, below_step HW.out HT.out⟩
/-- Whether each of l1 is among l0. -/
def among (l0 : List S34) (e : S34) : Bool := l0.any fun x => haEq e.f0 e.f1 x.f0 x.f1
def hostEq (l0 l1 : List S34) : Bool := decide (l0.length = l1.length) && l1.all (among l0)
set_option maxHeartbeats 6400000 in
theorem hostEq_any (base0 base1 : Nat) (v0 v1 : Value) (l0 l1 : List S34) (w : World) (h0 : Adrs w base0 v0 l0) (h1 : Adrs w base1 v1 l1) (hl0 : l0.length ≤ 1000000) (hl1 : l1.length ≤ 1000000) :
    Calls Try.prog 49 #[v0, v1] w fun e w' => e = .returned (.bool (hostEq l0 l1)) ∧ Below w.heap.size w w' := by
  obtain ⟨A0, c0, rfl, hc0⟩ := h0.form
  obtain ⟨A1, c1, rfl, hc1⟩ := h1.form
  have hu74 := Try.underlying74
  have H0 := Aside0.mk h0
  have H1 := Aside0.mk h1
  have HL0 := Aside0.mk hl0
  have HL1 := Aside0.mk hl1
  clear h0 h1 hl0 hl1
  by_cases hlen : l0.length = l1.length
  case neg =>
    have hd : ((l0.length : Int) != (l1.length : Int)) = true := by simp; omega
    have hf : hostEq l0 l1 = false := by simp [hostEq, hlen]
    rw [hf]
    clear hf hlen
    go_enter Try.func49, Try.ntmps49
    go_wp2
    go_ret
    exact ⟨rfl, Below.refl _ _⟩
  have hd : ((l0.length : Int) != (l1.length : Int)) = false := by simp; omega
  have hf : hostEq l0 l1 = l1.all (among l0) := by simp [hostEq, hlen]
  rw [hf]
  clear hf
  have HLEN := Aside0.mk hlen
  clear hlen
  have HT := Aside0.mk (Below.refl w.heap.size w)
  have HN := Aside0.mk (show (l1.take 0).all (among l0) = true from rfl)
  go_enter Try.func49, Try.ntmps49
  go_wp2
  go_loopw [17] (fun i wr => ∃ k : Nat, k ≤ l1.length ∧ i = .int .i64 k ∧ Aside0 ((l1.take k).all (among l0) = true) ∧ Aside0 (Below w.heap.size w wr)) (fun i _ => l1.length - (intOf i).toNat)
  case atStart => exact ⟨0, Nat.zero_le _, rfl, HN, HT⟩
  case round =>
    clear HN HT
    obtain ⟨k, hk, rfl, HN, HT⟩ := hrel
    by_cases hlt : k < l1.length
    · obtain ⟨a, hal⟩ : ∃ a, l1[k]? = some a := ⟨_, List.getElem?_eq_getElem hlt⟩
      obtain ⟨ad, b1, cb1, e, x0, x1, hb1⟩ := (H1.out.below HT.out).at k hlt a hal
      cases e
      have HX := Aside0.mk hb1
      have HAL := Aside0.mk hal
      have hl1 : decide ((k : Int) < l1.length) = true := decide_eq_true (by omega)
      clear hal hb1
      go_wp2
      clear x0 x1 hl1
      obtain ⟨w1, hw1, hB, q0, q1⟩ : ∃ w1, w1 = wr.alloc (.cells #[.int .i32 a.f0, .slice (some ⟨b1, 0, none⟩) (bytesOf a.f1).length cb1] 74) ∧ Below wr.heap.size wr w1 ∧ w1.cell? ⟨wr.heap.size, 0, none⟩ = some (.int .i32 a.f0) ∧ w1.cell? ⟨wr.heap.size, 1, none⟩ = some (.slice (some ⟨b1, 0, none⟩) (bytesOf a.f1).length cb1) :=
        ⟨_, rfl, below_alloc (Below.refl _ _) _, by simp [go_sem], by simp [go_sem]⟩
      rw [← hw1]
      have hs1 : wr.heap.size < w1.heap.size := by rw [hw1]; simp
      have HW := Aside0.mk (below_step HT.out hB)
      have HX1 := Aside0.mk (HX.out.below hB)
      have HT1 := Aside0.mk (Below.refl w1.heap.size w1)
      have HN1 := Aside0.mk (show (l0.take 0).any (fun x => haEq a.f0 a.f1 x.f0 x.f1) = false from rfl)
      clear hw1 hB HX HT
      obtain ⟨g6, hg6⟩ : ∃ g6, g6 = wr.heap.size := ⟨_, rfl⟩
      rw [← hg6] at q0 q1 hs1 ⊢
      clear hg6
      have Q0 := Aside0.mk q0
      have Q1 := Aside0.mk q1
      clear q0 q1
      go_loopw [7, 23] (fun f i wq => ∃ j : Nat, j ≤ l0.length ∧ f = .bool false ∧ i = .int .i64 j ∧ Aside0 ((l0.take j).any (fun x => haEq a.f0 a.f1 x.f0 x.f1) = false) ∧ Aside0 (Below w1.heap.size w1 wq)) (fun _ i _ => l0.length - (intOf i).toNat)
      case atStart => exact ⟨0, Nat.zero_le _, rfl, rfl, HN1, HT1⟩
      case round =>
        clear HN1 HT1
        obtain ⟨j, hj, rfl, rfl, HN1, HT1⟩ := hrel
        by_cases hjl : j < l0.length
        · obtain ⟨x, hxl⟩ : ∃ x, l0[j]? = some x := ⟨_, List.getElem?_eq_getElem hjl⟩
          obtain ⟨ad2, b2, cb2, e, y0, y1, hb2⟩ := (H0.out.below (below_step HW.out HT1.out)).at j hjl x hxl
          cases e
          have HY := Aside0.mk hb2
          have HXL := Aside0.mk hxl
          have HX2 := Aside0.mk (HX1.out.below HT1.out)
          have r0 := (HT1.out.cell (p := ⟨g6, 0, none⟩) hs1).trans Q0.out
          have r1 := (HT1.out.cell (p := ⟨g6, 1, none⟩) hs1).trans Q1.out
          have hg6r : g6 < wr.heap.size := Nat.lt_of_lt_of_le hs1 HT1.out.size
          have ra0 := fun o : Obj => ((below_alloc (Below.refl wr.heap.size wr) o).cell (p := ⟨g6, 0, none⟩) hg6r).trans r0
          have ra1 := fun o : Obj => ((below_alloc (Below.refl wr.heap.size wr) o).cell (p := ⟨g6, 1, none⟩) hg6r).trans r1
          have hl2 : decide ((j : Int) < l0.length) = true := decide_eq_true (by omega)
          clear hxl hb2 r0 r1
          go_wp2_with (go_at_call 48; refine (haEqual_any g6 a.f0 x.f0 b1 cb1 b2 cb2 a.f1 x.f1 _ (ra0 _) (ra1 _) (HX2.out.below (below_alloc (Below.refl _ _) _)) (HY.out.below (below_alloc (Below.refl _ _) _))).mono ?_; rintro e w2 ⟨rfl, hB2⟩; have HT2 := Aside0.mk (below_step (below_alloc HT1.out _) hB2); clear hB2)
          · go_roundw
            case measure =>
              have hw : wrap64 ((k : Int) + 1) = ((k + 1 : Nat) : Int) := by unfold wrap64; have := HL1.out; omega
              rw [hw]; show l1.length - (((k + 1 : Nat) : Int)).toNat < l1.length - ((k : Int)).toNat; omega
            case rel =>
              have hw : wrap64 ((k : Int) + 1) = ((k + 1 : Nat) : Int) := by unfold wrap64; have := HL1.out; omega
              refine ⟨k + 1, by omega, by rw [hw], ⟨?_⟩, ⟨below_step HW.out HT2.out⟩⟩
              have hq : haEq a.f0 a.f1 x.f0 x.f1 = true := by assumption
              have hm : among l0 a = true := List.any_eq_true.2 ⟨x, List.mem_of_getElem? HXL.out, hq⟩
              rw [List.take_add_one, HAL.out]
              simp [List.all_append, HN.out, hm]
          · go_roundw
            case measure =>
              have hw : wrap64 ((j : Int) + 1) = ((j + 1 : Nat) : Int) := by unfold wrap64; have := HL0.out; omega
              rw [hw]; show l0.length - (((j + 1 : Nat) : Int)).toNat < l0.length - ((j : Int)).toNat; omega
            case rel =>
              have hw : wrap64 ((j : Int) + 1) = ((j + 1 : Nat) : Int) := by unfold wrap64; have := HL0.out; omega
              refine ⟨j + 1, by omega, rfl, by rw [hw], ⟨?_⟩, HT2⟩
              rw [List.take_add_one, HXL.out]
              simp only [List.any_append, HN1.out]
              simp
              assumption
        · obtain rfl : j = l0.length := by omega
          go_wp2
          go_ret
          have hn := HN1.out
          rw [List.take_length] at hn
          have hf : l1.all (among l0) = false := by
            rw [List.all_eq_false]
            exact ⟨a, List.mem_of_getElem? HAL.out, by unfold among; rw [hn]; decide⟩
          exact ⟨congrArg (fun z => Ending.returned (Value.bool z)) hf.symm, below_step HW.out HT1.out⟩
    · obtain rfl : k = l1.length := by omega
      go_wp2
      go_ret
      have hn := HN.out
      rw [List.take_length] at hn
      exact ⟨congrArg (fun z => Ending.returned (Value.bool z)) hn.symm, HT.out⟩
def okA (l : List S34) : Bool := decide (l.length ≤ 1000000) && l.all fun a => decide (a.f1.size ≤ 140737488355328)
theorem okA_len {l : List S34} (h : okA l = true) : l.length ≤ 1000000 := of_decide_eq_true (Bool.and_eq_true_iff.1 h).1
theorem okA_size {l : List S34} (h : okA l = true) : ∀ a ∈ l, a.f1.size ≤ 140737488355328 := fun a ha => of_decide_eq_true (List.all_eq_true.1 (Bool.and_eq_true_iff.1 h).2 a ha)
attribute [local go_sem ↓] Go.wp_at_zero Go.wp_at_succ
/-- What address gave. -/
def Got (T : Value) (t : Int) (s : ByteArray) (n0 : Nat) (w : World) : Prop :=
  ∃ b c, T = .agg #[.int .i32 t, .slice (some ⟨b, 0, none⟩) (bytesOf s).length c] ∧ Bytes w b c s ∧ n0 ≤ b
/-- A new struct of two fields. -/
def Slot (T : Value) (n0 : Nat) (w : World) (p : Value → Value → Prop) : Prop :=
  ∃ g x y, T = .pointer (some ⟨g, 0, none⟩) ∧ n0 ≤ g ∧ w.heap[g]? = some (.cells #[x, y] 74 (0, 0)) ∧ p x y
theorem Got.below {T : Value} {t : Int} {s : ByteArray} {n0 : Nat} {w w' : World} (h : Got T t s n0 w) (hb : Below w.heap.size w w') : Got T t s n0 w' := by
  obtain ⟨b, c, e, hB, hn⟩ := h
  exact ⟨b, c, e, hB.below hb, hn⟩
theorem Slot.below {T : Value} {n0 : Nat} {w w' : World} {p : Value → Value → Prop} (h : Slot T n0 w p) (hb : Below w.heap.size w w') : Slot T n0 w' p := by
  obtain ⟨g, x, y, e, hn, hg, hp⟩ := h
  exact ⟨g, x, y, e, hn, blk_below hg hb, hp⟩
theorem Slot.imp {T : Value} {n0 : Nat} {w : World} {p q : Value → Value → Prop} (h : Slot T n0 w p) (hpq : ∀ x y, p x y → q x y) : Slot T n0 w q := by
  obtain ⟨g, x, y, e, hn, hg, hp⟩ := h
  exact ⟨g, x, y, e, hn, hg, hpq _ _ hp⟩
theorem Bytes.ne74 {w : World} {b c g : Nat} {s : ByteArray} {cs : Array Value} (h : Bytes w b c s) (hg : w.heap[g]? = some (.cells cs 74 (0, 0))) : b ≠ g := by
  obtain ⟨_, cells, fr, hh, _⟩ := h
  rintro rfl
  rw [hh] at hg
  cases hg
structure FI (W0 : World) (t0 : Int) (s0 : ByteArray) (t1 : Int) (s1 : ByteArray) (l : Nat → Prop) (T5 T6 T7 T8 T9 T10 : Value) (w : World) : Prop where
  below : Below W0.heap.size W0 w
  h0 : l 0 → T7 = .agg #[.int .i32 t0, .string s0]
  h2 : l 2 → T9 = .agg #[.int .i32 t1, .string s1]
  h1 : l 1 → Got T8 t0 s0 W0.heap.size w
  h3 : l 3 → Got T10 t1 s1 W0.heap.size w
  h4 : l 4 → Slot T5 W0.heap.size w (fun x y => l 6 → Value.agg #[x, y] = T8)
  h5 : l 5 → Slot T6 W0.heap.size w (fun x y => l 7 → Value.agg #[x, y] = T10)
  h45 : l 4 → l 5 → T5 ≠ T6
/-- The frame of the region. -/
def FA (v0 v1 v2 v3 T5 T6 T7 T8 T9 T10 : Value) : Act := { tmps := #[v0, v1, v2, v3, .bool false, T5, T6, T7, T8, T9, T10, undef, undef], defers := [] }
section
variable {W0 : World} {t0 : Int} {s0 : ByteArray} {t1 : Int} {s1 : ByteArray} {l l' : Nat → Prop} {T5 T6 T7 T8 T9 T10 T : Value} {w w' : World}
theorem FI.step0 (h : FI W0 t0 s0 t1 s1 l T5 T6 T7 T8 T9 T10 w) (hl : ∀ j, l' j → j = 0 ∨ l j) (hT : T = .agg #[.int .i32 t0, .string s0]) : FI W0 t0 s0 t1 s1 l' T5 T6 T T8 T9 T10 w where
  below := h.below
  h0 := fun _ => hT
  h2 := fun q => h.h2 ((hl _ q).resolve_left (by decide))
  h1 := fun q => h.h1 ((hl _ q).resolve_left (by decide))
  h3 := fun q => h.h3 ((hl _ q).resolve_left (by decide))
  h4 := fun q => (h.h4 ((hl _ q).resolve_left (by decide))).imp fun _ _ hp q => hp ((hl _ q).resolve_left (by decide))
  h5 := fun q => (h.h5 ((hl _ q).resolve_left (by decide))).imp fun _ _ hp q => hp ((hl _ q).resolve_left (by decide))
  h45 := fun q q' => h.h45 ((hl _ q).resolve_left (by decide)) ((hl _ q').resolve_left (by decide))
theorem FI.step2 (h : FI W0 t0 s0 t1 s1 l T5 T6 T7 T8 T9 T10 w) (hl : ∀ j, l' j → j = 2 ∨ l j) (hT : T = .agg #[.int .i32 t1, .string s1]) : FI W0 t0 s0 t1 s1 l' T5 T6 T7 T8 T T10 w where
  below := h.below
  h0 := fun q => h.h0 ((hl _ q).resolve_left (by decide))
  h2 := fun _ => hT
  h1 := fun q => h.h1 ((hl _ q).resolve_left (by decide))
  h3 := fun q => h.h3 ((hl _ q).resolve_left (by decide))
  h4 := fun q => (h.h4 ((hl _ q).resolve_left (by decide))).imp fun _ _ hp q => hp ((hl _ q).resolve_left (by decide))
  h5 := fun q => (h.h5 ((hl _ q).resolve_left (by decide))).imp fun _ _ hp q => hp ((hl _ q).resolve_left (by decide))
  h45 := fun q q' => h.h45 ((hl _ q).resolve_left (by decide)) ((hl _ q').resolve_left (by decide))
theorem FI.step1 (h : FI W0 t0 s0 t1 s1 l T5 T6 T7 T8 T9 T10 w) (hl : ∀ j, l' j → j = 1 ∨ l j) (h6 : ¬ l 6) (hb : Below w.heap.size w w') (hT : Got T t0 s0 w.heap.size w') : FI W0 t0 s0 t1 s1 l' T5 T6 T7 T T9 T10 w' where
  below := below_step h.below hb
  h0 := fun q => h.h0 ((hl _ q).resolve_left (by decide))
  h2 := fun q => h.h2 ((hl _ q).resolve_left (by decide))
  h1 := fun _ => by obtain ⟨b, c, e, hB, hn⟩ := hT; exact ⟨b, c, e, hB, Nat.le_trans h.below.size hn⟩
  h3 := fun q => (h.h3 ((hl _ q).resolve_left (by decide))).below hb
  h4 := fun q => ((h.h4 ((hl _ q).resolve_left (by decide))).below hb).imp fun _ _ hp q => absurd ((hl _ q).resolve_left (by decide)) h6
  h5 := fun q => ((h.h5 ((hl _ q).resolve_left (by decide))).below hb).imp fun _ _ hp q => hp ((hl _ q).resolve_left (by decide))
  h45 := fun q q' => h.h45 ((hl _ q).resolve_left (by decide)) ((hl _ q').resolve_left (by decide))
theorem FI.step3 (h : FI W0 t0 s0 t1 s1 l T5 T6 T7 T8 T9 T10 w) (hl : ∀ j, l' j → j = 3 ∨ l j) (h7 : ¬ l 7) (hb : Below w.heap.size w w') (hT : Got T t1 s1 w.heap.size w') : FI W0 t0 s0 t1 s1 l' T5 T6 T7 T8 T9 T w' where
  below := below_step h.below hb
  h0 := fun q => h.h0 ((hl _ q).resolve_left (by decide))
  h2 := fun q => h.h2 ((hl _ q).resolve_left (by decide))
  h1 := fun q => (h.h1 ((hl _ q).resolve_left (by decide))).below hb
  h3 := fun _ => by obtain ⟨b, c, e, hB, hn⟩ := hT; exact ⟨b, c, e, hB, Nat.le_trans h.below.size hn⟩
  h4 := fun q => ((h.h4 ((hl _ q).resolve_left (by decide))).below hb).imp fun _ _ hp q => hp ((hl _ q).resolve_left (by decide))
  h5 := fun q => ((h.h5 ((hl _ q).resolve_left (by decide))).below hb).imp fun _ _ hp q => absurd ((hl _ q).resolve_left (by decide)) h7
  h45 := fun q q' => h.h45 ((hl _ q).resolve_left (by decide)) ((hl _ q').resolve_left (by decide))
theorem Slot.old {n0 : Nat} {p : Value → Value → Prop} (h : Slot T n0 w p) : T ≠ .pointer (some ⟨w.heap.size, 0, none⟩) := by
  obtain ⟨g, x, y, rfl, hn, hg, hp⟩ := h
  intro e
  injection e with e
  injection e with e
  injection e with e
  have := blk_lt hg
  omega
theorem FI.step4 (h : FI W0 t0 s0 t1 s1 l T5 T6 T7 T8 T9 T10 w) (hl : ∀ j, l' j → j = 4 ∨ l j) (h6 : ¬ l 6) (x y : Value) : FI W0 t0 s0 t1 s1 l' (.pointer (some ⟨w.heap.size, 0, none⟩)) T6 T7 T8 T9 T10 (w.alloc (.cells #[x, y] 74 (0, 0))) where
  below := below_alloc h.below _
  h0 := fun q => h.h0 ((hl _ q).resolve_left (by decide))
  h2 := fun q => h.h2 ((hl _ q).resolve_left (by decide))
  h1 := fun q => (h.h1 ((hl _ q).resolve_left (by decide))).below (below_alloc (Below.refl _ _) _)
  h3 := fun q => (h.h3 ((hl _ q).resolve_left (by decide))).below (below_alloc (Below.refl _ _) _)
  h4 := fun q => ⟨w.heap.size, x, y, rfl, h.below.size, blk_new _ _, fun q => absurd ((hl _ q).resolve_left (by decide)) h6⟩
  h5 := fun q => ((h.h5 ((hl _ q).resolve_left (by decide))).below (below_alloc (Below.refl _ _) _)).imp fun _ _ hp q => hp ((hl _ q).resolve_left (by decide))
  h45 := fun _ q' => ((h.h5 ((hl _ q').resolve_left (by decide))).old).symm
theorem FI.step5 (h : FI W0 t0 s0 t1 s1 l T5 T6 T7 T8 T9 T10 w) (hl : ∀ j, l' j → j = 5 ∨ l j) (h7 : ¬ l 7) (x y : Value) : FI W0 t0 s0 t1 s1 l' T5 (.pointer (some ⟨w.heap.size, 0, none⟩)) T7 T8 T9 T10 (w.alloc (.cells #[x, y] 74 (0, 0))) where
  below := below_alloc h.below _
  h0 := fun q => h.h0 ((hl _ q).resolve_left (by decide))
  h2 := fun q => h.h2 ((hl _ q).resolve_left (by decide))
  h1 := fun q => (h.h1 ((hl _ q).resolve_left (by decide))).below (below_alloc (Below.refl _ _) _)
  h3 := fun q => (h.h3 ((hl _ q).resolve_left (by decide))).below (below_alloc (Below.refl _ _) _)
  h4 := fun q => ((h.h4 ((hl _ q).resolve_left (by decide))).below (below_alloc (Below.refl _ _) _)).imp fun _ _ hp q => hp ((hl _ q).resolve_left (by decide))
  h5 := fun q => ⟨w.heap.size, x, y, rfl, h.below.size, blk_new _ _, fun q => absurd ((hl _ q).resolve_left (by decide)) h7⟩
  h45 := fun q _ => (h.h4 ((hl _ q).resolve_left (by decide))).old
/-- Both fields of a struct are stored. -/
theorem put2 {g : Nat} {x y u v : Value} (hg : w.heap[g]? = some (.cells #[x, y] 74 (0, 0))) : ((w.setCell ⟨g, 0, none⟩ u).setCell ⟨g, 1, none⟩ v).heap[g]? = some (.cells #[u, v] 74 (0, 0)) :=
  blk_set (blk_set hg 0 u) 1 v
theorem far2 {g b : Nat} {u v : Value} {o : Option Obj} (hg : w.heap[b]? = o) (hne : b ≠ g) : ((w.setCell ⟨g, 0, none⟩ u).setCell ⟨g, 1, none⟩ v).heap[b]? = o := by
  rw [Below.heap_setCell _ _ _ _ hne, Below.heap_setCell _ _ _ _ hne, hg]
theorem below2 {g : Nat} {u v : Value} {n : Nat} {w0 : World} (hb : Below n w0 w) (hg : n ≤ g) : Below n w0 ((w.setCell ⟨g, 0, none⟩ u).setCell ⟨g, 1, none⟩ v) := (hb.setCell hg u).setCell hg v
theorem Got.far2 {g : Nat} {u v x y : Value} {t : Int} {s : ByteArray} {n0 : Nat} (h : Got T t s n0 w) (hg : w.heap[g]? = some (.cells #[x, y] 74 (0, 0))) : Got T t s n0 ((w.setCell ⟨g, 0, none⟩ u).setCell ⟨g, 1, none⟩ v) := by
  obtain ⟨b, c, e, hB, hn⟩ := h
  exact ⟨b, c, e, hB.move (Go.Proofs.Ythgcpicflmigjaa.A.far2 rfl (hB.ne74 hg)), hn⟩
end

theorem FI.step6 {W0 : World} {t0 : Int} {s0 : ByteArray} {t1 : Int} {s1 : ByteArray} {l l' : Nat → Prop} {T6 T7 T8 T9 T10 u v x y : Value} {w : World} {g : Nat} (h : FI W0 t0 s0 t1 s1 l (.pointer (some ⟨g, 0, none⟩)) T6 T7 T8 T9 T10 w) (hl : ∀ j, l' j → j = 6 ∨ l j) (l4 : l 4)
    (hn : W0.heap.size ≤ g) (hg : w.heap[g]? = some (.cells #[x, y] 74 (0, 0))) (h8 : T8 = .agg #[u, v]) : FI W0 t0 s0 t1 s1 l' (.pointer (some ⟨g, 0, none⟩)) T6 T7 T8 T9 T10 ((w.setCell ⟨g, 0, none⟩ u).setCell ⟨g, 1, none⟩ v) where
  below := below2 h.below hn
  h0 := fun q => h.h0 ((hl _ q).resolve_left (by decide))
  h2 := fun q => h.h2 ((hl _ q).resolve_left (by decide))
  h1 := fun q => (h.h1 ((hl _ q).resolve_left (by decide))).far2 hg
  h3 := fun q => (h.h3 ((hl _ q).resolve_left (by decide))).far2 hg
  h4 := fun q => ⟨g, u, v, rfl, hn, put2 hg, fun _ => h8.symm⟩
  h5 := fun q => by
    have q5 := (hl _ q).resolve_left (by decide)
    obtain ⟨g6, x6, y6, e6, hn6, hg6, hp6⟩ := h.h5 q5
    have hne : g6 ≠ g := fun e => h.h45 l4 q5 (by rw [e6, e])
    exact ⟨g6, x6, y6, e6, hn6, far2 hg6 hne, fun q => hp6 ((hl _ q).resolve_left (by decide))⟩
  h45 := fun _ q' => h.h45 l4 ((hl _ q').resolve_left (by decide))
theorem FI.step7 {W0 : World} {t0 : Int} {s0 : ByteArray} {t1 : Int} {s1 : ByteArray} {l l' : Nat → Prop} {T5 T7 T8 T9 T10 u v x y : Value} {w : World} {g : Nat} (h : FI W0 t0 s0 t1 s1 l T5 (.pointer (some ⟨g, 0, none⟩)) T7 T8 T9 T10 w) (hl : ∀ j, l' j → j = 7 ∨ l j) (l5 : l 5)
    (hn : W0.heap.size ≤ g) (hg : w.heap[g]? = some (.cells #[x, y] 74 (0, 0))) (h10 : T10 = .agg #[u, v]) : FI W0 t0 s0 t1 s1 l' T5 (.pointer (some ⟨g, 0, none⟩)) T7 T8 T9 T10 ((w.setCell ⟨g, 0, none⟩ u).setCell ⟨g, 1, none⟩ v) where
  below := below2 h.below hn
  h0 := fun q => h.h0 ((hl _ q).resolve_left (by decide))
  h2 := fun q => h.h2 ((hl _ q).resolve_left (by decide))
  h1 := fun q => (h.h1 ((hl _ q).resolve_left (by decide))).far2 hg
  h3 := fun q => (h.h3 ((hl _ q).resolve_left (by decide))).far2 hg
  h5 := fun q => ⟨g, u, v, rfl, hn, put2 hg, fun _ => h10.symm⟩
  h4 := fun q => by
    have q4 := (hl _ q).resolve_left (by decide)
    obtain ⟨g5, x5, y5, e5, hn5, hg5, hp5⟩ := h.h4 q4
    have hne : g5 ≠ g := fun e => h.h45 q4 l5 (by rw [e5, e])
    exact ⟨g5, x5, y5, e5, hn5, far2 hg5 hne, fun q => hp5 ((hl _ q).resolve_left (by decide))⟩
  h45 := fun q _ => h.h45 ((hl _ q).resolve_left (by decide)) l5
/-- The invariant of the region. -/
def RI (W0 : World) (t0 : Int) (s0 : ByteArray) (t1 : Int) (s1 : ByteArray) (g2 g3 : Nat) (lst : Array Bool) (a : Act) (W : World) : Prop :=
  ∃ T5 T6 T7 T8 T9 T10, a = FA (.agg #[.int .i32 t0, .string s0]) (.agg #[.int .i32 t1, .string s1]) (.pointer (some ⟨g2, 0, none⟩)) (.pointer (some ⟨g3, 0, none⟩)) T5 T6 T7 T8 T9 T10 ∧ FI W0 t0 s0 t1 s1 (fun j => lst[j]? = some true) T5 T6 T7 T8 T9 T10 W
def impl_AddressEqual.f (a0_0 : Int) (a0_1 : ByteArray) (a1_0 : Int) (a1_1 : ByteArray) : Option Bool := if a0_1.size ≤ 140737488355328 ∧ a1_1.size ≤ 140737488355328 then some (haEq a0_0 a0_1 a1_0 a1_1) else none
set_option maxHeartbeats 40000000 in
theorem impl_AddressEqual.calls (a0_0 : Int) (a0_1 : ByteArray) (a1_0 : Int) (a1_1 : ByteArray) (r : Bool) (w : World) (h : impl_AddressEqual.f a0_0 a0_1 a1_0 a1_1 = some r) :
    Calls Try.prog 20 #[.agg #[.int .i32 a0_0, .string a0_1], .agg #[.int .i32 a1_0, .string a1_1]] w fun e w' => e = .returned (.bool r) ∧ Below w.heap.size w w' := by
  unfold impl_AddressEqual.f at h
  by_cases hs : a0_1.size ≤ 140737488355328 ∧ a1_1.size ≤ 140737488355328
  case neg => rw [if_neg hs] at h; cases h
  rw [if_pos hs] at h
  obtain rfl := Option.some.inj h
  clear h
  have HS := Aside0.mk hs
  clear hs
  have hu34 := Try.underlying34
  have hu74 := Try.underlying74
  have HF := Aside0.mk (Below.refl w.heap.size w)
  go_enter Try.func20, Try.ntmps20
  go_wp2
  rename_i K hK
  have tail : ∀ (g5 g6 b1 c1 b2 c2 : Nat) (W : World) (t7 t8 t9 t10 : Value), W.cell? ⟨g5, 0, none⟩ = some (.int .i32 a0_0) → W.cell? ⟨g5, 1, none⟩ = some (.slice (some ⟨b1, 0, none⟩) (bytesOf a0_1).length c1) →
      W.cell? ⟨g6, 0, none⟩ = some (.int .i32 a1_0) → W.cell? ⟨g6, 1, none⟩ = some (.slice (some ⟨b2, 0, none⟩) (bytesOf a1_1).length c2) → Bytes W b1 c1 a0_1 → Bytes W b2 c2 a1_1 → Below w.heap.size w W →
      K { tmps := #[.agg #[.int .i32 a0_0, .string a0_1], .agg #[.int .i32 a1_0, .string a1_1], .pointer (some ⟨w.heap.size, 0, none⟩), .pointer (some ⟨w.heap.size + 1, 0, none⟩), .bool false, .pointer (some ⟨g5, 0, none⟩), .pointer (some ⟨g6, 0, none⟩), t7, t8, t9, t10, undef, undef], defers := [] } W := by
    intro g5 g6 b1 c1 b2 c2 W t7 t8 t9 t10 k0 k1 k2 k3 hb1 hb2 hB
    have HB := Aside0.mk hB
    have H1 := Aside0.mk hb1
    have H2 := Aside0.mk hb2
    clear hB hb1 hb2
    apply hK
    go_wp2_with (go_at_call 48; refine (haEqual_any g5 a0_0 a1_0 b1 c1 b2 c2 a0_1 a1_1 _ k0 k1 H1.out H2.out).mono ?_; rintro e w2 ⟨rfl, hB2⟩; have HB2 := Aside0.mk hB2; clear hB2)
    go_ret
    exact ⟨rfl, below_step HB.out HB2.out⟩
  clear hK
  obtain ⟨W0, hW0, hsz, hB0, p0, p1, p2, p3⟩ : ∃ W0, W0 = ((w.alloc (Obj.cells #[Value.int IntKind.i32 a0_0, Value.string a0_1] 34)).alloc (Obj.cells #[Value.int IntKind.i32 a1_0, Value.string a1_1] 34)) ∧ W0.heap.size = w.heap.size + 1 + 1 ∧ Below w.heap.size w W0 ∧
      W0.cell? ⟨w.heap.size, 0, none⟩ = some (.int .i32 a0_0) ∧ W0.cell? ⟨w.heap.size, 1, none⟩ = some (.string a0_1) ∧ W0.cell? ⟨w.heap.size + 1, 0, none⟩ = some (.int .i32 a1_0) ∧ W0.cell? ⟨w.heap.size + 1, 1, none⟩ = some (.string a1_1) :=
    ⟨_, rfl, by simp, below_alloc (below_alloc (Below.refl _ _) _) _, by simp [go_sem], by simp [go_sem], by simp [go_sem], by simp [go_sem]⟩
  rw [← hW0]
  clear hW0
  obtain ⟨g2, hg2⟩ : ∃ g2, g2 = w.heap.size := ⟨_, rfl⟩
  obtain ⟨g3, hg3⟩ : ∃ g3, g3 = w.heap.size + 1 := ⟨_, rfl⟩
  have l2 : g2 < W0.heap.size := by omega
  have l3 : g3 < W0.heap.size := by omega
  rw [← hg3] at p2 p3 tail ⊢
  rw [← hg2] at p0 p1
  simp only [← hg2] at tail ⊢
  refine RegInv.wp_region_inv (Inv := RI W0 a0_0 a0_1 a1_0 a1_1 g2 g3) (by kernel_rfl) (by kernel_rfl) ?init ?step ?fin
  case init =>
    refine ⟨_, _, _, _, _, _, rfl, ⟨below_drew (Below.refl _ _), ?_, ?_, ?_, ?_, ?_, ?_, ?_⟩⟩ <;> (intro h; exact absurd h (by decide))
  case fin =>
    rintro lst a W ⟨T5, T6, T7, T8, T9, T10, rfl, hF⟩ hall
    change K _ _
    obtain ⟨b1, c1, e8, hb1, hn1⟩ := hF.h1 (hall 1 (by decide))
    obtain ⟨b2, c2, e10, hb2, hn2⟩ := hF.h3 (hall 3 (by decide))
    obtain ⟨g5, x5, y5, rfl, hn5, hg5, hp5⟩ := hF.h4 (hall 4 (by decide))
    obtain ⟨g6, x6, y6, rfl, hn6, hg6, hp6⟩ := hF.h5 (hall 5 (by decide))
    have e5 := (hp5 (hall 6 (by decide))).trans e8
    have e6 := (hp6 (hall 7 (by decide))).trans e10
    simp only [Value.agg.injEq, Array.mk.injEq, List.cons.injEq, and_true] at e5 e6
    obtain ⟨rfl, rfl⟩ := e5
    obtain ⟨rfl, rfl⟩ := e6
    exact tail g5 g6 b1 c1 b2 c2 W T7 T8 T9 T10 ((blk_cell hg5 0).trans rfl) ((blk_cell hg5 1).trans rfl) ((blk_cell hg6 0).trans rfl) ((blk_cell hg6 1).trans rfl) hb1 hb2 (hg2 ▸ (below_then hB0 (by omega) hF.below))
  case step =>
    clear tail hB0 hsz hg2 hg3
    rintro lst a W ⟨T5, T6, T7, T8, T9, T10, rfl, hF⟩ hcl i hi hf hd
    have hi8 : i < 8 := hi
    have q0 : W.cell? ⟨g2, 0, none⟩ = some (.int .i32 a0_0) := (hF.below.cell l2).trans p0
    have q1 : W.cell? ⟨g2, 1, none⟩ = some (.string a0_1) := (hF.below.cell l2).trans p1
    have q2 : W.cell? ⟨g3, 0, none⟩ = some (.int .i32 a1_0) := (hF.below.cell l3).trans p2
    have q3 : W.cell? ⟨g3, 1, none⟩ = some (.string a1_1) := (hF.below.cell l3).trans p3
    clear p0 p1 p2 p3 l2 l3 hi HF
    have HFI := Aside0.mk hF
    clear hF
    obtain rfl | rfl | rfl | rfl | rfl | rfl | rfl | rfl : i = 0 ∨ i = 1 ∨ i = 2 ∨ i = 3 ∨ i = 4 ∨ i = 5 ∨ i = 6 ∨ i = 7 := by omega
    · refine RegInv.wpOp_some rfl rfl ?_
      unfold Oper.wp execOp FA
      clear hcl hd hf hi8
      go_simp
      exact ⟨T5, T6, _, T8, T9, T10, rfl, HFI.out.step0 (fun j h => RegInv.listed_set h) rfl⟩
    · have h0 := HFI.out.h0 (RegInv.dep (j := 0) hd (by decide +kernel))
      have n6 : ¬ lst[6]? = some true := RegInv.late hcl (by decide +kernel) hf
      clear hcl hd hf hi8 q0 q1 q2 q3
      have N6 := Aside0.mk n6
      clear n6
      refine RegInv.wpOp_some rfl rfl ?_
      subst h0
      unfold Oper.wp execOp FA
      go_simp
      refine (address_any a0_0 a0_1 _ HS.out.1).mono ?_
      rintro e w1 ⟨b1, c1, rfl, hb1, hl1, hB1⟩
      exact ⟨T5, T6, _, _, T9, T10, rfl, HFI.out.step1 (fun j h => RegInv.listed_set h) N6.out hB1 ⟨b1, c1, rfl, hb1, hl1⟩⟩
    · refine RegInv.wpOp_some rfl rfl ?_
      unfold Oper.wp execOp FA
      clear hcl hd hf hi8
      go_simp
      exact ⟨T5, T6, T7, T8, _, T10, rfl, HFI.out.step2 (fun j h => RegInv.listed_set h) rfl⟩
    · have h2 := HFI.out.h2 (RegInv.dep (j := 2) hd (by decide +kernel))
      have n7 : ¬ lst[7]? = some true := RegInv.late hcl (by decide +kernel) hf
      clear hcl hd hf hi8 q0 q1 q2 q3
      have N7 := Aside0.mk n7
      clear n7
      refine RegInv.wpOp_some rfl rfl ?_
      subst h2
      unfold Oper.wp execOp FA
      go_simp
      refine (address_any a1_0 a1_1 _ HS.out.2).mono ?_
      rintro e w1 ⟨b1, c1, rfl, hb1, hl1, hB1⟩
      exact ⟨T5, T6, T7, _, _, _, rfl, HFI.out.step3 (fun j h => RegInv.listed_set h) N7.out hB1 ⟨b1, c1, rfl, hb1, hl1⟩⟩
    · have n6 : ¬ lst[6]? = some true := RegInv.late hcl (by decide +kernel) hf
      clear hcl hd hf hi8 q0 q1 q2 q3
      have N6 := Aside0.mk n6
      clear n6
      refine RegInv.wpOp_some rfl rfl ?_
      unfold Oper.wp execOp FA
      go_simp
      exact ⟨_, T6, T7, T8, T9, T10, rfl, HFI.out.step4 (fun j h => RegInv.listed_set h) N6.out _ _⟩
    · have n7 : ¬ lst[7]? = some true := RegInv.late hcl (by decide +kernel) hf
      clear hcl hd hf hi8 q0 q1 q2 q3
      have N7 := Aside0.mk n7
      clear n7
      refine RegInv.wpOp_some rfl rfl ?_
      unfold Oper.wp execOp FA
      go_simp
      exact ⟨T5, _, T7, T8, T9, T10, rfl, HFI.out.step5 (fun j h => RegInv.listed_set h) N7.out _ _⟩
    · have d4 := RegInv.dep (j := 4) hd (by decide +kernel)
      obtain ⟨b1, c1, h8, _, _⟩ := HFI.out.h1 (RegInv.dep (j := 1) hd (by decide +kernel))
      obtain ⟨g5, x5, y5, e5, hn5, hg5, _⟩ := HFI.out.h4 d4
      clear hcl hd hf hi8 q0 q1 q2 q3
      subst e5 h8
      have D4 := Aside0.mk d4
      have N5 := Aside0.mk hn5
      have G5 := Aside0.mk hg5
      have k0 : W.cell? ⟨g5, 0, none⟩ = some x5 := (blk_cell hg5 0).trans rfl
      have k1 : W.cell? ⟨g5, 1, none⟩ = some y5 := (blk_cell hg5 1).trans rfl
      have f0 := blk_frozen hg5 0
      have f1 := blk_frozen hg5 1
      clear d4 hn5 hg5
      refine RegInv.wpOp_some rfl rfl ?_
      unfold Oper.wp execOp FA
      go_simp
      exact ⟨_, T6, T7, _, T9, T10, rfl, HFI.out.step6 (fun j h => RegInv.listed_set h) D4.out N5.out G5.out rfl⟩
    · have d5 := RegInv.dep (j := 5) hd (by decide +kernel)
      obtain ⟨b2, c2, h10, _, _⟩ := HFI.out.h3 (RegInv.dep (j := 3) hd (by decide +kernel))
      obtain ⟨g6, x6, y6, e6, hn6, hg6, _⟩ := HFI.out.h5 d5
      clear hcl hd hf hi8 q0 q1 q2 q3
      subst e6 h10
      have D5 := Aside0.mk d5
      have N6 := Aside0.mk hn6
      have G6 := Aside0.mk hg6
      have k0 : W.cell? ⟨g6, 0, none⟩ = some x6 := (blk_cell hg6 0).trans rfl
      have k1 : W.cell? ⟨g6, 1, none⟩ = some y6 := (blk_cell hg6 1).trans rfl
      have f0 := blk_frozen hg6 0
      have f1 := blk_frozen hg6 1
      clear d5 hn6 hg6
      refine RegInv.wpOp_some rfl rfl ?_
      unfold Oper.wp execOp FA
      go_simp
      exact ⟨T5, _, T7, T8, T9, _, rfl, HFI.out.step7 (fun j h => RegInv.listed_set h) D5.out N6.out G6.out rfl⟩

end Go.Proofs.Ythgcpicflmigjaa.A

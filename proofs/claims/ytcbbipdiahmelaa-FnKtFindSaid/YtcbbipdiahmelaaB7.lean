/- KeytabRead: chunks are read as their entries; bytes that begin otherwise, or that end too soon, are refused; under what each theorem states. -/
import Derived.Test.YtcbbipdiahmelaaB6
namespace Go.Proofs.Ytcbbipdiahmelaa.B
open Go.RowKit Go.Proofs.YtcbbipdiahmelaaW.PrintWords Go.Proofs.YtcbbipdiahmelaaW.PrintLast
open Go.Proofs.Ytcbbipdiahmelaa.A (S25 S91 S106 S49 k91 k106 k49)
set_option linter.unusedVariables false
set_option linter.unusedSimpArgs false
set_option maxRecDepth 100000
set_option maxHeartbeats 4000000 in
theorem unmarshal_first (gt gb B : Nat) (x y : Int) (L : List Int) (w : World) (hx : x ≠ 5) (h0 : 0 ≤ x) (h1 : x < 256) (hl1 : (x :: y :: L).length ≤ 1099511627776)
    (hb : Box w gb 5 (nums .u8 (x :: y :: L)).toArray) (hB : B ≤ gt) (hBs : B ≤ w.heap.size) :
    Calls Try.prog 25 #[.pointer (some ⟨gt, 0, none⟩), .slice (some ⟨gb, 0, none⟩) (x :: y :: L).length (x :: y :: L).length] w fun e w' => ∃ p, e = .returned (.iface 109 (.pointer (some p))) ∧ Below B w w' := by
  have k0 : w.cell? ⟨gb, 0, none⟩ = some (.int .u8 x) := by rw [blk_cell hb]; rfl
  have hgb : gb < w.heap.size := hb.lt
  obtain ⟨n, hn⟩ : ∃ n, n = (x :: y :: L).length := ⟨_, rfl⟩
  have hn2 : 2 ≤ n := by rw [hn]; simp
  rw [← hn] at hl1 ⊢
  have i0 : (0 : Int) < (n : Int) := by omega
  have i2 : (2 : Int) ≤ (n : Int) := by omega
  have hne : (x != 5) = true := by simp; exact hx
  have HBS := Aside0.mk hBs
  clear hn hb hx
  go_enter Try.func25, Try.ntmps25
  go_wp2_with fail
  refine (error_any _ _).mono ?_
  rintro e w1 ⟨p, rfl, hb⟩
  have HB := Aside0.mk (low_below (Below.refl B w) HBS.out hb)
  clear hb
  go_wp2
  go_ret
  exact ⟨_, rfl, HB.out⟩
set_option maxHeartbeats 4000000 in
theorem unmarshal_short (gt gb B n : Nat) (L D : List Int) (w : World) (hl : okBytes D) (hD : D = 5 :: 2 :: (e32 n ++ L)) (hn0 : 0 < n) (hn1 : n ≤ 100000) (hL : L.length < n)
    (hb : Box w gb 5 (nums .u8 D).toArray) (ht : Box w gt 74 #[.int .u8 2, .slice none 0 0]) (hB : B ≤ gt) (hBs : B ≤ w.heap.size) :
    Calls Try.prog 25 #[.pointer (some ⟨gt, 0, none⟩), .slice (some ⟨gb, 0, none⟩) D.length D.length] w fun e w' => ∃ p, e = .returned (.iface 109 (.pointer (some p))) ∧ Below B w w' := by
  have hdl : D.length = 6 + L.length := by rw [hD]; simp [e32]; omega
  have k0 : w.cell? ⟨gb, 0, none⟩ = some (.int .u8 5) := by rw [blk_cell hb, hD]; rfl
  have k1 : w.cell? ⟨gb, 1, none⟩ = some (.int .u8 2) := by rw [blk_cell hb, hD]; rfl
  have d0 := ht.cell 0 (.int .u8 2) rfl
  have e0 := ht.free 0
  have hgt : gt < w.heap.size := ht.lt
  have hgb : gb < w.heap.size := hb.lt
  have hne : gb ≠ gt := hb.ne ht (by decide)
  have hu74 := Try.underlying74
  have hu79 := Try.underlying79
  have hl1 := hl.1
  have i0 : (0 : Int) < (D.length : Int) := by omega
  have i1 : (1 : Int) < (D.length : Int) := by omega
  have i2 : (2 : Int) ≤ (D.length : Int) := by omega
  have HL := Aside0.mk hl
  have HD2 := Aside0.mk (show D.drop (0 + 2) = e32 n ++ L from by rw [hD]; rfl)
  have HT := Aside0.mk ht
  have HB := Aside0.mk hb
  have HBB := Aside0.mk (And.intro hB hBs)
  have HDL := Aside0.mk hdl
  have HLL := Aside0.mk hL
  have HN1 := Aside0.mk hn1
  have HN0 := Aside0.mk hn0
  clear hD hl ht hb hB hBs hdl hL hn1 hn0
  go_enter Try.func25, Try.ntmps25
  go_wp2_with fail
  have A1 := Aside0.mk (show In B w (((w.setCell ⟨gt, 0, none⟩ (.int .u8 2)).alloc (.cells #[.iface 79 (.agg #[])] 77)).alloc (.cells #[.int .i64 2] 3)) gb (w.heap.size + 1) w.heap.size D 2 from by
    have hsz : (w.setCell ⟨gt, 0, none⟩ (.int .u8 2)).heap.size = w.heap.size := by simp
    have e1 := Box.new (w.setCell ⟨gt, 0, none⟩ (.int .u8 2)) #[.iface 79 (.agg #[])] 77
    have p1 := Box.next (w.setCell ⟨gt, 0, none⟩ (.int .u8 2)) (.cells #[.iface 79 (.agg #[])] 77) #[.int .i64 2] 3
    rw [hsz] at e1 p1
    have := HBB.out
    exact ⟨⟨((HB.out.far hne 0 (.int .u8 2)).alloc _).alloc _, e1.alloc _⟩, p1, low_alloc (low_alloc (low_set (Below.refl _ _) this.1 _ _) (by simp; omega) _) (by simp; omega) _, by simp; omega, by omega⟩)
  generalize ((w.setCell ⟨gt, 0, none⟩ (.int .u8 2)).alloc (.cells #[.iface 79 (.agg #[])] 77)).alloc (.cells #[.int .i64 2] 3) = w1 at *
  clear d0 e0 k0 k1 i0 i1 HT HB
  have h1 := readInt32_e gb (w.heap.size + 1) w.heap.size 0 D.length D.length 2 D _ _ w1 HL.out A1.out.src A1.out.pos (by omega) (by have := HDL.out; omega) (Nat.le_refl _) (by omega) (by have := HN1.out; omega) HD2.out
  rw [show wrap32 (n : Int) = n from by have := HN1.out; unfold wrap32; omega] at h1
  with_reducible refine h1.mono ?_
  clear h1
  rintro e w2 ⟨rfl, hg, hp1⟩
  have A2 := Aside0.mk (A1.out.call hg hp1)
  have c2 := A2.out.pos.cell
  have hn1 := HN1.out
  have hn0 := HN0.out
  have hb1 : ((n : Int) != 0) = true := by simp; omega
  have hb2 : ¬ ((n : Int) < 0) := by omega
  have hw2 : wrap64 (n : Int) = n := by unfold wrap64; omega
  have hw3 : wrap64 (6 + (n : Int)) = 6 + (n : Int) := by unfold wrap64; omega
  have hb4 : (D.length : Int) < 6 + (n : Int) := by have := HDL.out; have := HLL.out; omega
  clear hg hp1 A1
  go_upto_region 16 with fail
  go_loopw [7] (fun vl wr => vl = .int .i32 n ∧ wr = w2) (fun _ _ => 0)
  case atStart => exact ⟨rfl, rfl⟩
  obtain ⟨rfl, rfl⟩ := hrel
  go_wp2_with fail
  refine (error_any _ _).mono ?_
  rintro e w3 ⟨p, rfl, hb⟩
  have HB := Aside0.mk (A2.out.below hb).low
  clear hb
  go_wp2
  go_ret
  exact ⟨_, rfl, HB.out⟩
theorem Box.low {B g t : Nat} {w w' : World} {cs : Array Value} (h : Box w g t cs) (hb : Below B w w') (hg : g < B) : Box w' g t cs := (hb.block g hg).trans h
theorem low_weaken {B B' : Nat} {w w' : World} (h : Below B w w') (hb : B' ≤ B) (hs : B' ≤ w.heap.size) : Below B' w w' := ⟨h.os, h.tape, h.output, h.size, fun k hk => h.block k (Nat.lt_of_lt_of_le hk hb)⟩
theorem low_trans {B : Nat} {w0 w w' : World} (h : Below B w0 w) (k : Below B w w') : Below B w0 w' := ⟨k.os.trans h.os, k.tape.trans h.tape, k.output.trans h.output, Nat.le_trans h.size k.size, fun j hj => (k.block j hj).trans (h.block j hj)⟩
/-- KeytabRead's variables for its results. -/
theorem front (w : World) : ∃ w1, w1 = (w.alloc (.cells #[.slice none 0 0] 32)).alloc (.cells #[.bool false] 4) ∧ Box w1 w.heap.size 32 #[.slice none 0 0] ∧ Box w1 (w.heap.size + 1) 4 #[.bool false] ∧ Below w.heap.size w w1 :=
  ⟨_, rfl, (Box.new _ _ _).alloc _, Box.next _ _ _ _, below_alloc (below_alloc (Below.refl _ _) _) _⟩
set_option maxHeartbeats 4000000 in
theorem keytabRead_refuses (s : ByteArray) (w : World) (hs : s.size ≤ 1099511627776)
    (hU : ∀ (gb gt B : Nat) (w1 : World), Box w1 gb 5 (nums .u8 (bytesOf s)).toArray → Box w1 gt 74 #[.int .u8 2, .slice none 0 0] → B ≤ gt → B ≤ w1.heap.size →
      Calls Try.prog 25 #[.pointer (some ⟨gt, 0, none⟩), .slice (some ⟨gb, 0, none⟩) (bytesOf s).length (bytesOf s).length] w1 fun e w' => ∃ p, e = .returned (.iface 109 (.pointer (some p))) ∧ Below B w1 w') :
    Calls Try.prog 12 #[.string s] w fun e w' => e = .returned (.tuple #[.slice none 0 0, .bool false]) ∧ Below w.heap.size w w' := by
  have hmf : ∀ (fn : Fn) (first cap : Array Value) (w : World), (Instr.makeFunc fn first cap).run Try.prog w = .ok (.func fn first cap) w := fun _ _ _ _ => rfl
  have HS := Aside0.mk hs
  have HU := Aside0.mk hU
  clear hs hU
  go_enter_defers Try.func12, Try.ntmps12
  go_wp2_with fail
  obtain ⟨w1, hw1, b0, b1, hbl⟩ := front w
  rw [← hw1]
  have B0 := Aside0.mk b0
  have B1 := Aside0.mk b1
  have BL := Aside0.mk hbl
  clear hw1 b0 b1 hbl
  with_reducible refine (new_any _).mono ?_
  rintro e w2 ⟨gt, rfl, ht, hgt, hb⟩
  have B02 := Aside0.mk (B0.out.below hb)
  have B12 := Aside0.mk (B1.out.below hb)
  have T2 := Aside0.mk ht
  have BL2 := Aside0.mk (below_step BL.out hb)
  have GT := Aside0.mk (show w1.heap.size ≤ gt ∧ w1.heap.size ≤ w2.heap.size from ⟨by omega, hb.size⟩)
  clear ht hgt hb
  go_wp2_with fail
  with_reducible refine (exact_any s _ HS.out).mono ?_
  rintro e w3 ⟨gb, rfl, hx, hge, hb⟩
  have B03 := Aside0.mk (B02.out.below hb)
  have B13 := Aside0.mk (B12.out.below hb)
  have T3 := Aside0.mk (T2.out.below hb)
  have X3 := Aside0.mk hx
  have BL3 := Aside0.mk (below_step BL2.out hb)
  have GT3 := Aside0.mk (show w1.heap.size ≤ gt ∧ w1.heap.size ≤ w3.heap.size from ⟨GT.out.1, Nat.le_trans GT.out.2 hb.size⟩)
  have H1 := Aside0.mk (show w.heap.size < w1.heap.size ∧ w.heap.size + 1 < w1.heap.size from ⟨B0.out.lt, B1.out.lt⟩)
  clear hx hge hb B02 B12 T2 BL2 GT B0 B1
  go_wp2_with fail
  with_reducible refine (HU.out gb gt w1.heap.size w3 X3.out T3.out GT3.out.1 GT3.out.2).mono ?_
  rintro e w4 ⟨p, rfl, hb⟩
  have B04 := Aside0.mk (B03.out.low hb H1.out.1)
  have B14 := Aside0.mk (B13.out.low hb H1.out.2)
  have BL4 := Aside0.mk (low_trans BL3.out (low_weaken hb (Nat.le_of_lt H1.out.1) BL3.out.size))
  have c0 := B04.out.cell 0 (.slice none 0 0) rfl
  have c1 := B14.out.cell 0 (.bool false) rfl
  have f0 := B04.out.free 0
  have f1 := B14.out.free 0
  have hn01 := B04.out.ne B14.out (by decide)
  clear hb B03 B13 T3 X3 BL3 GT3
  go_wp2_with fail
  have k0 := ((B04.out.puts 0 (.slice none 0 0) rfl).far hn01 0 (.bool false)).cell 0 (.slice none 0 0) rfl
  have k1 := ((B14.out.far hn01.symm 0 (.slice none 0 0)).puts 0 (.bool false) rfl).cell 0 (.bool false) rfl
  have HBL := Aside0.mk (low_set (low_set BL4.out (Nat.le_refl _) 0 (.slice none 0 0)) (Nat.le_succ _) 0 (.bool false))
  refine leaves_cons (f := 23) (args := #[.pointer (some ⟨w.heap.size, 0, none⟩), .pointer (some ⟨w.heap.size + 1, 0, none⟩)]) (by simp) (by simp [go_sem]) ?_
  refine (idle23 _ _ _).mono ?_
  rintro e u' w'' ⟨rfl, rfl, rfl⟩
  clear c0 c1 f0 f1 B04 B14
  simp [Leaves, settle, results, Try.results12, go_sem] at *
  simp [k0, k1]
  exact HBL.out
set_option maxHeartbeats 4000000 in
theorem keytabRead_reads (s : ByteArray) (C : List Chunk) (w : World) (hs : s.size ≤ 1099511627776) (hD : bytesOf s = 5 :: 2 :: C.flatMap Chunk.bytes) (hC : C ≠ []) (hok : ∀ c ∈ C, c.Ok) (hcl : C.length ≤ 1000) :
    Calls Try.prog 12 #[.string s] w fun e w' => ∃ A n c, e = .returned (.tuple #[.slice A n c, .bool true]) ∧ k49.R 49 w' w.heap.size (fun _ => True) (.slice A n c) (((C.flatMap Chunk.out).map zz).map to49) ∧ Below w.heap.size w w' := by
  have hmf : ∀ (fn : Fn) (first cap : Array Value) (w : World), (Instr.makeFunc fn first cap).run Try.prog w = .ok (.func fn first cap) w := fun _ _ _ _ => rfl
  have HS := Aside0.mk hs
  have HU := Aside0.mk (show ∀ (gb gt B : Nat) (w1 : World), Box w1 gb 5 (nums .u8 (bytesOf s)).toArray → Box w1 gt 74 #[.int .u8 2, .slice none 0 0] → B ≤ gt → B ≤ w1.heap.size → Calls Try.prog 25 #[.pointer (some ⟨gt, 0, none⟩), .slice (some ⟨gb, 0, none⟩) (bytesOf s).length (bytesOf s).length] w1 fun e w' => ∃ A n c, e = .returned .nilIface ∧ Box w' gt 74 #[.int .u8 2, .slice A n c] ∧ k91.R 91 w' w1.heap.size (fun _ => True) (.slice A n c) (C.flatMap Chunk.out) ∧ Below B w1 w' from fun gb gt B w1 hb ht hB hBs => unmarshal_reads gt gb B C (bytesOf s) w1 (okBytes_of hs) hD hC hok hcl hb ht hB hBs)
  have HO1 := Aside0.mk (show (∀ x ∈ C.flatMap Chunk.out, x.f1.f1 = true) ∧ (C.flatMap Chunk.out).length ≤ 1000 ∧ ∀ x ∈ C.flatMap Chunk.out, x.f3.f1.length ≤ 1000 from by
    refine ⟨fun x hx => ?_, Nat.le_trans (out_len C) hcl, fun x hx => ?_⟩
    · obtain ⟨c, _, hx⟩ := List.mem_flatMap.1 hx
      cases c <;> simp [Chunk.out] at hx
      subst hx; rfl
    · obtain ⟨c, hc, hx⟩ := List.mem_flatMap.1 hx
      have := hok c hc
      cases c with
      | hole n => simp [Chunk.out] at hx
      | entry e wh =>
        simp [Chunk.out] at hx
        subst hx
        have h2 := this.1.key
        show (bytesOf e.f7).length ≤ 1000
        rw [bytesOf_length]; omega)
  obtain ⟨es, hes⟩ : ∃ es, es = C.flatMap Chunk.out := ⟨_, rfl⟩
  rw [← hes] at HU HO1 ⊢
  clear hs hD hC hok hcl hes
  go_enter_defers Try.func12, Try.ntmps12
  go_wp2_with fail
  obtain ⟨w1, hw1, b0, b1, hbl⟩ := front w
  rw [← hw1]
  have B0 := Aside0.mk b0
  have B1 := Aside0.mk b1
  have BL := Aside0.mk hbl
  clear hw1 b0 b1 hbl
  with_reducible refine (new_any _).mono ?_
  rintro e w2 ⟨gt, rfl, ht, hgt, hb⟩
  have B02 := Aside0.mk (B0.out.below hb)
  have B12 := Aside0.mk (B1.out.below hb)
  have T2 := Aside0.mk ht
  have BL2 := Aside0.mk (below_step BL.out hb)
  have GT := Aside0.mk (show w1.heap.size ≤ gt ∧ w1.heap.size ≤ w2.heap.size from ⟨by omega, hb.size⟩)
  clear ht hgt hb
  go_wp2_with fail
  with_reducible refine (exact_any s _ HS.out).mono ?_
  rintro e w3 ⟨gb, rfl, hx, hge, hb⟩
  have B03 := Aside0.mk (B02.out.below hb)
  have B13 := Aside0.mk (B12.out.below hb)
  have T3 := Aside0.mk (T2.out.below hb)
  have X3 := Aside0.mk hx
  have BL3 := Aside0.mk (below_step BL2.out hb)
  have GT3 := Aside0.mk (show w1.heap.size ≤ gt ∧ w1.heap.size ≤ w3.heap.size from ⟨GT.out.1, Nat.le_trans GT.out.2 hb.size⟩)
  have H1 := Aside0.mk (show w.heap.size < w1.heap.size ∧ w.heap.size + 1 < w1.heap.size from ⟨B0.out.lt, B1.out.lt⟩)
  clear hx hge hb B02 B12 T2 BL2 GT B0 B1
  go_wp2_with fail
  with_reducible refine (HU.out gb gt w1.heap.size w3 X3.out T3.out GT3.out.1 GT3.out.2).mono ?_
  rintro e w4 ⟨Ae, ne, ce, rfl, ht, hv, hb⟩
  have B04 := Aside0.mk (B03.out.low hb H1.out.1)
  have B14 := Aside0.mk (B13.out.low hb H1.out.2)
  have T4 := Aside0.mk ht
  have V4 := Aside0.mk hv
  have HS4 := Aside0.mk (show w3.heap.size ≤ w4.heap.size ∧ w1.heap.size ≤ w3.heap.size from ⟨hb.size, GT3.out.2⟩)
  have BL4 := Aside0.mk (low_trans BL3.out (low_weaken hb (Nat.le_of_lt H1.out.1) BL3.out.size))
  clear hb ht hv B03 B13 T3 X3 BL3 GT3
  go_wp2_with fail
  with_reducible refine (entriesOf_any gt w3.heap.size Ae ne ce es w4 T4.out V4.out HO1.out.1 HO1.out.2.1 HO1.out.2.2 HS4.out.1).mono ?_
  rintro e w5 ⟨A5, n5, c5, rfl, hv, hb⟩
  have B05 := Aside0.mk (B04.out.low hb (Nat.lt_of_lt_of_le H1.out.1 HS4.out.2))
  have B15 := Aside0.mk (B14.out.low hb (Nat.lt_of_lt_of_le H1.out.2 HS4.out.2))
  have V5 := Aside0.mk (Kd.R_lower hv (Nat.le_trans (Nat.le_of_lt H1.out.1) HS4.out.2))
  have BL5 := Aside0.mk (low_trans BL4.out (low_weaken hb (Nat.le_trans (Nat.le_of_lt H1.out.1) HS4.out.2) (Nat.le_trans (Nat.le_of_lt H1.out.1) (Nat.le_trans HS4.out.2 HS4.out.1))))
  have c0 := B05.out.cell 0 (.slice none 0 0) rfl
  have c1 := B15.out.cell 0 (.bool false) rfl
  have f0 := B05.out.free 0
  have f1 := B15.out.free 0
  have hn01 := B05.out.ne B15.out (by decide)
  clear hb hv B04 B14 T4 V4 BL4 HS4
  go_wp2_with fail
  have k0 := ((B05.out.puts 0 (.slice A5 n5 c5) rfl).far hn01 0 (.bool true)).cell 0 (.slice A5 n5 c5) rfl
  have k1 := ((B15.out.far hn01.symm 0 (.slice A5 n5 c5)).puts 0 (.bool true) rfl).cell 0 (.bool true) rfl
  have HBL := Aside0.mk (low_set (low_set BL5.out (Nat.le_refl _) 0 (.slice A5 n5 c5)) (Nat.le_succ _) 0 (.bool true))
  have HV := Aside0.mk (row_set (row_set V5.out B05.out (by decide) 0 (.slice A5 n5 c5)) (B15.out.far hn01.symm 0 (.slice A5 n5 c5)) (by decide) 0 (.bool true))
  refine leaves_cons (f := 23) (args := #[.pointer (some ⟨w.heap.size, 0, none⟩), .pointer (some ⟨w.heap.size + 1, 0, none⟩)]) (by simp) (by simp [go_sem]) ?_
  refine (idle23 _ _ _).mono ?_
  rintro e u' w'' ⟨rfl, rfl, rfl⟩
  clear c0 c1 f0 f1 B05 B15 V5
  generalize (es.map zz).map to49 = res at *
  generalize (w5.setCell ⟨w.heap.size, 0, none⟩ (.slice A5 n5 c5)).setCell ⟨w.heap.size + 1, 0, none⟩ (.bool true) = wz at *
  simp [Leaves, settle, results, Try.results12, go_sem] at *
  simp [k0, k1]
  exact ⟨A5, n5, c5, ⟨rfl, rfl, rfl⟩, HV.out, HBL.out⟩
end Go.Proofs.Ytcbbipdiahmelaa.B

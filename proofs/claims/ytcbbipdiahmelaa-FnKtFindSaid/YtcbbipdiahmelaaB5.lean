/- A keytab is read: chunks, each a hole or an entry; under what each theorem states. Written by a program of this session. -/
import Derived.Test.YtcbbipdiahmelaaB4
import Derived.Test.YtcbbipdiahmelaaA0
namespace Go.Proofs.Ytcbbipdiahmelaa.B
open Go.RowKit Go.Proofs.YtcbbipdiahmelaaW.PrintWords Go.Proofs.YtcbbipdiahmelaaW.PrintLast
open Go.Proofs.Ytcbbipdiahmelaa.A (S25 S91 k91 k91_mkM)
set_option linter.unusedVariables false
set_option linter.unusedSimpArgs false
set_option maxRecDepth 100000
/-! ### The bytes of an entry, of a hole -/
def entB (e : S25) (wh : Bool) : List Int := prinB e.f0 e.f1 e.f2 ++ (e32 e.f3 ++ (e.f4 :: (e16 (IntKind.u16.wrap e.f6) ++ (cnt16 e.f7 ++ (if wh = true then e32 e.f5 else [])))))
structure OkE (e : S25) : Prop where
  realm : e.f0.size ≤ 200
  names : e.f1.length ≤ 8
  each : ∀ s ∈ e.f1, s.size ≤ 200
  nt : -2147483648 ≤ e.f2 ∧ e.f2 < 2147483648
  time : 0 ≤ e.f3 ∧ e.f3 < 2147483648
  short : 0 ≤ e.f4 ∧ e.f4 < 256
  ver : 0 < e.f5 ∧ e.f5 < 4294967296
  kt : -32768 ≤ e.f6 ∧ e.f6 < 32768
  key : e.f7.size ≤ 200
inductive Chunk
  | hole (n : Nat)
  | entry (e : S25) (wh : Bool)
def Chunk.body : Chunk → List Int
  | .hole n => List.replicate n 0
  | .entry e wh => entB e wh
def Chunk.size : Chunk → Int
  | .hole n => -(n : Int)
  | .entry e wh => (entB e wh).length
def Chunk.bytes (c : Chunk) : List Int := e32 (IntKind.u32.wrap c.size) ++ c.body
/-- An entry as it is read. -/
def pe (e : S25) : S91 := ⟨⟨e.f1.length, e.f0, e.f1, e.f2⟩, ⟨e.f3, true⟩, e.f4, ⟨e.f6, bytesOf e.f7⟩, e.f5⟩
def Chunk.out : Chunk → List S91
  | .hole _ => []
  | .entry e _ => [pe e]
def Chunk.Ok : Chunk → Prop
  | .hole n => 1 ≤ n ∧ n ≤ 255
  | .entry e wh => OkE e ∧ (wh = false → e.f5 = e.f4)
theorem flat_len {l : List ByteArray} (h : ∀ s ∈ l, s.size ≤ 200) : (l.flatMap cnt16).length ≤ 202 * l.length := by
  induction l with
  | nil => simp
  | cons a t ih =>
    have h1 := ih fun s hs => h s (List.mem_cons_of_mem _ hs)
    have h2 := h a (List.mem_cons_self ..)
    rw [List.flatMap_cons, List.length_append, cnt16_len, List.length_cons]
    omega
theorem prinB_len (r : ByteArray) (l : List ByteArray) (k : Int) : (prinB r l k).length = 8 + r.size + (l.flatMap cnt16).length := by simp [prinB, e16, e32, cnt16_len]; omega
theorem entB_len (e : S25) (wh : Bool) : (entB e wh).length = (prinB e.f0 e.f1 e.f2).length + 9 + e.f7.size + (if wh = true then 4 else 0) := by
  unfold entB
  simp only [List.length_append, List.length_cons, cnt16_len]
  cases wh <;> simp [e16, e32] <;> omega
theorem OkE.len {e : S25} (h : OkE e) (wh : Bool) : 8 ≤ (prinB e.f0 e.f1 e.f2).length ∧ (entB e wh).length ≤ 5000 ∧ (prinB e.f0 e.f1 e.f2).length ≤ 2000 := by
  have h1 := flat_len h.each
  have h2 := h.names
  have h3 := h.realm
  have h4 := h.key
  have h5 := prinB_len e.f0 e.f1 e.f2
  have h6 := entB_len e wh
  split at h6 <;> omega
theorem Chunk.body_len {c : Chunk} (h : c.Ok) : 1 ≤ c.body.length ∧ c.body.length ≤ 5000 := by
  cases c with
  | hole n => simp [Chunk.body, Chunk.Ok] at *; omega
  | entry e wh =>
    have h1 := h.1.len wh
    have h2 := entB_len e wh
    show 1 ≤ (entB e wh).length ∧ _
    constructor
    · omega
    · exact h1.2.1
theorem low_alloc {B : Nat} {w0 w : World} (h : Below B w0 w) (hs : B ≤ w.heap.size) (o : Obj) : Below B w0 (w.alloc o) := low_below h hs (below_alloc (Below.refl _ _) _)
theorem In.put {B : Nat} {w0 w : World} {gb gp ge p : Nat} {l : List Int} (h : In B w0 w gb gp ge l p) (q : Nat) : In B w0 (w.setCell ⟨gp, 0, none⟩ (.int .i64 q)) gb gp ge l q :=
  ⟨h.src.set h.pos (by decide) (by decide), h.pos.put q, low_set h.low h.hp _ _, by simpa using h.size, h.hp⟩
theorem In.trans {B : Nat} {w0 w1 w2 : World} {gb gp ge p q : Nat} {l : List Int} (h : Below B w0 w1) (k : In B w1 w2 gb gp ge l p) : In B w0 w2 gb gp ge l p :=
  ⟨k.src, k.pos, ⟨k.low.os.trans h.os, k.low.tape.trans h.tape, k.low.output.trans h.output, Nat.le_trans h.size k.low.size, fun j hj => (k.low.block j hj).trans (h.block j hj)⟩, k.size, k.hp⟩
theorem In.here {B : Nat} {w0 w : World} {gb gp ge p : Nat} {l : List Int} (h : In B w0 w gb gp ge l p) : In B w w gb gp ge l p := ⟨h.src, h.pos, Below.refl _ _, h.size, h.hp⟩
theorem wrap16_u16 {v : Int} (h0 : -32768 ≤ v) (h1 : v < 32768) : IntKind.i16.wrap (IntKind.u16.wrap v) = v := by simp [IntKind.wrap, IntKind.bits, IntKind.signed]; omega
theorem u16_range (v : Int) : 0 ≤ IntKind.u16.wrap v ∧ IntKind.u16.wrap v < 65536 := by simp [IntKind.wrap, IntKind.bits, IntKind.signed]; omega
theorem u8_i8 {v : Int} (h0 : 0 ≤ v) (h1 : v < 256) : IntKind.u8.wrap (IntKind.i8.wrap v) = v := by simp [IntKind.wrap, IntKind.bits, IntKind.signed]; omega
theorem u32_wrap32 {v : Int} (h0 : 0 ≤ v) (h1 : v < 4294967296) : IntKind.u32.wrap (wrap32 v) = v := by rw [IntKind.wrap_u32]; unfold wrap32; omega
theorem info91z : (Try.prog.info? 91).map (fun i => (i.zero, i.size, i.bytes)) = some (some (.agg entry0), 10, 120) := by kernel_rfl
theorem out_len (l : List Chunk) : (l.flatMap Chunk.out).length ≤ l.length := by
  induction l with
  | nil => simp
  | cons a t ih => rw [List.flatMap_cons, List.length_append, List.length_cons]; have : (Chunk.out a).length ≤ 1 := by cases a <;> simp [Chunk.out]
                   omega
theorem Chunk.size_val {c : Chunk} (h : c.Ok) : wrap32 (IntKind.u32.wrap c.size) = c.size ∧ -255 ≤ c.size ∧ c.size ≤ 5000 ∧ c.size ≠ 0 := by
  have hb := Chunk.body_len h
  have hs : -255 ≤ c.size ∧ c.size ≤ 5000 ∧ c.size ≠ 0 := by
    cases c with
    | hole n => have h1 : 1 ≤ n ∧ n ≤ 255 := h; simp only [Chunk.size]; omega
    | entry e wh => simp only [Chunk.size, Chunk.body] at *; omega
  exact ⟨wrap32_u32 (by omega) (by omega), hs⟩
set_option maxHeartbeats 8000000 in
theorem unmarshal_reads (gt gb B : Nat) (C : List Chunk) (D : List Int) (w : World) (hl : okBytes D) (hD : D = 5 :: 2 :: C.flatMap Chunk.bytes) (hC : C ≠ []) (hok : ∀ c ∈ C, c.Ok) (hcl : C.length ≤ 1000)
    (hb : Box w gb 5 (nums .u8 D).toArray) (ht : Box w gt 74 #[.int .u8 2, .slice none 0 0]) (hB : B ≤ gt) (hBs : B ≤ w.heap.size) :
    Calls Try.prog 25 #[.pointer (some ⟨gt, 0, none⟩), .slice (some ⟨gb, 0, none⟩) D.length D.length] w fun e w' => ∃ A n c, e = .returned .nilIface ∧ Box w' gt 74 #[.int .u8 2, .slice A n c] ∧ k91.R 91 w' w.heap.size (fun _ => True) (.slice A n c) (C.flatMap Chunk.out) ∧ Below B w w' := by
  obtain ⟨c0, C', rfl⟩ : ∃ c0 C', C = c0 :: C' := by cases C with | nil => exact absurd rfl hC | cons a b => exact ⟨a, b, rfl⟩
  have hok0 := Chunk.size_val (hok c0 (List.mem_cons_self ..))
  have hlen : 1 < D.length := by rw [hD]; simp
  have k0 : w.cell? ⟨gb, 0, none⟩ = some (.int .u8 5) := by rw [blk_cell hb, hD]; rfl
  have k1 : w.cell? ⟨gb, 1, none⟩ = some (.int .u8 2) := by rw [blk_cell hb, hD]; rfl
  have d0 := ht.cell 0 (.int .u8 2) rfl
  have e0 := ht.free 0
  have hgt : gt < w.heap.size := ht.lt
  have hgb : gb < w.heap.size := hb.lt
  have hne : gb ≠ gt := hb.ne ht (by decide)
  have hu74 := Try.underlying74
  have hu79 := Try.underlying79
  have hl1 := hl.1
  have i0 : (0 : Int) < (D.length : Int) := by omega
  have i1 : (1 : Int) < (D.length : Int) := by omega
  have i2 : (2 : Int) ≤ (D.length : Int) := by omega
  have HL := Aside0.mk hl
  have HD2 := Aside0.mk (show D.drop 2 = (c0 :: C').flatMap Chunk.bytes from by rw [hD]; rfl)
  have HOK := Aside0.mk hok
  have HCL := Aside0.mk hcl
  have H0 := Aside0.mk hok0
  have HT := Aside0.mk ht
  have HB := Aside0.mk hb
  have HBB := Aside0.mk (And.intro hB hBs)
  clear hcl hD hC hok hok0 hl ht hb hB hBs
  go_enter Try.func25, Try.ntmps25
  go_wp2_with fail
  have A1 := Aside0.mk (show In B w (((w.setCell ⟨gt, 0, none⟩ (.int .u8 2)).alloc (.cells #[.iface 79 (.agg #[])] 77)).alloc (.cells #[.int .i64 2] 3)) gb (w.heap.size + 1) w.heap.size D 2 from by
    have hsz : (w.setCell ⟨gt, 0, none⟩ (.int .u8 2)).heap.size = w.heap.size := by simp
    have e1 := Box.new (w.setCell ⟨gt, 0, none⟩ (.int .u8 2)) #[.iface 79 (.agg #[])] 77
    have p1 := Box.next (w.setCell ⟨gt, 0, none⟩ (.int .u8 2)) (.cells #[.iface 79 (.agg #[])] 77) #[.int .i64 2] 3
    rw [hsz] at e1 p1
    have := HBB.out
    exact ⟨⟨((HB.out.far hne 0 (.int .u8 2)).alloc _).alloc _, e1.alloc _⟩, p1, low_alloc (low_alloc (low_set (Below.refl _ _) this.1 _ _) (by simp; omega) _) (by simp; omega) _, by simp; omega, by omega⟩)
  have T1 := Aside0.mk (((HT.out.puts (cs' := #[.int .u8 2, .slice none 0 0]) 0 (.int .u8 2) rfl).alloc (.cells #[.iface 79 (.agg #[])] 77)).alloc (.cells #[.int .i64 2] 3))
  have Z1 := Aside0.mk (show w.heap.size ≤ (((w.setCell ⟨gt, 0, none⟩ (.int .u8 2)).alloc (.cells #[.iface 79 (.agg #[])] 77)).alloc (.cells #[.int .i64 2] 3)).heap.size from by simp; omega)
  generalize ((w.setCell ⟨gt, 0, none⟩ (.int .u8 2)).alloc (.cells #[.iface 79 (.agg #[])] 77)).alloc (.cells #[.int .i64 2] 3) = w1 at *
  clear d0 e0 k0 k1 i0 i1 HT HB
  have hdr : D.drop (0 + 2) = e32 (IntKind.u32.wrap c0.size) ++ (c0.body ++ C'.flatMap Chunk.bytes) := by
    rw [Nat.zero_add, HD2.out, List.flatMap_cons, Chunk.bytes, List.append_assoc]
  have q := u32_range c0.size
  have hll : 6 ≤ D.length := by have := congrArg List.length HD2.out; simp [Chunk.bytes, e32] at this; omega
  have h1 := readInt32_e gb (w.heap.size + 1) w.heap.size 0 D.length D.length 2 D _ _ w1 HL.out A1.out.src A1.out.pos (by omega) (by omega) (Nat.le_refl _) q.1 q.2 hdr
  rw [H0.out.1] at h1
  with_reducible refine h1.mono ?_
  clear h1 hdr q
  rintro e w2 ⟨rfl, hg, hp1⟩
  have A2 := Aside0.mk (A1.out.call hg hp1)
  have T2 := Aside0.mk (T1.out.call A1.out.pos (by decide) hg)
  have Z2 := Aside0.mk (Nat.le_trans Z1.out hg.size)
  have DR := Aside0.mk (show D.drop (2 + 4) = c0.body ++ C'.flatMap Chunk.bytes from by
    rw [show 2 + 4 = 2 + 4 from rfl, ← List.drop_drop, HD2.out, List.flatMap_cons, Chunk.bytes, List.append_assoc]; rfl)
  clear hg hp1 A1 T1 Z1 w1 HD2 hll
  obtain ⟨N, hN⟩ : ∃ N, N = C'.length + 1 := ⟨_, rfl⟩
  have HN := Aside0.mk hN
  clear hN
  go_upto_region 16 with fail
  go_loopg [7] N (fun kq vl wr => ∃ (c : Chunk) (done R : List Chunk) (pj : Nat) (A : Option Addr) (n cc : Nat), vl = .int .i32 c.size ∧ Aside0 (kq = R.length + 1 ∧ c0 :: C' = done ++ c :: R) ∧ Aside0 (D.drop pj = c.body ++ R.flatMap Chunk.bytes) ∧ Aside0 (In B w wr gb (w.heap.size + 1) w.heap.size D pj) ∧ Aside0 (Box wr gt 74 #[.int .u8 2, .slice A n cc]) ∧ Aside0 (k91.R 91 wr w.heap.size (fun _ => True) (.slice A n cc) (done.flatMap Chunk.out)) ∧ Aside0 (w.heap.size ≤ wr.heap.size))
  case atStart => exact ⟨c0, [], C', 6, none, 0, 0, rfl, ⟨HN.out, rfl⟩, DR, A2, T2, ⟨Kd.R_nil _ _ _ _ _⟩, Z2⟩
  clear A2 T2 DR Z2 H0 w2
  obtain ⟨c, done, R, pj, A, n, cc, rfl, HK, DJ, AJ, TJ, VJ, ZJ⟩ := hrel
  have HC := Aside0.mk (HOK.out c (by rw [HK.out.2]; simp))
  have hgk := HK.out.1
  cases gk with
  | zero => omega
  | succ k1 =>
  clear hgk
  obtain ⟨sz, hsz⟩ : ∃ z, z = c.size := ⟨_, rfl⟩
  rw [← hsz]
  have c0_ := AJ.out.pos.cell
  have f0_ := AJ.out.pos.free
  cases c with
  | hole n0 =>
    have h0 : 1 ≤ n0 ∧ n0 ≤ 255 := HC.out
    have h01 := h0.1
    have h02 := h0.2
    obtain rfl : sz = -(n0 : Int) := hsz
    have hb1 : ((-(n0 : Int)) != 0) = true := by simp; omega
    have hb2 : (-(n0 : Int)) < 0 := by omega
    have hw1 : wrap32 (-(n0 : Int) * -1) = n0 := by unfold wrap32; omega
    have DJ2 := Aside0.mk (show D.drop (pj + n0) = R.flatMap Chunk.bytes from drop_app DJ.out (by simp [Chunk.body]))
    have hpl : pj + n0 ≤ D.length := by have h1 := congrArg List.length DJ.out; simp [Chunk.body] at h1; omega
    have hw2 : wrap64 (n0 : Int) = n0 := by unfold wrap64; omega
    have hw3 : wrap64 ((pj : Int) + n0) = (pj : Int) + n0 := by unfold wrap64; omega
    clear h0
    go_upto_region 56 with fail
    have it := AJ.out.put (pj + n0)
    have vt := row_set VJ.out AJ.out.pos (by decide) 0 (.int .i64 ((pj + n0 : Nat) : Int))
    have tt := TJ.out.far (TJ.out.ne AJ.out.pos (by decide)) 0 (.int .i64 ((pj + n0 : Nat) : Int))
    have zt : w.heap.size ≤ (wr.setCell ⟨w.heap.size + 1, 0, none⟩ (.int .i64 ((pj + n0 : Nat) : Int))).heap.size := by simpa using ZJ.out
    rw [Int.natCast_add] at it vt tt zt
    generalize wr.setCell ⟨w.heap.size + 1, 0, none⟩ (.int .i64 ((pj : Int) + (n0 : Int))) = wt at *
    have IT := Aside0.mk it
    have VT := Aside0.mk vt
    have TT := Aside0.mk tt
    have ZT := Aside0.mk zt
    have HQ := DJ2
    have HQL := Aside0.mk hpl
    have HOUT := Aside0.mk (show done.flatMap Chunk.out = (done ++ [Chunk.hole n0]).flatMap Chunk.out from by rw [List.flatMap_append]; simp [Chunk.out])
    clear it vt tt zt AJ VJ TJ ZJ DJ DJ2 hpl c0_ f0_ hb1 hb2 hw1 hw2 hw3 HC
    generalize pj + n0 = q at *
    have c1 := IT.out.pos.cell
    have hq1 : ¬ ((q : Int) < 0) := by omega
    have hq2 : ¬ ((D.length : Int) < (q : Int)) := by have := HQL.out; omega
    have hq3 : (q : Int) ≤ (D.length : Int) := by have := HQL.out; omega
    have hq0 : (0 : Int) ≤ (q : Int) := by omega
    cases R with
    | nil =>
      have hq4 : q = D.length := by have h1 := congrArg List.length HQ.out; have := HQL.out; simp at h1; omega
      have hlq : D.length - q = 0 := by omega
      go_wp2_with fail
      go_ret
      have hv := VT.out
      rw [HOUT.out, ← HK.out.2, List.flatMap_cons] at hv
      exact ⟨rfl, _, _, _, TT.out, hv, IT.out.low⟩
    | cons c2 R2 =>
      have HC2 := Aside0.mk (Chunk.size_val (HOK.out c2 (by rw [HK.out.2]; simp)))
      have hdr : D.drop (0 + q) = e32 (IntKind.u32.wrap c2.size) ++ (c2.body ++ R2.flatMap Chunk.bytes) := by rw [Nat.zero_add, HQ.out, List.flatMap_cons, Chunk.bytes, List.append_assoc]
      have hq5 : q + 4 ≤ D.length := by have h1 := congrArg List.length hdr; have := HQL.out; simp [e32] at h1; omega
      have HDR := Aside0.mk hdr
      clear hdr
      have hq6 : ¬ ((D.length : Int) - (q : Int) < 4) := by omega
      have hq7 : ¬ (D.length - q < 4) := by omega
      have hq8 : ¬ (((D.length - q : Nat) : Int) < 4) := by omega
      go_wp2_with fail
      have q_ := u32_range c2.size
      have h1 := readInt32_e gb (w.heap.size + 1) w.heap.size 0 D.length D.length q D _ _ wt HL.out IT.out.src IT.out.pos (by omega) hq5 (Nat.le_refl _) q_.1 q_.2 HDR.out
      rw [HC2.out.1] at h1
      with_reducible refine h1.mono ?_
      clear h1 q_
      rintro e_ w9 ⟨rfl, hg, hp1⟩
      have I9 := Aside0.mk (IT.out.call hg hp1)
      have T9 := Aside0.mk (TT.out.call IT.out.pos (by decide) hg)
      have V9 := Aside0.mk (row_call VT.out IT.out.pos (by decide) hg)
      have Z9 := Aside0.mk (Nat.le_trans ZT.out hg.size)
      clear hg hp1 c1
      go_wp2_with fail
      go_roundg k1
      case rel =>
        refine ⟨c2, done ++ [Chunk.hole n0], R2, q + 4, _, _, _, rfl, ⟨by have := HK.out.1; simp at this; omega, by rw [HK.out.2]; simp⟩, ⟨?_⟩, I9, T9, ⟨HOUT.out ▸ V9.out⟩, Z9⟩
        have h1 := drop_app (n := 4) HDR.out rfl
        rwa [Nat.zero_add] at h1
      case measure => omega
  | entry e wh =>
    have HE := Aside0.mk (show OkE e ∧ (wh = false → e.f5 = e.f4) from HC.out)
    obtain ⟨m, hm⟩ : ∃ m, m = (entB e wh).length := ⟨_, rfl⟩
    obtain rfl : sz = (m : Int) := by rw [hm]; exact hsz
    have hml : 1 ≤ m ∧ m ≤ 5000 := by rw [hm]; exact ⟨(Chunk.body_len HC.out).1, (Chunk.body_len HC.out).2⟩
    obtain ⟨hm1, hm2⟩ := hml
    have DJ2 := Aside0.mk (show D.drop (pj + m) = R.flatMap Chunk.bytes from drop_app DJ.out hm.symm)
    have hpl : pj + m ≤ D.length := by have h1 := congrArg List.length DJ.out; rw [List.length_append] at h1; have h2 : (Chunk.entry e wh).body.length = m := hm.symm; rw [h2, List.length_drop] at h1; omega
    have hb1 : ((m : Int) != 0) = true := by simp; omega
    have hb2 : ¬ ((m : Int) < 0) := by omega
    have hb3 : ¬ ((pj : Int) < 0) := by omega
    have hw2 : wrap64 (m : Int) = m := by unfold wrap64; omega
    have hw3 : wrap64 ((pj : Int) + m) = (pj : Int) + m := by unfold wrap64; omega
    have hb4 : ¬ ((D.length : Int) < (pj : Int) + m) := by omega
    obtain ⟨i0_, hi0, _, hsz0, _⟩ := info_parts info5
    have hsl := cut_at (P := Try.prog) 35 5 Try.underlying35 hi0 hsz0 gb 0 D.length D.length pj (pj + m) (by omega) (by omega) (by omega)
    rw [show ((pj : Int) + m - pj).toNat = m from by omega, Int.toNat_natCast, Nat.zero_add] at hsl
    have HM := Aside0.mk hm
    have hp0 : (0 : Int) ≤ (pj : Int) := by omega
    have hp1_ : (pj : Int) ≤ (pj : Int) + m := by omega
    have hp2_ : (pj : Int) + m ≤ (D.length : Int) := by omega
    clear hm hi0 hsz
    go_upto_region 26 with fail
    have it := AJ.out.put (pj + m)
    have vt := row_set VJ.out AJ.out.pos (by decide) 0 (.int .i64 ((pj + m : Nat) : Int))
    have tt := TJ.out.far (TJ.out.ne AJ.out.pos (by decide)) 0 (.int .i64 ((pj + m : Nat) : Int))
    have zt : w.heap.size ≤ (wr.setCell ⟨w.heap.size + 1, 0, none⟩ (.int .i64 ((pj + m : Nat) : Int))).heap.size := by simpa using ZJ.out
    rw [Int.natCast_add] at it vt tt zt
    generalize wr.setCell ⟨w.heap.size + 1, 0, none⟩ (.int .i64 ((pj : Int) + (m : Int))) = wa at *
    have ITa := Aside0.mk it
    have VTa := Aside0.mk vt
    have TTa := Aside0.mk tt
    have ZTa := Aside0.mk zt
    have HQ := DJ2
    have HQL := Aside0.mk hpl
    have HOUT := Aside0.mk (show done.flatMap Chunk.out ++ [pe e] = (done ++ [Chunk.entry e wh]).flatMap Chunk.out from by rw [List.flatMap_append]; simp [Chunk.out])
    have DE := Aside0.mk (show D.drop (pj + 0) = prinB e.f0 e.f1 e.f2 ++ (e32 e.f3 ++ (e.f4 :: (e16 (IntKind.u16.wrap e.f6) ++ (cnt16 e.f7 ++ ((if wh = true then e32 e.f5 else []) ++ R.flatMap Chunk.bytes))))) from by rw [Nat.add_zero, DJ.out]; show entB e wh ++ _ = _; simp [entB])
    clear it vt tt zt AJ VJ TJ ZJ DJ DJ2 c0_ f0_ hb1 hb2 hb3 hb4 hw2 hw3 HC hsl hp0 hp1_ hp2_ hsz0
    go_wp2_with fail
    refine (newEntry_any _).mono ?_
    rintro e_ wb ⟨rfl, hb⟩
    have ITb := Aside0.mk (ITa.out.below hb)
    have VTb := Aside0.mk (Kd.R_below VTa.out hb)
    have TTb := Aside0.mk (TTa.out.below hb)
    have ZTb := Aside0.mk (Nat.le_trans ZTa.out hb.size)
    clear hb ITa VTa TTa ZTa wa
    go_upto_region 27 with (first
      | ((with_reducible refine gate_dst (N := 10) rfl ?_); refine box_event ?hg (N := 10) ?hd (cs := entry0) (t := 91) ?hr ?_; (case hd => rfl); (case hg => rfl); (case hr => first | (go_simp; done) | (go_simp; rfl)); intro gk hgb w1 hbox hb; have HBX := Aside0.mk hbox; have HBB2 := Aside0.mk hb; have HGB := Aside0.mk (show wb.heap.size ≤ gk from by rw [hgb]; exact Nat.le_refl _); clear hbox hb hgb)
      | ((with_reducible refine gate_store (t := 91) (p := 10) (v := .tmp 98) rfl ?_); refine store_event ?hg 91 (.tmp 10) (.tmp 98) ?ho gk entry0 ?hx ?hy 91 _ HBX.out ?hi ?hl (by simp [Value.oneCell', entry0]) ?_; (case hg => rfl); (case ho => rfl); (case hx => first | rfl | (go_simp; done)); (case hy => first | rfl | (go_simp; done)); (case hi => exact info91); (case hl => rfl); intro wk hb2 hbl2 hsz2 hot2; have HQ2 := Aside0.mk hb2; have HBL2 := Aside0.mk (hbl2 wb HBB2.out HGB.out); clear hb2 hbl2 hsz2 hot2)
      | fail)
    clear HBX HBB2
    go_upto_region 29 with fail
    have hbE : Below wb.heap.size wb (wk.alloc (Obj.cells #[.int .i64 0] 3)) := low_alloc HBL2.out HBL2.out.size _
    have I0 := Aside0.mk (show In wb.heap.size wb (wk.alloc (Obj.cells #[.int .i64 0] 3)) gb wk.heap.size w.heap.size D 0 from ⟨ITb.out.src.below hbE, Box.new _ _ _, hbE, hbE.size, HBL2.out.size⟩)
    have K0 := Aside0.mk (show Box (wk.alloc (Obj.cells #[.int .i64 0] 3)) gk 91 #[.int .i16 0, .string ⟨#[]⟩, .slice none 0 0, .int .i32 0, .int .i64 0, .bool false, .int .u8 0, .int .i32 0, .slice none 0 0, .int .u32 0] from Box.alloc HQ2.out _)
    have T0 := Aside0.mk (TTb.out.below hbE)
    have HBE := Aside0.mk hbE
    generalize wk.alloc (Obj.cells #[.int .i64 0] 3) = wE at *
    obtain ⟨gp, hgp⟩ : ∃ x, x = wk.heap.size := ⟨_, rfl⟩
    have HGP := Aside0.mk hgp
    rw [← hgp]
    have I1 := Aside0.mk (show In wb.heap.size wb wE gb gp w.heap.size D 0 from hgp ▸ I0.out)
    clear hbE hgp HQ2 HBL2 I0 HGP w1
    go_wp2_with fail
    have hml : m = (prinB e.f0 e.f1 e.f2).length + 9 + e.f7.size + (if wh = true then 4 else 0) := by rw [HM.out]; exact entB_len e wh
    have HML := Aside0.mk hml
    clear hml
    with_reducible refine (parsePrincipal_at gb gp w.heap.size gk gt pj m (D.length - pj) 0 wb.heap.size D _ e.f0 e.f1 e.f2 #[.int .u8 2, .slice A n cc] (.int .i64 0) (.bool false) (.int .u8 0) (.int .i32 0) (.slice none 0 0) (.int .u32 0) wE HL.out I1.out.here (by have := HQL.out; omega) (by have := HML.out; omega) (by have := HQL.out; omega) (by omega) K0.out HGB.out T0.out rfl HE.out.1.realm HE.out.1.names HE.out.1.each HE.out.1.nt DE.out).mono ?_
    rintro e_ wp ⟨A2, c2, rfl, hk, hv, hi⟩
    obtain ⟨p1, hp1⟩ : ∃ x, x = (prinB e.f0 e.f1 e.f2).length := ⟨_, rfl⟩
    rw [Nat.zero_add, ← hp1] at hi
    have DP1 := Aside0.mk (show D.drop (pj + p1) = e32 e.f3 ++ (e.f4 :: (e16 (IntKind.u16.wrap e.f6) ++ (cnt16 e.f7 ++ ((if wh = true then e32 e.f5 else []) ++ R.flatMap Chunk.bytes)))) from by have h1 := drop_app DE.out hp1.symm; rwa [Nat.add_zero] at h1)
    have hmp := HML.out
    rw [← hp1] at hmp
    have HMP := Aside0.mk hmp
    have I2 := Aside0.mk (In.trans (q := 0) HBE.out hi)
    have K2 := Aside0.mk hk
    have VC2 := Aside0.mk (Kd.R_lower hv (Nat.le_trans ZTb.out HBE.out.size))
    have T2 := Aside0.mk (TTb.out.below I2.out.low)
    clear hi hk hv hp1 hmp HML I1 K0 T0 DE HM HBE
    clear T2
    go_wp2_with fail
    have h1 := readTimestamp_e gb gp w.heap.size pj m (D.length - pj) p1 D _ e.f3 wp HL.out I2.out.src I2.out.pos (by have := HQL.out; omega) (by have := HMP.out; omega) (by have := HQL.out; omega) HE.out.1.time.1 (by have := HE.out.1.time.2; omega) DP1.out
    rw [show wrap32 e.f3 = e.f3 from by have := HE.out.1.time; unfold wrap32; omega] at h1
    with_reducible refine h1.mono ?_
    clear h1
    rintro e_ w3 ⟨rfl, hg, hp1⟩
    have I3 := Aside0.mk (I2.out.call hg hp1)
    have K3 := Aside0.mk (K2.out.call I2.out.pos (by decide) hg)
    have VC3 := Aside0.mk (row_call VC2.out I2.out.pos (by decide) hg)
    clear hg hp1 I2 K2 VC2
    have k4_ := K3.out.cell 4 (.int .i64 0) rfl
    have f4_ := K3.out.free 4
    have k5_ := K3.out.cell 5 (.bool false) rfl
    have f5_ := K3.out.free 5
    have DP2 := Aside0.mk (show D.drop (pj + (p1 + 4)) = e.f4 :: (e16 (IntKind.u16.wrap e.f6) ++ (cnt16 e.f7 ++ ((if wh = true then e32 e.f5 else []) ++ R.flatMap Chunk.bytes))) from by have h1 := drop_app (n := 4) DP1.out rfl; rwa [Nat.add_assoc] at h1)
    go_wp2_with fail
    have i_ := (In.set (In.set I3.out K3.out (by decide) (Nat.le_trans (Nat.le_refl _) HGB.out) 4 (.int .i64 e.f3)) (Box.puts (cs' := #[Value.int .i16 e.f1.length, .string e.f0, .slice A2 e.f1.length c2, .int .i32 e.f2, .int .i64 e.f3, .bool false, .int .u8 0, .int .i32 0, .slice none 0 0, .int .u32 0]) K3.out 4 (.int .i64 e.f3) rfl) (by decide) (Nat.le_trans (Nat.le_refl _) HGB.out) 5 (.bool true))
    have q_ := (Box.puts (cs' := #[Value.int .i16 e.f1.length, .string e.f0, .slice A2 e.f1.length c2, .int .i32 e.f2, .int .i64 e.f3, .bool true, .int .u8 0, .int .i32 0, .slice none 0 0, .int .u32 0]) (Box.puts (cs' := #[Value.int .i16 e.f1.length, .string e.f0, .slice A2 e.f1.length c2, .int .i32 e.f2, .int .i64 e.f3, .bool false, .int .u8 0, .int .i32 0, .slice none 0 0, .int .u32 0]) K3.out 4 (.int .i64 e.f3) rfl) 5 (.bool true) rfl)
    have v_ := (row_set (row_set VC3.out K3.out (by decide) 4 (.int .i64 e.f3)) (Box.puts (cs' := #[Value.int .i16 e.f1.length, .string e.f0, .slice A2 e.f1.length c2, .int .i32 e.f2, .int .i64 e.f3, .bool false, .int .u8 0, .int .i32 0, .slice none 0 0, .int .u32 0]) K3.out 4 (.int .i64 e.f3) rfl) (by decide) 5 (.bool true))
    generalize ((w3.setCell ⟨gk, 4, none⟩ (.int .i64 e.f3)).setCell ⟨gk, 5, none⟩ (.bool true)) = w3s at *
    have I4 := Aside0.mk i_
    have K4 := Aside0.mk q_
    have VC4 := Aside0.mk v_
    clear i_ q_ v_ I3 K3 VC3 k4_ f4_ k5_ f5_
    have h1 := readInt8_at gb gp w.heap.size pj m (D.length - pj) (p1 + 4) D _ e.f4 w3s HL.out I4.out.src I4.out.pos (by have := HQL.out; omega) (by have := HMP.out; omega) (by have := HQL.out; omega) DP2.out
    with_reducible refine h1.mono ?_
    clear h1
    rintro e_ w5 ⟨rfl, hg, hp1⟩
    have I5 := Aside0.mk (I4.out.call hg hp1)
    have K5 := Aside0.mk (K4.out.call I4.out.pos (by decide) hg)
    have VC5 := Aside0.mk (row_call VC4.out I4.out.pos (by decide) hg)
    clear hg hp1 I4 K4 VC4
    have k6_ := K5.out.cell 6 (.int .u8 0) rfl
    have f6_ := K5.out.free 6
    have hw8 := u8_i8 HE.out.1.short.1 HE.out.1.short.2
    have DP3 := Aside0.mk (show D.drop (pj + (p1 + 4 + 1)) = e16 (IntKind.u16.wrap e.f6) ++ (cnt16 e.f7 ++ ((if wh = true then e32 e.f5 else []) ++ R.flatMap Chunk.bytes)) from by have h1 := drop_app (X := [e.f4]) (n := 1) DP2.out rfl; rwa [Nat.add_assoc] at h1)
    go_wp2_with fail
    have i_ := (In.set I5.out K5.out (by decide) (Nat.le_trans (Nat.le_refl _) HGB.out) 6 (.int .u8 e.f4))
    have q_ := (Box.puts (cs' := #[Value.int .i16 e.f1.length, .string e.f0, .slice A2 e.f1.length c2, .int .i32 e.f2, .int .i64 e.f3, .bool true, .int .u8 e.f4, .int .i32 0, .slice none 0 0, .int .u32 0]) K5.out 6 (.int .u8 e.f4) rfl)
    have v_ := (row_set VC5.out K5.out (by decide) 6 (.int .u8 e.f4))
    generalize (w5.setCell ⟨gk, 6, none⟩ (.int .u8 e.f4)) = w5s at *
    have I6 := Aside0.mk i_
    have K6 := Aside0.mk q_
    have VC6 := Aside0.mk v_
    clear i_ q_ v_ I5 K5 VC5 k6_ f6_
    clear hw8
    have h1 := readInt16_e gb gp w.heap.size pj m (D.length - pj) (p1 + 4 + 1) D _ _ w5s HL.out I6.out.src I6.out.pos (by have := HQL.out; omega) (by have := HMP.out; omega) (by have := HQL.out; omega) (u16_range e.f6).1 (u16_range e.f6).2 DP3.out
    rw [wrap16_u16 HE.out.1.kt.1 HE.out.1.kt.2] at h1
    with_reducible refine h1.mono ?_
    clear h1
    rintro e_ w7 ⟨rfl, hg, hp1⟩
    have I7 := Aside0.mk (I6.out.call hg hp1)
    have K7 := Aside0.mk (K6.out.call I6.out.pos (by decide) hg)
    have VC7 := Aside0.mk (row_call VC6.out I6.out.pos (by decide) hg)
    clear hg hp1 I6 K6 VC6
    have k7_ := K7.out.cell 7 (.int .i32 0) rfl
    have f7_ := K7.out.free 7
    have DP4 := Aside0.mk (show D.drop (pj + (p1 + 4 + 1 + 2)) = cnt16 e.f7 ++ ((if wh = true then e32 e.f5 else []) ++ R.flatMap Chunk.bytes) from by have h1 := drop_app (n := 2) DP3.out rfl; rwa [Nat.add_assoc] at h1)
    have hkt1 := HE.out.1.kt.1
    have hkt2 := HE.out.1.kt.2
    have hw7 : wrap32 e.f6 = e.f6 := by unfold wrap32; omega
    go_wp2_with fail
    have i_ := (In.set I7.out K7.out (by decide) (Nat.le_trans (Nat.le_refl _) HGB.out) 7 (.int .i32 e.f6))
    have q_ := (Box.puts (cs' := #[Value.int .i16 e.f1.length, .string e.f0, .slice A2 e.f1.length c2, .int .i32 e.f2, .int .i64 e.f3, .bool true, .int .u8 e.f4, .int .i32 e.f6, .slice none 0 0, .int .u32 0]) K7.out 7 (.int .i32 e.f6) rfl)
    have v_ := (row_set VC7.out K7.out (by decide) 7 (.int .i32 e.f6))
    generalize (w7.setCell ⟨gk, 7, none⟩ (.int .i32 e.f6)) = w7s at *
    have I8 := Aside0.mk i_
    have K8 := Aside0.mk q_
    have VC8 := Aside0.mk v_
    clear i_ q_ v_ I7 K7 VC7 k7_ f7_
    clear hw7 hkt1 hkt2
    have hks := HE.out.1.key
    have DP4b := Aside0.mk (show D.drop (pj + (p1 + 4 + 1 + 2)) = e16 e.f7.size ++ (bytesOf e.f7 ++ ((if wh = true then e32 e.f5 else []) ++ R.flatMap Chunk.bytes)) from by rw [DP4.out]; simp [cnt16])
    have h1 := readInt16_e gb gp w.heap.size pj m (D.length - pj) (p1 + 4 + 1 + 2) D _ (e.f7.size : Int) w7s HL.out I8.out.src I8.out.pos (by have := HQL.out; omega) (by have := HMP.out; omega) (by have := HQL.out; omega) (by omega) (by omega) DP4b.out
    rw [wrap16_small (by omega) (by omega)] at h1
    with_reducible refine h1.mono ?_
    clear h1
    rintro e_ w9 ⟨rfl, hg, hp1⟩
    have I9 := Aside0.mk (I8.out.call hg hp1)
    have K9 := Aside0.mk (K8.out.call I8.out.pos (by decide) hg)
    have VC9 := Aside0.mk (row_call VC8.out I8.out.pos (by decide) hg)
    clear hg hp1 I8 K8 VC8
    have DP5 := Aside0.mk (show D.drop (pj + (p1 + 4 + 1 + 2 + 2)) = bytesOf e.f7 ++ ((if wh = true then e32 e.f5 else []) ++ R.flatMap Chunk.bytes) from by have h1 := drop_app (n := 2) DP4b.out rfl; rwa [Nat.add_assoc] at h1)
    have hwk : wrap64 (e.f7.size : Int) = e.f7.size := by unfold wrap64; omega
    go_wp2_with fail
    have h1 := readBytes_at gb gp w.heap.size pj m (D.length - pj) (p1 + 4 + 1 + 2 + 2) e.f7.size D (bytesOf e.f7) _ w9 HL.out I9.out.src I9.out.pos (by have := HQL.out; omega) (by have := HMP.out; omega) (by have := HQL.out; omega) (by omega) DP5.out (bytesOf_length _)
    with_reducible refine h1.mono ?_
    clear h1
    rintro e_ w10 ⟨A8, c8, rfl, hv, hg, hp1⟩
    have I10 := Aside0.mk (I9.out.call hg hp1)
    have K10 := Aside0.mk (K9.out.call I9.out.pos (by decide) hg)
    have VC10 := Aside0.mk (row_call VC9.out I9.out.pos (by decide) hg)
    have VK10 := Aside0.mk (Kd.R_lower hv (Nat.le_trans ZTb.out (Nat.le_trans I9.out.low.size (Nat.le_refl _))))
    clear hg hp1 I9 K9 VC9
    clear hv
    have k8_ := K10.out.cell 8 (.slice none 0 0) rfl
    have f8_ := K10.out.free 8
    have hbl := bytesOf_length e.f7
    obtain ⟨nk, hnk⟩ : ∃ x, x = (bytesOf e.f7).length := ⟨_, rfl⟩
    have vk_ := VK10.out
    rw [← hnk] at vk_ ⊢
    clear VK10
    have VK10 := Aside0.mk vk_
    have HNK := Aside0.mk hnk
    clear vk_ hnk hbl hwk
    have DP6 := Aside0.mk (show D.drop (pj + (p1 + 4 + 1 + 2 + 2 + e.f7.size)) = (if wh = true then e32 e.f5 else []) ++ R.flatMap Chunk.bytes from by have h1 := drop_app (n := e.f7.size) DP5.out (bytesOf_length _); rwa [Nat.add_assoc] at h1)
    go_upto_region 48 with fail
    have i_ := (In.set I10.out K10.out (by decide) (Nat.le_trans (Nat.le_refl _) HGB.out) 8 (.slice A8 nk c8))
    have q_ := (Box.puts (cs' := #[Value.int .i16 e.f1.length, .string e.f0, .slice A2 e.f1.length c2, .int .i32 e.f2, .int .i64 e.f3, .bool true, .int .u8 e.f4, .int .i32 e.f6, .slice A8 nk c8, .int .u32 0]) K10.out 8 (.slice A8 nk c8) rfl)
    have v_ := (row_set VC10.out K10.out (by decide) 8 (.slice A8 nk c8))
    have u_ := (row_set VK10.out K10.out (by decide) 8 (.slice A8 nk c8))
    generalize (w10.setCell ⟨gk, 8, none⟩ (.slice A8 nk c8)) = w10s at *
    have I11 := Aside0.mk i_
    have K11 := Aside0.mk q_
    have VC11 := Aside0.mk v_
    have VK11 := Aside0.mk u_
    clear i_ q_ v_ u_ I10 K10 VC10 VK10 k8_ f8_
    have c6_ := I11.out.pos.cell
    obtain ⟨p6, hp6⟩ : ∃ x, x = p1 + 4 + 1 + 2 + 2 + e.f7.size := ⟨_, rfl⟩
    rw [← hp6] at c6_
    have HP6 := Aside0.mk hp6
    have i_ := I11.out
    rw [← hp6] at i_
    clear I11
    have I11 := Aside0.mk i_
    have d6_ := DP6.out
    rw [← hp6] at d6_
    have DP6b := Aside0.mk d6_
    clear i_ hp6 d6_ DP1 DP2 DP3 DP4 DP4b DP5 DP6
    have hw6 : wrap64 ((m : Int) - p6) = (m : Int) - p6 := by have := HMP.out; have := HP6.out; unfold wrap64; split at * <;> omega
    go_upto_if 159 with fail
    go_cut [] (fun wx => ∃ (kv : Int), Aside0 ((wh = true ∧ kv = e.f5) ∨ (wh = false ∧ kv = 0)) ∧ Aside0 (In wb.heap.size wb wx gb gp w.heap.size D m) ∧ Aside0 (Box wx gk 91 #[Value.int .i16 e.f1.length, .string e.f0, .slice A2 e.f1.length c2, .int .i32 e.f2, .int .i64 e.f3, .bool true, .int .u8 e.f4, .int .i32 e.f6, .slice A8 nk c8, .int .u32 kv]) ∧ Aside0 (Kd.string.R 9 wx w.heap.size (fun _ => True) (.slice A2 e.f1.length c2) e.f1) ∧ Aside0 ((Kd.int .u8).R 5 wx w.heap.size (fun _ => True) (.slice A8 nk c8) (bytesOf e.f7)))
    case first =>
      cases wh with
      | false =>
        have hpm : p6 = m := by have h1 := HMP.out; have h2 := HP6.out; rw [if_neg (by decide)] at h1; omega
        have hge : ¬ ((4 : Int) ≤ (m : Int) - p6) := by omega
        have hge2 : ((m : Int) - p6) < 4 := by omega
        go_wp2_with fail
        go_meet
        exact ⟨0, ⟨by simp⟩, ⟨hpm ▸ I11.out⟩, K11, VC11, VK11⟩
      | true =>
        have hpm : p6 + 4 = m := by have h1 := HMP.out; have h2 := HP6.out; rw [if_pos rfl] at h1; omega
        have hge : ((4 : Int) ≤ (m : Int) - p6) := by omega
        have hge2 : ¬ (((m : Int) - p6) < 4) := by omega
        have DP7 := Aside0.mk (show D.drop (pj + p6) = e32 e.f5 ++ R.flatMap Chunk.bytes from DP6b.out)
        go_wp2_with fail
        have h1 := readInt32_e gb gp w.heap.size pj m (D.length - pj) p6 D _ e.f5 w10s HL.out I11.out.src I11.out.pos (by have := HQL.out; omega) (by omega) (by have := HQL.out; omega) (by have := HE.out.1.ver; omega) HE.out.1.ver.2 DP7.out
        have hw9 := u32_wrap32 (v := e.f5) (by have := HE.out.1.ver; omega) HE.out.1.ver.2
        obtain ⟨y9, hy9⟩ : ∃ y, y = wrap32 e.f5 := ⟨_, rfl⟩
        rw [← hy9] at hw9 h1
        clear hy9
        with_reducible refine h1.mono ?_
        clear h1
        rintro e_ w12 ⟨rfl, hg, hp1⟩
        have I12 := Aside0.mk (I11.out.call hg hp1)
        have K12 := Aside0.mk (K11.out.call I11.out.pos (by decide) hg)
        have VC12 := Aside0.mk (row_call VC11.out I11.out.pos (by decide) hg)
        have VK12 := Aside0.mk (row_call VK11.out I11.out.pos (by decide) hg)
        have k9_ := K12.out.cell 9 (.int .u32 0) rfl
        have f9_ := K12.out.free 9
        clear hg hp1
        go_wp2_with fail
        go_meet
        exact ⟨e.f5, ⟨by simp⟩, ⟨hpm ▸ In.set I12.out K12.out (by decide) HGB.out 9 (.int .u32 e.f5)⟩, ⟨Box.puts K12.out 9 (.int .u32 e.f5) rfl⟩, ⟨row_set VC12.out K12.out (by decide) 9 (.int .u32 e.f5)⟩, ⟨row_set VK12.out K12.out (by decide) 9 (.int .u32 e.f5)⟩⟩
    clear I11 K11 VC11 VK11 c6_ DP6b hw6
    obtain ⟨kv, HKV, I12, K12, VC12, VK12⟩ := hcut
    generalize wc = w12 at *
    have k9_ := K12.out.cell 9 (.int .u32 kv) rfl
    go_upto_if 173 with fail
    go_cut [] (fun wx => Aside0 (In wb.heap.size wb wx gb gp w.heap.size D m) ∧ Aside0 (Box wx gk 91 #[Value.int .i16 e.f1.length, .string e.f0, .slice A2 e.f1.length c2, .int .i32 e.f2, .int .i64 e.f3, .bool true, .int .u8 e.f4, .int .i32 e.f6, .slice A8 nk c8, .int .u32 e.f5]) ∧ Aside0 (Kd.string.R 9 wx w.heap.size (fun _ => True) (.slice A2 e.f1.length c2) e.f1) ∧ Aside0 ((Kd.int .u8).R 5 wx w.heap.size (fun _ => True) (.slice A8 nk c8) (bytesOf e.f7)))
    case first =>
      have hver := HE.out.1.ver.1
      rcases HKV.out with ⟨rfl, rfl⟩ | ⟨rfl, rfl⟩
      · have hz : (e.f5 == 0) = false := by simp; omega
        have hz2 : ¬ (e.f5 = 0) := by omega
        go_wp2_with fail
        go_meet
        exact ⟨I12, K12, VC12, VK12⟩
      · have hs := HE.out.2 rfl
        have hk6 := K12.out.cell 6 (.int .u8 e.f4) rfl
        have f9_ := K12.out.free 9
        have hwu : IntKind.u32.wrap e.f4 = e.f5 := by rw [← hs, IntKind.wrap_u32]; have := HE.out.1.ver; omega
        go_wp2_with fail
        go_meet
        exact ⟨⟨In.set I12.out K12.out (by decide) HGB.out 9 (.int .u32 e.f4)⟩, ⟨Box.puts K12.out 9 (.int .u32 e.f4) (by rw [hs]; rfl)⟩, ⟨row_set VC12.out K12.out (by decide) 9 (.int .u32 e.f4)⟩, ⟨row_set VK12.out K12.out (by decide) 9 (.int .u32 e.f4)⟩⟩
    clear I12 K12 VC12 VK12 HKV k9_
    obtain ⟨I13, K13, VC13, VK13⟩ := hcut
    generalize wc = w13 at *
    obtain ⟨wx, hwx⟩ : ∃ x, x = w13.drew := ⟨_, rfl⟩
    have hbx : Below w13.heap.size w13 wx := hwx ▸ below_drew (Below.refl _ _)
    have KX := Aside0.mk (K13.out.below hbx)
    have TX := Aside0.mk ((TTb.out.below I13.out.low).below hbx)
    have VX := Aside0.mk (Kd.R_below (Kd.R_below VTb.out I13.out.low) hbx)
    have ITX := Aside0.mk ((ITb.out.below I13.out.low).below hbx)
    have HSZ := Aside0.mk (show w.heap.size ≤ wx.heap.size from Nat.le_trans ZTb.out (Nat.le_trans I13.out.low.size hbx.size))
    have HMM := Aside0.mk (show k91.M wx w.heap.size (fun k_ => True ∧ some k_ ≠ (Value.slice A n cc).ownBlock) (pe e) [Value.int .i16 e.f1.length, .string e.f0, .slice A2 e.f1.length c2, .int .i32 e.f2, .int .i64 e.f3, .bool true, .int .u8 e.f4, .int .i32 e.f6, .slice A8 nk c8, .int .u32 e.f5] from k91_mkM wx w.heap.size _ (pe e) (Kd.R_apart' (Kd.R_below VC13.out hbx) (Kd.R_typed VX.out) (by decide)) (Kd.R_apart' (Kd.R_below VK13.out hbx) (Kd.R_typed VX.out) (by decide)))
    have HLE := Aside0.mk (show ((done.flatMap Chunk.out).length + 1) * 120 ≤ 140737488355328 from by have h1 := out_len done; have h2 := HCL.out; have h3 := congrArg List.length HK.out.2; rw [h3] at h2; simp at h2; omega)
    obtain ⟨acc, hacc⟩ : ∃ a, a = done.flatMap Chunk.out := ⟨_, rfl⟩
    have vx_ := VX.out
    have le_ := HLE.out
    rw [← hacc] at vx_ le_
    have VXa := Aside0.mk vx_
    have HLEa := Aside0.mk le_
    obtain ⟨acc1, hacc1⟩ : ∃ a, a = (done ++ [Chunk.entry e wh]).flatMap Chunk.out := ⟨_, rfl⟩
    have HAA := Aside0.mk (show acc ++ [pe e] = acc1 from by rw [hacc, hacc1]; exact HOUT.out)
    have HAC := Aside0.mk hacc1
    have HSX := Aside0.mk (show ∀ W' : World, Below wx.heap.size wx W' → (W'.cell? ⟨gt, 1, none⟩ = some (.slice A n cc) ∧ W'.heap[gk]? = some (.cells #[Value.int .i16 e.f1.length, .string e.f0, .slice A2 e.f1.length c2, .int .i32 e.f2, .int .i64 e.f3, .bool true, .int .u8 e.f4, .int .i32 e.f6, .slice A8 nk c8, .int .u32 e.f5] 91 (0, 0))) from fun W' hb => ⟨(TX.out.below hb).cell 1 _ rfl, KX.out.below hb⟩)
    clear hbx vx_ le_ hacc hacc1 VX HLE I13 K13 VC13 VK13 ITb VTb TTb ZTb
    go_upto_region 55 with fail
    refine start_ (n := 11) (S := fun w' => w'.cell? ⟨gt, 1, none⟩ = some (.slice A n cc) ∧ w'.heap[gk]? = some (.cells #[Value.int .i16 e.f1.length, .string e.f0, .slice A2 e.f1.length c2, .int .i32 e.f2, .int .i64 e.f3, .bool true, .int .u8 e.f4, .int .i32 e.f6, .slice A8 nk c8, .int .u32 e.f5] 91 (0, 0))) (ds := [7, 10]) #[false, false, false, false, false, false, false, false, false, false, false] (by kernel_rfl) rfl rfl ⟨(hwx ▸ (HSX.out _ (Below.refl _ _)).1), (hwx ▸ (HSX.out _ (Below.refl _ _)).2)⟩ (fun hHeld => ?_)
    rw [← hwx] at hHeld ⊢
    clear hwx
    refine pure_ (i := 0) (N := some 178) (v := ?_) (a' := ?_) #[true, false, false, false, false, false, false, false, false, false, false] rfl rfl (by kernel_rfl) (fun _ _ _ h => h) (Or.inl ⟨by rfl, ?_⟩) ?_ ?_
    rotate_left
    · intro w'
      go_simp
      with_reducible rfl
    rotate_left
    · simp only [Act.put, List.setIfInBounds_toArray, List.set_cons_zero, List.set_cons_succ, i64_w, i32_w]
      rfl
    refine pure_ (i := 1) (N := some 179) (v := ?_) (a' := ?_) #[true, true, false, false, false, false, false, false, false, false, false] rfl rfl (by kernel_rfl) (fun _ _ _ h => h) (Or.inl ⟨by rfl, ?_⟩) ?_ ?_
    rotate_left
    · intro w'
      go_simp
      with_reducible rfl
    rotate_left
    · simp only [Act.put, List.setIfInBounds_toArray, List.set_cons_zero, List.set_cons_succ, i64_w, i32_w]
      rfl
    refine pure_ (i := 2) (N := some 180) (v := ?_) (a' := ?_) #[true, true, true, false, false, false, false, false, false, false, false] rfl rfl (by kernel_rfl) (fun _ _ _ h => h) (Or.inl ⟨by rfl, ?_⟩) ?_ ?_
    rotate_left
    · intro w'
      go_simp
      with_reducible rfl
    rotate_left
    · simp only [Act.put, List.setIfInBounds_toArray, List.set_cons_zero, List.set_cons_succ, i64_w, i32_w]
      rfl
    refine pure_ (i := 3) (N := some 181) (v := ?_) (a' := ?_) #[true, true, true, true, false, false, false, false, false, false, false] rfl rfl (by kernel_rfl) (fun _ _ _ h => h) (Or.inl ⟨by rfl, ?_⟩) ?_ ?_
    rotate_left
    · intro w'
      go_simp
      with_reducible rfl
    rotate_left
    · simp only [Act.put, List.setIfInBounds_toArray, List.set_cons_zero, List.set_cons_succ, i64_w, i32_w]
      rfl
    refine take_ (i := 4) (N := some 182) (v := ?_) (a' := ?_) #[true, true, true, true, true, false, false, false, false, false, false] rfl rfl (by kernel_rfl) (fun _ _ _ h => h) (Or.inl ⟨by rfl, ?_⟩) hHeld ?_ ?_
    rotate_left
    · rintro w' ⟨s0, s1⟩
      go_simp
      with_reducible rfl
    rotate_left
    · simp only [Act.put, List.setIfInBounds_toArray, List.set_cons_zero, List.set_cons_succ, i64_w, i32_w]
      rfl
    refine take_ (i := 5) (N := some 183) (v := ?_) (a' := ?_) #[true, true, true, true, true, true, false, false, false, false, false] rfl rfl (by kernel_rfl) (fun _ _ _ h => h) (Or.inl ⟨by rfl, ?_⟩) hHeld ?_ ?_
    rotate_left
    · rintro w' ⟨s0, s1⟩
      refine row_run 91 (.tmp 10) gk 91 #[Value.int .i16 e.f1.length, .string e.f0, .slice A2 e.f1.length c2, .int .i32 e.f2, .int .i64 e.f3, .bool true, .int .u8 e.f4, .int .i32 e.f6, .slice A8 nk c8, .int .u32 e.f5] _ ?ho ?hx s1 ?hq Try.underlying91 ?hi; (case ho => rfl); (case hx => rfl); (case hq => rfl); (case hi => exact info91)
    rotate_left
    · simp only [Act.put, List.setIfInBounds_toArray, List.set_cons_zero, List.set_cons_succ, i64_w, i32_w]
      rfl
    refine one_ (i := 6) (N := some 184) #[true, true, true, true, true, true, true, false, false, false, false] rfl rfl (by kernel_rfl) (by decide) (fun K hK => ?_)
    refine value_ (w1 := ?_) (v := ?_) (by rfl) rfl ?_ ?_
    rotate_left 2
    · go_simp
      constructor
      · rfl
      · rfl
    refine hK.out _ _ ⟨(HSX.out _ (below_alloc (Below.refl _ _) _)).1, (HSX.out _ (below_alloc (Below.refl _ _) _)).2⟩ (fun hHeld => ?_)
    clear hK K
    refine norm_ (a' := ?_) ?_ ?_
    rotate_left
    · show Act.put _ (some 184) _ = _
      simp only [Act.put, List.setIfInBounds_toArray, List.set_cons_zero, List.set_cons_succ, i64_w, i32_w]
      rfl
    refine last_ (i := 7) (N := some 185) #[true, true, true, true, true, true, true, true, false, false, false] rfl rfl (by kernel_rfl) (by decide) (fun K hK => ?_)
    refine Kd.R_append_step k91 (w0 := wx) w.heap.size (by rfl) (.tmp 182) (.tmp 184) 72 91 (.agg entry0) 120 (by rfl) Try.underlying72 info91z rfl (by decide) (by decide) (.slice A n cc) acc (pe e) [Value.int .i16 e.f1.length, .string e.f0, .slice A2 e.f1.length c2, .int .i32 e.f2, .int .i64 e.f3, .bool true, .int .u8 e.f4, .int .i32 e.f6, .slice A8 nk c8, .int .u32 e.f5] (fun _ => True) (fun k_ => True ∧ some k_ ≠ (Value.slice A n cc).ownBlock) (by rfl) (by rfl) HMM.out (fun _ h => h) (fun _ _ => trivial) VXa.out (Below.refl _ _) HSZ.out HLEa.out ?_
    intro v9 w9 hv9 hb9 hg9 hat9
    rw [HAA.out] at hv9
    obtain ⟨A9, c9, ev9⟩ := Kd.R_slice hv9
    obtain ⟨n9, hn9⟩ : ∃ x, x = acc1.length := ⟨_, rfl⟩
    rw [← hn9] at ev9
    subst ev9
    have IT9 := Aside0.mk (ITX.out.row VXa.out (by decide) HBB.out.2 hg9)
    have TT9 := Aside0.mk (TX.out.row VXa.out (by decide) hg9)
    have VT9 := Aside0.mk hv9
    have ZT9 := Aside0.mk (Nat.le_trans HSZ.out hg9.size)
    clear hv9 hb9 hg9 hat9 hn9
    refine hK.out _ _ ?_
    clear hK K
    refine norm_ (a' := ?_) ?_ ?_
    rotate_left
    · show Act.put _ (some 185) _ = _
      simp only [Act.put, List.setIfInBounds_toArray, List.set_cons_zero, List.set_cons_succ, i64_w, i32_w]
      rfl
    refine pure_ (i := 8) (N := some 186) (v := ?_) (a' := ?_) #[true, true, true, true, true, true, true, true, true, false, false] rfl rfl (by kernel_rfl) (fun _ _ _ h => h) (Or.inl ⟨by rfl, ?_⟩) ?_ ?_
    rotate_left
    · intro w'
      go_simp
      with_reducible rfl
    rotate_left
    · simp only [Act.put, List.setIfInBounds_toArray, List.set_cons_zero, List.set_cons_succ, i64_w, i32_w]
      rfl
    refine pure_ (i := 9) (N := some 187) (v := ?_) (a' := ?_) #[true, true, true, true, true, true, true, true, true, true, false] rfl rfl (by kernel_rfl) (fun _ _ _ h => h) (Or.inl ⟨by rfl, ?_⟩) ?_ ?_
    rotate_left
    · intro w'
      go_simp
      with_reducible rfl
    rotate_left
    · simp only [Act.put, List.setIfInBounds_toArray, List.set_cons_zero, List.set_cons_succ, i64_w, i32_w]
      rfl
    refine last_ (i := 10) (N := none) #[true, true, true, true, true, true, true, true, true, true, true] rfl rfl (by kernel_rfl) (by decide) (fun K hK => ?_)
    have c2_ := TT9.out.cell 1 (.slice A n cc) rfl
    have f2_ := TT9.out.free 1
    refine skip_ (w1 := ?_) (by rfl) rfl ?_ ?_
    rotate_left
    · go_simp
      rfl
    clear c2_ f2_
    refine hK.out _ _ ?_
    clear hK K
    refine done_ (by kernel_rfl) ?_
    
    have it := IT9.out.set TT9.out (by decide) HBB.out.1 1 (.slice A9 n9 c9)
    have tt := TT9.out.puts (cs' := #[.int .u8 2, .slice A9 n9 c9]) 1 (.slice A9 n9 c9) rfl
    have vt := row_set VT9.out TT9.out (by decide) 1 (.slice A9 n9 c9)
    have zt : w.heap.size ≤ (w9.setCell ⟨gt, 1, none⟩ (.slice A9 n9 c9)).heap.size := by simpa using ZT9.out
    generalize w9.setCell ⟨gt, 1, none⟩ (.slice A9 n9 c9) = wt at *
    rw [HAC.out] at vt
    have IT := Aside0.mk it
    have VT := Aside0.mk vt
    have TT := Aside0.mk tt
    have ZT := Aside0.mk zt
    clear it vt tt zt IT9 VT9 TT9 ZT9 HSX VXa HLEa HAA HAC HMM KX TX ITX HSZ hHeld HMP HP6 HNK HOUT
    generalize pj + m = q at *
    have c1 := IT.out.pos.cell
    have hq1 : ¬ ((q : Int) < 0) := by omega
    have hq2 : ¬ ((D.length : Int) < (q : Int)) := by have := HQL.out; omega
    have hq3 : (q : Int) ≤ (D.length : Int) := by have := HQL.out; omega
    have hq0 : (0 : Int) ≤ (q : Int) := by omega
    cases R with
    | nil =>
      have hq4 : q = D.length := by have h1 := congrArg List.length HQ.out; have := HQL.out; simp at h1; omega
      have hlq : D.length - q = 0 := by omega
      go_wp2_with fail
      go_ret
      have hv := VT.out
      rw [← HK.out.2, List.flatMap_cons] at hv
      exact ⟨rfl, _, _, _, TT.out, hv, IT.out.low⟩
    | cons c2 R2 =>
      have HC2 := Aside0.mk (Chunk.size_val (HOK.out c2 (by rw [HK.out.2]; simp)))
      have hdr : D.drop (0 + q) = e32 (IntKind.u32.wrap c2.size) ++ (c2.body ++ R2.flatMap Chunk.bytes) := by rw [Nat.zero_add, HQ.out, List.flatMap_cons, Chunk.bytes, List.append_assoc]
      have hq5 : q + 4 ≤ D.length := by have h1 := congrArg List.length hdr; have := HQL.out; simp [e32] at h1; omega
      have HDR := Aside0.mk hdr
      clear hdr
      have hq6 : ¬ ((D.length : Int) - (q : Int) < 4) := by omega
      have hq7 : ¬ (D.length - q < 4) := by omega
      have hq8 : ¬ (((D.length - q : Nat) : Int) < 4) := by omega
      go_wp2_with fail
      have q_ := u32_range c2.size
      have h1 := readInt32_e gb (w.heap.size + 1) w.heap.size 0 D.length D.length q D _ _ wt HL.out IT.out.src IT.out.pos (by omega) hq5 (Nat.le_refl _) q_.1 q_.2 HDR.out
      rw [HC2.out.1] at h1
      with_reducible refine h1.mono ?_
      clear h1 q_
      rintro e_ w9 ⟨rfl, hg, hp1⟩
      have I9 := Aside0.mk (IT.out.call hg hp1)
      have T9 := Aside0.mk (TT.out.call IT.out.pos (by decide) hg)
      have V9 := Aside0.mk (row_call VT.out IT.out.pos (by decide) hg)
      have Z9 := Aside0.mk (Nat.le_trans ZT.out hg.size)
      clear hg hp1 c1
      go_wp2_with fail
      go_roundg k1
      case rel =>
        refine ⟨c2, done ++ [Chunk.entry e wh], R2, q + 4, _, _, _, rfl, ⟨by have := HK.out.1; simp at this; omega, by rw [HK.out.2]; simp⟩, ⟨?_⟩, I9, T9, ⟨V9.out⟩, Z9⟩
        have h1 := drop_app (n := 4) HDR.out rfl
        rwa [Nat.zero_add] at h1
      case measure => omega
end Go.Proofs.Ytcbbipdiahmelaa.B

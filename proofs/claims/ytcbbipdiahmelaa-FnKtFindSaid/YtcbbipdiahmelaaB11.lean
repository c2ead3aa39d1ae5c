/- Whether a keytab of one entry is read: it is; under what each theorem states. -/
import Derived.Test.YtcbbipdiahmelaaB7
import Derived.Test.YtcbbipdiahmelaaB10
namespace Go.Proofs.Ytcbbipdiahmelaa.B
open Go.RowKit Go.Proofs.YtcbbipdiahmelaaW.PrintWords Go.Proofs.YtcbbipdiahmelaaW.PrintLast
open Go.Proofs.Ytcbbipdiahmelaa.A (S25 S91 S106 S49 k25 k25_mk k91 k106 k49 k49_open z49)
set_option linter.unusedVariables false
set_option linter.unusedSimpArgs false
set_option maxRecDepth 100000
/-- A row of one entry. -/
theorem one25 {w : World} {g : Nat} {e : S25} {A1 : Option Addr} {c1 : Nat} (hb : Box w g 25 #[.string e.f0, .slice A1 e.f1.length c1, .int .i32 e.f2, .int .i64 e.f3, .int .u8 e.f4, .int .u32 e.f5, .int .i32 e.f6, .string e.f7]) (hl : e.f1.length ≤ c1) (hn : Kd.string.C w A1 e.f1.length e.f1) : Kd.C k25 w (some ⟨g, 0, none⟩) 1 [e] := by
  refine ⟨rfl, by decide, fun _ => ⟨_, rfl, fun j p hp => ?_⟩⟩
  cases j with
  | succ j => simp at hp
  | zero =>
    obtain rfl : e = p := by simpa using hp
    refine ⟨_, rfl, k25_mk w e hl hn, fun i u hu => ?_⟩
    rw [add_at]
    have h1 := blk_cell hb (0 + (0 * k25.sz + i))
    rw [h1]
    simpa using hu
theorem chunks_data {l : List S25} {holes : List Int} {short : List Bool} (he : ∀ e ∈ l, OkE e) (hh : ∀ x ∈ holes, 0 ≤ x ∧ x < 256) : bytesOf (strOfNums (5 :: 2 :: (chunksAt holes short 0 l).flatMap Chunk.bytes)) = 5 :: 2 :: (chunksAt holes short 0 l).flatMap Chunk.bytes := by
  apply bytes_str
  intro x hx
  rcases List.mem_cons.1 hx with rfl | hx
  · decide
  rcases List.mem_cons.1 hx with rfl | hx
  · decide
  exact flat_ok (fun c hc => bytes_ok (chunksAt_ok hh he c hc)) x hx
theorem flat_size {C : List Chunk} (h : ∀ c ∈ C, c.Ok) : (C.flatMap Chunk.bytes).length ≤ 5004 * C.length := by
  induction C with
  | nil => simp
  | cons a t ih =>
    have h1 := ih fun c hc => h c (List.mem_cons_of_mem _ hc)
    have h2 := bytes_len (h a (List.mem_cons_self ..))
    rw [List.flatMap_cons, List.length_append, List.length_cons]
    omega
def out49 (e : S25) : S49 := ⟨e.f0, e.f1, e.f2, e.f3, e.f4, e.f5, e.f6, e.f7⟩
theorem outs (l : List S25) : ((l.map pe).map zz).map to49 = l.map out49 := by
  rw [List.map_map, List.map_map]
  apply List.map_congr_left
  intro e _
  simp only [Function.comp, to49, zz, pe, out49, strOf_bytesOf']
/-- A keytab of these entries is read as these. -/
theorem keytabRead_of {l : List S25} {holes : List Int} {short : List Bool} (w : World) (he : ∀ e ∈ l, OkE e) (hh : ∀ x ∈ holes, 0 ≤ x ∧ x < 256) (h0 : l.length ≠ 0) (h20 : l.length ≤ 20) :
    Calls Try.prog 12 #[.string (strOfNums (5 :: 2 :: (chunksAt holes short 0 l).flatMap Chunk.bytes))] w fun e w' => ∃ A n c, e = .returned (.tuple #[.slice A n c, .bool true]) ∧ k49.R 49 w' w.heap.size (fun _ => True) (.slice A n c) (l.map out49) ∧ Below w.heap.size w w' := by
  have hlen := chunksAt_len holes short l 0
  have hok := chunksAt_ok (short := short) (i := 0) hh he
  have := keytabRead_reads (strOfNums (5 :: 2 :: (chunksAt holes short 0 l).flatMap Chunk.bytes)) (chunksAt holes short 0 l) w (by rw [str_size]; have := flat_size hok; simp only [List.length_cons]; omega) (chunks_data he hh) (by intro h; rw [h] at hlen; simp at hlen; exact h0 (by rw [hlen]; rfl)) hok (by omega)
  rw [chunksAt_out, outs] at this
  exact this
theorem row49 {w : World} {A : Option Addr} {n : Nat} {xs : List S49} (h : Kd.C k49 w A n xs) (j : Nat) (hj : j < n) (hn : n = xs.length) : ∃ (ad : Addr) (x : S49) (A1 : Option Addr) (c1 : Nat), A = some ad ∧ xs[j]? = some x ∧
    (∀ i u, [Value.string x.f0, .slice A1 x.f1.length c1, .int .i32 x.f2, .int .i64 x.f3, .int .u8 x.f4, .int .u32 x.f5, .int .i32 x.f6, .string x.f7][i]? = some u → w.cell? ((ad.add (j * 8)).add i) = some u) ∧
    x.f1.length ≤ c1 ∧ Kd.string.C w A1 x.f1.length x.f1 := by
  obtain ⟨ad, c, e, _, hK, hc⟩ := Kd.C_get h z49 (j : Int) (by omega) (by omega)
  rw [Int.toNat_natCast] at hK hc
  obtain ⟨A1, c1, rfl, l1, g1⟩ := k49_open hK
  refine ⟨ad, xs.getD j z49, A1, c1, e, ?_, fun i u hu => by rw [add_add]; exact hc i u hu, l1, g1⟩
  rw [List.getD_eq_getElem?_getD, List.getElem?_eq_getElem (by omega)]; rfl
def e0 : S25 := ⟨⟨#[82]⟩, [⟨#[97]⟩, ⟨#[98]⟩], 1, 5, 2, 2, 18, ⟨#[107, 101, 121]⟩⟩
theorem e0_ok : OkE e0 := by
  refine ⟨?_, ?_, ?_, ⟨?_, ?_⟩, ⟨?_, ?_⟩, ⟨?_, ?_⟩, ⟨?_, ?_⟩, ⟨?_, ?_⟩, ?_⟩ <;> first | decide | (intro s hs; simp [e0] at hs; rcases hs with rfl | rfl <;> decide)
theorem bad_refused (w : World) (x y : Int) (s : ByteArray) (L : List Int) (hs : bytesOf s = x :: y :: L) (hx : x ≠ 5) (hsz : s.size ≤ 1099511627776) :
    Calls Try.prog 12 #[.string s] w fun e w' => e = .returned (.tuple #[.slice none 0 0, .bool false]) ∧ Below w.heap.size w w' := by
  refine keytabRead_refuses s w hsz fun gb gt B w1 hb ht hB hBs => ?_
  have hr := bytesOf_ok s x (by rw [hs]; simp)
  have hl := bytesOf_length s
  rw [hs] at hb hl ⊢
  exact unmarshal_first gt gb B x y L w1 hx hr.1 hr.2 (by rw [hl]; exact hsz) hb hB hBs
set_option maxHeartbeats 8000000 in
theorem ktAwake_any (w : World) : Calls Try.prog 10 #[] w fun e w' => e = .returned (.bool true) ∧ Below w.heap.size w w' := by
  go_enter Try.func10, Try.ntmps10
  go_wp2_with (first
    | ((with_reducible refine gate_dst (N := 6) rfl ?_); refine Kd.R_lit Kd.string _ 9 ?hg (N := 6) ?hd (xs := e0.f1) (inner := [.string ⟨#[97]⟩, .string ⟨#[98]⟩]) (ok := fun _ => True) (okp := fun _ => True) ?hr ?hp (fun _ hk => hk) trivial (Below.refl _ _) (Nat.le_refl _) (by decide) ?_; (case hd => rfl); (case hg => rfl); (case hr => first | (go_simp; done) | (go_simp; rfl)); (case hp => exact (Reps.one (show Kd.M Kd.string _ _ _ (⟨#[97]⟩ : ByteArray) [.string (⟨#[97]⟩ : ByteArray)] from rfl) (Reps.one (show Kd.M Kd.string _ _ _ (⟨#[98]⟩ : ByteArray) [.string (⟨#[98]⟩ : ByteArray)] from rfl) (Reps.none _ _)))); intro v1 w1 ho1 hb1 hg_ hnew_; clear hg_ hnew_; obtain ⟨A1, c1, rfl, hl1, hc1⟩ := Kd.R_reads ho1; have HC1 := Aside0.mk (And.intro hl1 hc1); have HB1 := Aside0.mk hb1; clear ho1 hb1 hl1 hc1)
    | fail)
  have BX := Box.new w1 #[.string e0.f0, .slice A1 e0.f1.length c1, .int .i32 e0.f2, .int .i64 e0.f3, .int .u8 e0.f4, .int .u32 e0.f5, .int .i32 e0.f6, .string e0.f7] 25
  have hb1 := below_alloc (Below.refl w1.heap.size w1) (.cells #[.string e0.f0, .slice A1 e0.f1.length c1, .int .i32 e0.f2, .int .i64 e0.f3, .int .u8 e0.f4, .int .u32 e0.f5, .int .i32 e0.f6, .string e0.f7] 25)
  have hcall := ktBytes_any [e0] [] [] (some ⟨w1.heap.size, 0, none⟩) none none 1 0 0 _ (by intro e he; obtain rfl := List.mem_singleton.1 he; exact e0_ok) (by decide) (by intro x hx; cases hx) (one25 BX HC1.out.1 (Kd.C_below HC1.out.2 hb1)) (Kd.C_nil _ _) (Kd.C_nil _ _)
  obtain ⟨D, hD⟩ : ∃ D, D = strOfNums (5 :: 2 :: (chunksAt [] [] 0 [e0]).flatMap Chunk.bytes) := ⟨_, rfl⟩
  rw [← hD, show [e0].length = 1 from rfl, show ([] : List Int).length = 0 from rfl, show ([] : List Bool).length = 0 from rfl] at hcall
  have HD := Aside0.mk hD
  refine hcall.mono ?_
  clear hcall hD
  rintro e w3 ⟨rfl, hb⟩
  have B3 := Aside0.mk (below_step HB1.out (below_step hb1 hb))
  clear hb hb1 BX HB1 HC1
  go_wp2_with fail
  have h2 := keytabRead_of (l := [e0]) (holes := []) (short := []) w3 (by intro e he; obtain rfl := List.mem_singleton.1 he; exact e0_ok) (by intro x hx; cases hx) (by decide) (by decide)
  rw [← HD.out] at h2
  refine h2.mono ?_
  clear h2
  rintro e w4 ⟨A4, n4, c4, rfl, hv, hb⟩
  obtain ⟨hn, hc, hC⟩ := Kd.R_reads' hv
  have B4 := Aside0.mk (below_step B3.out hb)
  obtain rfl : n4 = 1 := hn
  have HCC := Aside0.mk hC
  clear hb hv B3 hC
  go_wp2_with fail
  refine (bad_refused w4 6 2 ⟨#[6, 2]⟩ [] (by decide) (by decide) (by decide)).mono ?_
  rintro e w5 ⟨rfl, hb⟩
  have B5 := Aside0.mk (below_step B4.out hb)
  obtain ⟨ad, x, X1, d1, rfl, hx, hcells, _, _⟩ := row49 (Kd.C_below HCC.out hb) 0 (by decide) rfl
  obtain rfl : out49 e0 = x := by simpa using hx
  have q0 : w5.cell? (ad.add 0) = some (.string ⟨#[82]⟩) := by have := hcells 0 _ rfl; rwa [Nat.zero_mul, add_add] at this
  have q1 : w5.cell? ⟨ad.block, ad.off + 1, none⟩ = some (.slice X1 2 d1) := by have := hcells 1 _ rfl; rw [Nat.zero_mul, add_add, Addr.add, if_neg (by decide)] at this; exact this
  have q5 : w5.cell? ⟨ad.block, ad.off + 5, none⟩ = some (.int .u32 2) := by have := hcells 5 _ rfl; rw [Nat.zero_mul, add_add, Addr.add, if_neg (by decide)] at this; exact this
  have q7 : w5.cell? ⟨ad.block, ad.off + 7, none⟩ = some (.string ⟨#[107, 101, 121]⟩) := by have := hcells 7 _ rfl; rw [Nat.zero_mul, add_add, Addr.add, if_neg (by decide)] at this; exact this
  have q0' : w5.cell? ad = some (.string ⟨#[82]⟩) := q0
  have e4 : (⟨#[82]⟩ : ByteArray).toList = [82] := by first | decide | rfl | decide +kernel | simp [ByteArray.toList, ByteArray.toList.loop]
  have e5 : (⟨#[107, 101, 121]⟩ : ByteArray).toList = [107, 101, 121] := by first | decide | rfl | decide +kernel | simp [ByteArray.toList, ByteArray.toList.loop]
  clear hb hcells hx B4 HCC
  go_wp2
  go_ret
  exact ⟨rfl, B5.out⟩
end Go.Proofs.Ytcbbipdiahmelaa.B

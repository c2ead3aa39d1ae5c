/- A principal is read: its realm, its names and its type; under what each theorem states. Written by a program of this session. -/
import Derived.Test.YtcbbipdiahmelaaB2
import Derived.Test.YtcbbipdiahmelaaE0
namespace Go.Proofs.Ytcbbipdiahmelaa.B
open Go.RowKit Go.Proofs.YtcbbipdiahmelaaW.PrintWords Go.Proofs.YtcbbipdiahmelaaW.PrintLast
set_option linter.unusedVariables false
set_option linter.unusedSimpArgs false
set_option maxRecDepth 100000
/-! ### What a walk through the readers of an entry holds -/
structure In (B : Nat) (w0 w : World) (gb gp ge : Nat) (l : List Int) (p : Nat) : Prop where
  src : Src w gb ge l
  pos : Pos w gp p
  low : Below B w0 w
  size : B ≤ w.heap.size
  hp : B ≤ gp
theorem low_grown {B : Nat} {w0 w w' : World} {row : Option Nat} (h : Below B w0 w) (hs : B ≤ w.heap.size) (hg : w.grownBy w' row) (hr : ∀ j, row = some j → B ≤ j) : Below B w0 w' :=
  ⟨hg.os.trans h.os, hg.tape.trans h.tape, hg.output.trans h.output, Nat.le_trans h.size hg.size, fun k hk => (hg.block k (Nat.lt_of_lt_of_le hk hs) (fun e => by have := hr k e.symm; omega)).trans (h.block k hk)⟩
theorem low_below {B : Nat} {w0 w w' : World} (h : Below B w0 w) (hs : B ≤ w.heap.size) (hb : Below w.heap.size w w') : Below B w0 w' :=
  ⟨hb.os.trans h.os, hb.tape.trans h.tape, hb.output.trans h.output, Nat.le_trans h.size hb.size, fun k hk => (hb.block k (Nat.lt_of_lt_of_le hk hs)).trans (h.block k hk)⟩
theorem low_set {B : Nat} {w0 w : World} (h : Below B w0 w) {g : Nat} (hg : B ≤ g) (i : Nat) (v : Value) : Below B w0 (w.setCell ⟨g, i, none⟩ v) :=
  ⟨h.os, h.tape, h.output, by simpa using h.size, fun k hk => (Below.heap_setCell _ _ _ _ (by show k ≠ g; omega)).trans (h.block k hk)⟩
section
variable {α : Type} {d : Kd α} {B : Nat} {w0 w w' : World} {gb gp ge p p' g t e base : Nat} {l : List Int} {cs : Array Value} {v : Value} {xs : List α} {ok : Nat → Prop}
theorem In.call (h : In B w0 w gb gp ge l p) (hg : w.grownBy w' (some gp)) (hp : Pos w' gp p') : In B w0 w' gb gp ge l p' :=
  ⟨h.src.grown h.pos hg, hp, low_grown h.low h.size hg (fun j hj => by injection hj with e; subst e; exact h.hp), Nat.le_trans h.size hg.size, h.hp⟩
theorem In.below (h : In B w0 w gb gp ge l p) (hb : Below w.heap.size w w') : In B w0 w' gb gp ge l p := ⟨h.src.below hb, h.pos.below hb, low_below h.low h.size hb, Nat.le_trans h.size hb.size, h.hp⟩
theorem In.alloc (h : In B w0 w gb gp ge l p) (o : Obj) : In B w0 (w.alloc o) gb gp ge l p := h.below (below_alloc (Below.refl _ _) _)
theorem In.drew (h : In B w0 w gb gp ge l p) : In B w0 w.drew gb gp ge l p := h.below (below_drew (Below.refl _ _))
theorem In.set (h : In B w0 w gb gp ge l p) (hb : Box w g t cs) (ht : t ≠ 3 ∧ t ≠ 5 ∧ t ≠ 77) (hg : B ≤ g) (i : Nat) (v : Value) : In B w0 (w.setCell ⟨g, i, none⟩ v) gb gp ge l p :=
  ⟨h.src.set hb ht.2.1 ht.2.2, h.pos.set hb ht.1, low_set h.low hg i v, by simpa using h.size, h.hp⟩
theorem In.row (h : In B w0 w gb gp ge l p) (hR : d.R e w base ok v xs) (ht : e ≠ 3 ∧ e ≠ 5 ∧ e ≠ 77) (hb : B ≤ base) (hg : w.grownBy w' v.ownBlock) : In B w0 w' gb gp ge l p :=
  ⟨⟨blk_grown h.src.row hg (Kd.R_ne hR h.src.row ht.2.1), blk_grown h.src.order hg (Kd.R_ne hR h.src.order ht.2.2)⟩, blk_grown h.pos hg (Kd.R_ne hR h.pos ht.1),
    low_grown h.low h.size hg (fun j hj => Nat.le_trans hb (Kd.R_base hR j hj)), Nat.le_trans h.size hg.size, h.hp⟩
theorem Box.row (h : Box w g t cs) (hR : d.R e w base ok v xs) (ht : e ≠ t) (hg : w.grownBy w' v.ownBlock) : Box w' g t cs := blk_grown h hg (Kd.R_ne hR h ht)
theorem Box.drew (h : Box w g t cs) : Box w.drew g t cs := h
end
/-! ### The bytes of a principal -/
def e16 (v : Int) : List Int := [v / 256 % 256, v % 256]
def e32 (v : Int) : List Int := [v / 16777216 % 256, v / 65536 % 256, v / 256 % 256, v % 256]
theorem e16_val {v : Int} (h0 : 0 ≤ v) (h1 : v < 65536) : v / 256 % 256 * 256 + v % 256 = v := by omega
theorem e32_val {v : Int} (h0 : 0 ≤ v) (h1 : v < 4294967296) : v / 16777216 % 256 * 16777216 + (v / 65536 % 256 * 65536 + (v / 256 % 256 * 256 + v % 256)) = v := by omega
/-- A text behind its number of bytes. -/
def cnt16 (s : ByteArray) : List Int := e16 s.size ++ bytesOf s
theorem cnt16_len (s : ByteArray) : (cnt16 s).length = 2 + s.size := by simp [cnt16, e16, bytesOf_length]; omega
def prinB (realm : ByteArray) (names : List ByteArray) (nt : Int) : List Int := e16 names.length ++ (cnt16 realm ++ (names.flatMap cnt16 ++ e32 (IntKind.u32.wrap nt)))
theorem wrap16_small {v : Int} (h0 : 0 ≤ v) (h1 : v < 32768) : IntKind.i16.wrap v = v := IntWalk.i16_in _ (by omega)
theorem wrap32_u32 {v : Int} (h0 : -2147483648 ≤ v) (h1 : v < 2147483648) : wrap32 (IntKind.u32.wrap v) = v := by rw [IntKind.wrap_u32]; unfold wrap32; omega
theorem u32_range (v : Int) : 0 ≤ IntKind.u32.wrap v ∧ IntKind.u32.wrap v < 4294967296 := by rw [IntKind.wrap_u32]; omega
theorem drop_app {D X Y : List Int} {q n : Nat} (h : D.drop q = X ++ Y) (hn : X.length = n) : D.drop (q + n) = Y := by
  rw [← List.drop_drop, h, List.drop_left' hn]
/-- Two bytes stand here: the number, and what is behind. -/
theorem readInt16_e (gb gp ge o m c p : Nat) (D rest : List Int) (v : Int) (w : World) (hl : okBytes D) (hs : Src w gb ge D) (hp : Pos w gp p) (hom : o + m ≤ D.length) (hpm : p + 2 ≤ m) (hmc : m ≤ c) (h0 : 0 ≤ v) (h1 : v < 65536) (hD : D.drop (o + p) = e16 v ++ rest) :
    Calls Try.prog 42 #[.slice (some ⟨gb, o, none⟩) m c, .pointer (some ⟨gp, 0, none⟩), .pointer (some ⟨ge, 0, none⟩)] w fun e w' => e = .returned (.tuple #[.int .i16 (IntKind.i16.wrap v), .nilIface]) ∧ w.grownBy w' (some gp) ∧ Pos w' gp (p + 2) := by
  have := readInt16_at gb gp ge o m c p D rest _ _ w hl hs hp hom hpm hmc hD
  rwa [e16_val h0 h1] at this
theorem readInt32_e (gb gp ge o m c p : Nat) (D rest : List Int) (v : Int) (w : World) (hl : okBytes D) (hs : Src w gb ge D) (hp : Pos w gp p) (hom : o + m ≤ D.length) (hpm : p + 4 ≤ m) (hmc : m ≤ c) (h0 : 0 ≤ v) (h1 : v < 4294967296) (hD : D.drop (o + p) = e32 v ++ rest) :
    Calls Try.prog 37 #[.slice (some ⟨gb, o, none⟩) m c, .pointer (some ⟨gp, 0, none⟩), .pointer (some ⟨ge, 0, none⟩)] w fun e w' => e = .returned (.tuple #[.int .i32 (wrap32 v), .nilIface]) ∧ w.grownBy w' (some gp) ∧ Pos w' gp (p + 4) := by
  have := readInt32_at gb gp ge o m c p D rest _ _ _ _ w hl hs hp hom hpm hmc hD
  rwa [e32_val h0 h1] at this
theorem readTimestamp_e (gb gp ge o m c p : Nat) (D rest : List Int) (v : Int) (w : World) (hl : okBytes D) (hs : Src w gb ge D) (hp : Pos w gp p) (hom : o + m ≤ D.length) (hpm : p + 4 ≤ m) (hmc : m ≤ c) (h0 : 0 ≤ v) (h1 : v < 4294967296) (hD : D.drop (o + p) = e32 v ++ rest) :
    Calls Try.prog 40 #[.slice (some ⟨gb, o, none⟩) m c, .pointer (some ⟨gp, 0, none⟩), .pointer (some ⟨ge, 0, none⟩)] w fun e w' => e = .returned (.tuple #[.agg #[.int .i64 (wrap32 v), .bool true], .nilIface]) ∧ w.grownBy w' (some gp) ∧ Pos w' gp (p + 4) := by
  have := readTimestamp_at gb gp ge o m c p D rest _ _ _ _ w hl hs hp hom hpm hmc hD
  rwa [e32_val h0 h1] at this
theorem info9 : (Try.prog.info? 9).map (fun i => (i.zero, i.size, i.bytes)) = some (some (.string ⟨#[]⟩), 1, 16) := by kernel_rfl
theorem strOf_bytesOf' (s : ByteArray) : strOfNums (bytesOf s) = s := by
  unfold strOfNums bytesOf
  rw [List.map_map]
  have : ((fun n : Int => UInt8.ofNat n.toNat) ∘ fun b : UInt8 => (b.toNat : Int)) = id := by
    funext b
    simp
  rw [this, List.map_id]
set_option maxHeartbeats 8000000 in
theorem parsePrincipal_at (gb gp ge gk gt o m c p B : Nat) (D rest : List Int) (realm : ByteArray) (names : List ByteArray) (nt : Int) (ks : Array Value) (v4 v5 v6 v7 v8 v9 : Value) (w : World) (hl : okBytes D) (hi : In B w w gb gp ge D p) (hom : o + m ≤ D.length) (hpm : p + (prinB realm names nt).length ≤ m) (hmc : m ≤ c) (hc1 : c ≤ 1099511627776)
    (hk : Box w gk 91 #[.int .i16 0, .string ⟨#[]⟩, .slice none 0 0, .int .i32 0, v4, v5, v6, v7, v8, v9]) (hgk : B ≤ gk) (ht : Box w gt 74 ks) (hver : ks[0]? = some (.int .u8 2))
    (hr : realm.size ≤ 200) (hn : names.length ≤ 8) (hns : ∀ s ∈ names, s.size ≤ 200) (hnt : -2147483648 ≤ nt ∧ nt < 2147483648)
    (hD : D.drop (o + p) = prinB realm names nt ++ rest) :
    Calls Try.prog 39 #[.slice (some ⟨gb, o, none⟩) m c, .pointer (some ⟨gp, 0, none⟩), .pointer (some ⟨gt, 0, none⟩), .pointer (some ⟨gk, 0, none⟩), .pointer (some ⟨ge, 0, none⟩)] w fun e w' => ∃ A cc, e = .returned .nilIface ∧ Box w' gk 91 #[.int .i16 names.length, .string realm, .slice A names.length cc, .int .i32 nt, v4, v5, v6, v7, v8, v9] ∧ Kd.string.R 9 w' w.heap.size (fun _ => True) (.slice A names.length cc) names ∧ In B w w' gb gp ge D (p + (prinB realm names nt).length) := by
  have hlen : (prinB realm names nt).length = 2 + (2 + realm.size + ((names.flatMap cnt16).length + 4)) := by simp [prinB, e16, e32, cnt16_len]; omega
  have hD1 : D.drop (o + p) = e16 names.length ++ (cnt16 realm ++ (names.flatMap cnt16 ++ (e32 (IntKind.u32.wrap nt) ++ rest))) := by rw [hD]; simp [prinB]
  have hD2 : D.drop (o + (p + 2)) = e16 realm.size ++ (bytesOf realm ++ (names.flatMap cnt16 ++ (e32 (IntKind.u32.wrap nt) ++ rest))) := by
    rw [show o + (p + 2) = o + p + 2 from by omega, drop_app (n := 2) hD1 rfl]; simp [cnt16]
  have hD3 : D.drop (o + (p + 2 + 2)) = bytesOf realm ++ (names.flatMap cnt16 ++ (e32 (IntKind.u32.wrap nt) ++ rest)) := by
    rw [show o + (p + 2 + 2) = o + (p + 2) + 2 from by omega, drop_app (n := 2) hD2 rfl]
  have hD4 : D.drop (o + (p + 2 + 2 + realm.size)) = names.flatMap cnt16 ++ (e32 (IntKind.u32.wrap nt) ++ rest) := by
    rw [show o + (p + 2 + 2 + realm.size) = o + (p + 2 + 2) + realm.size from by omega, drop_app hD3 (bytesOf_length _)]
  rw [hlen] at hpm ⊢
  have HL := Aside0.mk hl
  have HOM := Aside0.mk hom
  have HPM := Aside0.mk hpm
  have HMC := Aside0.mk (And.intro hmc hc1)
  have HV := Aside0.mk hver
  have HR := Aside0.mk hr
  have HNS := Aside0.mk hns
  have HNT := Aside0.mk hnt
  have HGK := Aside0.mk hgk
  have D1 := Aside0.mk hD1
  have D2 := Aside0.mk hD2
  have D3 := Aside0.mk hD3
  have D4 := Aside0.mk hD4
  have I0 := Aside0.mk hi
  have HBW := Aside0.mk (And.intro trivial (And.intro trivial hi.size))
  have K0 := Aside0.mk hk
  have T0 := Aside0.mk ht
  have hwn : IntKind.i16.wrap (names.length : Int) = names.length := wrap16_small (by omega) (by omega)
  have hwr : IntKind.i16.wrap (realm.size : Int) = realm.size := wrap16_small (by omega) (by omega)
  have HWN := Aside0.mk hwn
  have HWR := Aside0.mk hwr
  have HN := Aside0.mk hn
  have hgkl : gk < w.heap.size := hk.lt
  have hgtl : gt < w.heap.size := ht.lt
  have hu91 := Try.underlying91
  have hu87 := Try.underlying87
  have hu74 := Try.underlying74
  clear hl hi hom hpm hmc hc1 hk ht hgk hver hr hns hnt hD hD1 hD2 hD3 hD4 hlen hwn hwr
  go_enter Try.func39, Try.ntmps39
  go_wp2_with fail
  have h1 := readInt16_e gb gp ge o m c p D _ _ w HL.out I0.out.src I0.out.pos HOM.out (by have := HPM.out; omega) HMC.out.1 (by omega) (by omega) D1.out
  rw [HWN.out] at h1
  with_reducible refine h1.mono ?_
  clear h1
  rintro e w1 ⟨rfl, hg, hp1⟩
  have I1 := Aside0.mk (I0.out.call hg hp1)
  have K1 := Aside0.mk (K0.out.call I0.out.pos (by decide) hg)
  have T1 := Aside0.mk (T0.out.call I0.out.pos (by decide) hg)
  have HG1 := Aside0.mk hg
  clear hg hp1
  have c0 := K1.out.cell 0 _ rfl
  have f0 := K1.out.free 0
  have d0 := T1.out.cell 0 _ HV.out
  have hneq := T1.out.ne K1.out (by decide)
  go_wp2_with fail
  have I2 := Aside0.mk (I1.out.set K1.out (by decide) HGK.out 0 (.int .i16 names.length))
  have K2 := Aside0.mk (K1.out.puts (cs' := #[.int .i16 names.length, .string ⟨#[]⟩, .slice none 0 0, .int .i32 0, v4, v5, v6, v7, v8, v9]) 0 (.int .i16 names.length) rfl)
  have T2 := Aside0.mk (T1.out.far hneq 0 (.int .i16 names.length))
  have Z2 := Aside0.mk (show w.heap.size ≤ (w1.setCell ⟨gk, 0, none⟩ (.int .i16 names.length)).heap.size from by simpa using HG1.out.size)
  clear c0 f0 d0 K1 T1 I1 HG1
  generalize w1.setCell ⟨gk, 0, none⟩ (.int .i16 names.length) = w2 at *
  clear w1
  have h1 := readInt16_e gb gp ge o m c (p + 2) D _ _ w2 HL.out I2.out.src I2.out.pos HOM.out (by have := HPM.out; omega) HMC.out.1 (by omega) (by have := HR.out; omega) D2.out
  rw [HWR.out] at h1
  with_reducible refine h1.mono ?_
  clear h1
  rintro e w3 ⟨rfl, hg, hp1⟩
  have I3 := Aside0.mk (I2.out.call hg hp1)
  have K3 := Aside0.mk (K2.out.call I2.out.pos (by decide) hg)
  have T3 := Aside0.mk (T2.out.call I2.out.pos (by decide) hg)
  have Z3 := Aside0.mk (Nat.le_trans Z2.out hg.size)
  clear hg hp1 I2 K2 T2 Z2
  have hrs := HR.out
  go_wp2_with fail
  with_reducible refine (readBytes_at gb gp ge o m c (p + 2 + 2) realm.size D (bytesOf realm) _ w3 HL.out I3.out.src I3.out.pos HOM.out (by have := HPM.out; omega) HMC.out.1 HMC.out.2 D3.out (bytesOf_length _)).mono ?_
  rintro e w4 ⟨Ar, cr, rfl, hv, hg, hp1⟩
  have I4 := Aside0.mk (I3.out.call hg hp1)
  have K4 := Aside0.mk (K3.out.call I3.out.pos (by decide) hg)
  have T4 := Aside0.mk (T3.out.call I3.out.pos (by decide) hg)
  have Z4 := Aside0.mk (Nat.le_trans Z3.out hg.size)
  have hcv : (convert 35 9 (.slice Ar (bytesOf realm).length cr)).run Try.prog w4 = .ok (.string (strOfNums (bytesOf realm))) w4 := own_string Try.underlying35 Try.underlying5 Try.underlying9 (Kd.own_of_R hv)
  rw [strOf_bytesOf'] at hcv
  clear hv hg hp1 I3 K3 T3 Z3
  have c1 := K4.out.cell 1 _ rfl
  have f1 := K4.out.free 1
  generalize (bytesOf realm).length = nr at *
  go_wp2_with fail
  have hneq := T4.out.ne K4.out (by decide)
  have I5 := Aside0.mk (I4.out.set K4.out (by decide) HGK.out 1 (.string realm))
  have K5 := Aside0.mk (K4.out.puts (cs' := #[.int .i16 names.length, .string realm, .slice none 0 0, .int .i32 0, v4, v5, v6, v7, v8, v9]) 1 (.string realm) rfl)
  have T5 := Aside0.mk (T4.out.far hneq 1 (.string realm))
  have Z5 := Aside0.mk (show w.heap.size ≤ (w4.setCell ⟨gk, 1, none⟩ (.string realm)).heap.size from by simpa using Z4.out)
  clear c1 f1 hcv K4 T4 I4 Z4 hrs hneq
  generalize w4.setCell ⟨gk, 1, none⟩ (.string realm) = w5 at *
  clear w2 w3 w4 I0 K0 T0 HWN HWR D1 D2 D3 HR
  obtain ⟨p4, hp4⟩ : ∃ x, x = p + 2 + 2 + realm.size := ⟨_, rfl⟩
  have HP4 := Aside0.mk hp4
  rw [← hp4] at I5 D4
  clear hp4
  go_loopw [14] (fun i wr => ∃ (j pj : Nat) (Au : Option Addr) (cu : Nat), j ≤ names.length ∧ i = .int .i64 j ∧ Aside0 (D.drop (o + pj) = (names.drop j).flatMap cnt16 ++ (e32 (IntKind.u32.wrap nt) ++ rest)) ∧ Aside0 (pj + ((names.drop j).flatMap cnt16).length = p4 + (names.flatMap cnt16).length) ∧
      Aside0 (In B w wr gb gp ge D pj) ∧ Aside0 (Box wr gk 91 #[.int .i16 names.length, .string realm, .slice Au j cu, .int .i32 0, v4, v5, v6, v7, v8, v9]) ∧ Aside0 (Box wr gt 74 ks) ∧ Aside0 (Kd.string.R 9 wr w.heap.size (fun _ => True) (.slice Au j cu) (names.take j)) ∧ Aside0 (w.heap.size ≤ wr.heap.size))
    (fun i _ => names.length - (intOf i).toNat)
  case atStart => exact ⟨0, p4, none, 0, Nat.zero_le _, rfl, D4, ⟨rfl⟩, I5, K5, T5, ⟨Kd.R_nil _ _ _ _ _⟩, Z5⟩
  clear I5 K5 T5 D4 Z5 w5
  obtain ⟨j, pj, Au, cu, hj, rfl, DJ, PJ, IJ, KJ, TJ, VJ, ZJ⟩ := hrel
  have k0 := KJ.out.cell 0 _ rfl
  by_cases hlt : j < names.length
  · have hlt' : (j : Int) < (names.length : Int) := by omega
    have hwn2 : wrap64 (names.length : Int) = names.length := by unfold wrap64; omega
    obtain ⟨nm, hnm⟩ : ∃ x, x = names[j] := ⟨_, rfl⟩
    have hdr : names.drop j = nm :: names.drop (j + 1) := by rw [hnm]; exact List.drop_eq_getElem_cons hlt
    have HNM := Aside0.mk (HNS.out nm (by rw [hnm]; exact List.getElem_mem hlt))
    have HTK := Aside0.mk (show names.take j ++ [nm] = names.take (j + 1) from by rw [List.take_add_one, List.getElem?_eq_getElem hlt, hnm]; rfl)
    have dj := DJ.out
    have pjo := PJ.out
    rw [hdr, List.flatMap_cons, List.append_assoc] at dj
    rw [hdr, List.flatMap_cons, List.length_append, cnt16_len] at pjo
    have DJ0 := Aside0.mk (show D.drop (o + pj) = e16 nm.size ++ (bytesOf nm ++ ((names.drop (j + 1)).flatMap cnt16 ++ (e32 (IntKind.u32.wrap nt) ++ rest))) from by rw [dj]; simp [cnt16])
    have DJ1 := Aside0.mk (show D.drop (o + (pj + 2)) = bytesOf nm ++ ((names.drop (j + 1)).flatMap cnt16 ++ (e32 (IntKind.u32.wrap nt) ++ rest)) from by rw [show o + (pj + 2) = o + pj + 2 from by omega, drop_app (n := 2) DJ0.out rfl])
    have DJ2 := Aside0.mk (show D.drop (o + (pj + 2 + nm.size)) = (names.drop (j + 1)).flatMap cnt16 ++ (e32 (IntKind.u32.wrap nt) ++ rest) from by rw [show o + (pj + 2 + nm.size) = o + (pj + 2) + nm.size from by omega, drop_app DJ1.out (bytesOf_length _)])
    have PJ1 := Aside0.mk pjo
    have HLN := Aside0.mk (show (names.take j).length = j from by rw [List.length_take]; omega)
    have HWN := Aside0.mk (wrap16_small (v := (nm.size : Int)) (by omega) (by have := HNM.out; omega))
    have HJ := Aside0.mk hlt
    have hwm : wrap64 (nm.size : Int) = nm.size := by have := HNM.out; unfold wrap64; omega
    clear dj pjo hdr hnm DJ PJ hlt
    go_wp2_with fail
    have h1 := readInt16_e gb gp ge o m c pj D _ _ wr HL.out IJ.out.src IJ.out.pos HOM.out (by have := HPM.out; have := PJ1.out; have := HP4.out; omega) HMC.out.1 (by omega) (by have := HNM.out; omega) DJ0.out
    rw [HWN.out] at h1
    with_reducible refine h1.mono ?_
    clear h1
    rintro e w3 ⟨rfl, hg, hp1⟩
    have I3 := Aside0.mk (IJ.out.call hg hp1)
    have K3 := Aside0.mk (KJ.out.call IJ.out.pos (by decide) hg)
    have T3 := Aside0.mk (TJ.out.call IJ.out.pos (by decide) hg)
    have V3 := Aside0.mk (row_call VJ.out IJ.out.pos (by decide) hg)
    have Z3 := Aside0.mk (Nat.le_trans ZJ.out hg.size)
    clear hg hp1 IJ KJ TJ VJ ZJ k0
    go_wp2_with fail
    with_reducible refine (readBytes_at gb gp ge o m c (pj + 2) nm.size D (bytesOf nm) _ w3 HL.out I3.out.src I3.out.pos HOM.out (by have := HPM.out; have := PJ1.out; have := HP4.out; omega) HMC.out.1 HMC.out.2 DJ1.out (bytesOf_length _)).mono ?_
    rintro e w4 ⟨Ab, cb, rfl, hv, hg, hp1⟩
    have I4 := Aside0.mk (I3.out.call hg hp1)
    have K4 := Aside0.mk (K3.out.call I3.out.pos (by decide) hg)
    have T4 := Aside0.mk (T3.out.call I3.out.pos (by decide) hg)
    have V4 := Aside0.mk (row_call V3.out I3.out.pos (by decide) hg)
    have Z4 := Aside0.mk (Nat.le_trans Z3.out hg.size)
    obtain ⟨wx, hwx⟩ : ∃ x, x = w4.drew := ⟨_, rfl⟩
    have hvx : (Kd.int .u8).R 5 wx w3.heap.size (fun _ => True) (.slice Ab (bytesOf nm).length cb) (bytesOf nm) := hwx ▸ Kd.R_drew hv
    have hcv : ∀ W' : World, Below wx.heap.size wx W' → (convert 35 9 (.slice Ab (bytesOf nm).length cb)).run Try.prog W' = .ok (.string nm) W' := fun W' hb => by
      have := own_string (P := Try.prog) Try.underlying35 Try.underlying5 Try.underlying9 (Kd.own_of_R (Kd.R_below hvx hb))
      rwa [strOf_bytesOf'] at this
    have IX := Aside0.mk (show In B w wx gb gp ge D (pj + 2 + nm.size) from hwx ▸ I4.out.drew)
    have KX := Aside0.mk (show Box wx gk 91 _ from hwx ▸ K4.out.drew)
    have TX := Aside0.mk (show Box wx gt 74 _ from hwx ▸ T4.out.drew)
    have VX := Aside0.mk (show Kd.string.R 9 wx w.heap.size (fun _ => True) (.slice Au j cu) (names.take j) from hwx ▸ Kd.R_drew V4.out)
    have HSZ := Aside0.mk (show w.heap.size ≤ wx.heap.size from hwx ▸ Z4.out)
    have HBS := Aside0.mk HBW.out
    clear hvx
    generalize (bytesOf nm).length = nb at *
    have HSX := Aside0.mk (show ∀ W' : World, Below wx.heap.size wx W' → (W'.cell? ⟨gk, 2, none⟩ = some (.slice Au j cu) ∧ (convert 35 9 (.slice Ab nb cb)).run Try.prog W' = .ok (.string nm) W') from fun W' hb => ⟨(KX.out.below hb).cell 2 _ rfl, hcv W' hb⟩)
    have HNX := Aside0.mk (show names.take j ++ [nm] = names.take (j + 1) from HTK.out)
    have HLN1 := Aside0.mk (show (names.take (j + 1)).length = j + 1 from by have := HJ.out; rw [List.length_take]; omega)
    have HLEN := Aside0.mk (show ((names.take j).length + 1) * 16 ≤ 140737488355328 from by have := HN.out; have := HLN.out; have := HJ.out; omega)
    clear hv hg hp1 hcv I3 K3 T3 V3 Z3 I4 K4 T4 V4 Z4
    go_upto_region 23 with fail
    refine start_ (n := 14) (S := fun w' => w'.cell? ⟨gk, 2, none⟩ = some (.slice Au j cu) ∧ (convert 35 9 (.slice Ab nb cb)).run Try.prog w' = .ok (.string nm) w') (ds := [9, 13]) #[false, false, false, false, false, false, false, false, false, false, false, false, false, false] (by kernel_rfl) rfl rfl ((hwx ▸ HSX.out _ (Below.refl _ _))) (fun hHeld => ?_)
    rw [← hwx] at hHeld ⊢
    clear hwx
    refine pure_ (i := 0) (N := some 106) (v := ?_) (a' := ?_) #[true, false, false, false, false, false, false, false, false, false, false, false, false, false] rfl rfl (by kernel_rfl) (fun _ _ _ h => h) (Or.inl ⟨by rfl, ?_⟩) ?_ ?_
    rotate_left
    · intro w'
      go_simp
      with_reducible rfl
    rotate_left
    · simp only [Act.put, List.setIfInBounds_toArray, List.set_cons_zero, List.set_cons_succ, i64_w, i32_w]
      rfl
    refine pure_ (i := 1) (N := some 107) (v := ?_) (a' := ?_) #[true, true, false, false, false, false, false, false, false, false, false, false, false, false] rfl rfl (by kernel_rfl) (fun _ _ _ h => h) (Or.inl ⟨by rfl, ?_⟩) ?_ ?_
    rotate_left
    · intro w'
      go_simp
      with_reducible rfl
    rotate_left
    · simp only [Act.put, List.setIfInBounds_toArray, List.set_cons_zero, List.set_cons_succ, i64_w, i32_w]
      rfl
    refine pure_ (i := 2) (N := some 108) (v := ?_) (a' := ?_) #[true, true, true, false, false, false, false, false, false, false, false, false, false, false] rfl rfl (by kernel_rfl) (fun _ _ _ h => h) (Or.inl ⟨by rfl, ?_⟩) ?_ ?_
    rotate_left
    · intro w'
      go_simp
      with_reducible rfl
    rotate_left
    · simp only [Act.put, List.setIfInBounds_toArray, List.set_cons_zero, List.set_cons_succ, i64_w, i32_w]
      rfl
    refine pure_ (i := 3) (N := some 109) (v := ?_) (a' := ?_) #[true, true, true, true, false, false, false, false, false, false, false, false, false, false] rfl rfl (by kernel_rfl) (fun _ _ _ h => h) (Or.inl ⟨by rfl, ?_⟩) ?_ ?_
    rotate_left
    · intro w'
      go_simp
      with_reducible rfl
    rotate_left
    · simp only [Act.put, List.setIfInBounds_toArray, List.set_cons_zero, List.set_cons_succ, i64_w, i32_w]
      rfl
    refine pure_ (i := 4) (N := some 110) (v := ?_) (a' := ?_) #[true, true, true, true, true, false, false, false, false, false, false, false, false, false] rfl rfl (by kernel_rfl) (fun _ _ _ h => h) (Or.inl ⟨by rfl, ?_⟩) ?_ ?_
    rotate_left
    · intro w'
      go_simp
      with_reducible rfl
    rotate_left
    · simp only [Act.put, List.setIfInBounds_toArray, List.set_cons_zero, List.set_cons_succ, i64_w, i32_w]
      rfl
    refine pure_ (i := 6) (N := some 112) (v := ?_) (a' := ?_) #[true, true, true, true, true, false, true, false, false, false, false, false, false, false] rfl rfl (by kernel_rfl) (fun _ _ _ h => h) (Or.inl ⟨by rfl, ?_⟩) ?_ ?_
    rotate_left
    · intro w'
      go_simp
      with_reducible rfl
    rotate_left
    · simp only [Act.put, List.setIfInBounds_toArray, List.set_cons_zero, List.set_cons_succ, i64_w, i32_w]
      rfl
    refine take_ (i := 5) (N := some 111) (v := ?_) (a' := ?_) #[true, true, true, true, true, true, true, false, false, false, false, false, false, false] rfl rfl (by kernel_rfl) (fun _ _ _ h => h) (Or.inl ⟨by rfl, ?_⟩) hHeld ?_ ?_
    rotate_left
    · rintro w' ⟨s0, s1⟩
      go_simp
      with_reducible rfl
    rotate_left
    · simp only [Act.put, List.setIfInBounds_toArray, List.set_cons_zero, List.set_cons_succ, i64_w, i32_w]
      rfl
    refine take_ (i := 7) (N := some 113) (v := ?_) (a' := ?_) #[true, true, true, true, true, true, true, true, false, false, false, false, false, false] rfl rfl (by kernel_rfl) (fun _ _ _ h => h) (Or.inl ⟨by rfl, ?_⟩) hHeld ?_ ?_
    rotate_left
    · rintro w' ⟨s0, s1⟩
      go_simp
      with_reducible rfl
    rotate_left
    · simp only [Act.put, List.setIfInBounds_toArray, List.set_cons_zero, List.set_cons_succ, i64_w, i32_w]
      rfl
    refine one_ (i := 8) (N := some 114) #[true, true, true, true, true, true, true, true, true, false, false, false, false, false] rfl rfl (by kernel_rfl) (by decide) (fun K hK => ?_)
    refine value_ (w1 := ?_) (v := ?_) (by rfl) rfl ?_ ?_
    rotate_left 2
    · go_simp
      constructor
      · rfl
      · rfl
    refine hK.out _ _ (HSX.out _ (below_alloc (Below.refl _ _) _)) (fun hHeld => ?_)
    clear hK K
    refine norm_ (a' := ?_) ?_ ?_
    rotate_left
    · show Act.put _ (some 114) _ = _
      simp only [Act.put, List.setIfInBounds_toArray, List.set_cons_zero, List.set_cons_succ, i64_w, i32_w]
      rfl
    refine last_ (i := 9) (N := some 115) #[true, true, true, true, true, true, true, true, true, true, false, false, false, false] rfl rfl (by kernel_rfl) (by decide) (fun K hK => ?_)
    refine Kd.R_append_step Kd.string (w0 := wx) w.heap.size (by rfl) (.tmp 111) (.tmp 114) 22 9 (.string ⟨#[]⟩) 16 (by rfl) Try.underlying22 info9 rfl (by decide) (by decide) (.slice Au j cu) (names.take j) nm [.string nm] (fun _ => True) (fun _ => False) (by rfl) (by rfl) rfl (fun _ h => h.elim) (fun _ _ => trivial) VX.out (Below.refl _ _) HSZ.out HLEN.out ?_
    intro v9 w9 hv9 hb9 hg9 hat9
    rw [HNX.out] at hv9
    obtain ⟨A9, c9, ev9⟩ := Kd.R_slice hv9
    rw [HLN1.out] at ev9
    subst ev9
    have I9 := Aside0.mk (IX.out.row VX.out (by decide) HBS.out.2.2 hg9)
    have K9 := Aside0.mk (KX.out.row VX.out (by decide) hg9)
    have T9 := Aside0.mk (TX.out.row VX.out (by decide) hg9)
    have V9 := Aside0.mk hv9
    have Z9 := Aside0.mk (Nat.le_trans HSZ.out hg9.size)
    clear hv9 hb9 hg9 hat9
    refine hK.out _ _ ?_
    clear hK K
    refine norm_ (a' := ?_) ?_ ?_
    rotate_left
    · show Act.put _ (some 115) _ = _
      simp only [Act.put, List.setIfInBounds_toArray, List.set_cons_zero, List.set_cons_succ, i64_w, i32_w]
      rfl
    refine pure_ (i := 10) (N := some 116) (v := ?_) (a' := ?_) #[true, true, true, true, true, true, true, true, true, true, true, false, false, false] rfl rfl (by kernel_rfl) (fun _ _ _ h => h) (Or.inl ⟨by rfl, ?_⟩) ?_ ?_
    rotate_left
    · intro w'
      go_simp
      with_reducible rfl
    rotate_left
    · simp only [Act.put, List.setIfInBounds_toArray, List.set_cons_zero, List.set_cons_succ, i64_w, i32_w]
      rfl
    refine pure_ (i := 11) (N := some 117) (v := ?_) (a' := ?_) #[true, true, true, true, true, true, true, true, true, true, true, true, false, false] rfl rfl (by kernel_rfl) (fun _ _ _ h => h) (Or.inl ⟨by rfl, ?_⟩) ?_ ?_
    rotate_left
    · intro w'
      go_simp
      with_reducible rfl
    rotate_left
    · simp only [Act.put, List.setIfInBounds_toArray, List.set_cons_zero, List.set_cons_succ, i64_w, i32_w]
      rfl
    refine pure_ (i := 12) (N := some 118) (v := ?_) (a' := ?_) #[true, true, true, true, true, true, true, true, true, true, true, true, true, false] rfl rfl (by kernel_rfl) (fun _ _ _ h => h) (Or.inl ⟨by rfl, ?_⟩) ?_ ?_
    rotate_left
    · intro w'
      go_simp
      with_reducible rfl
    rotate_left
    · simp only [Act.put, List.setIfInBounds_toArray, List.set_cons_zero, List.set_cons_succ, i64_w, i32_w]
      rfl
    refine last_ (i := 13) (N := none) #[true, true, true, true, true, true, true, true, true, true, true, true, true, true] rfl rfl (by kernel_rfl) (by decide) (fun K hK => ?_)
    have c2_ := K9.out.cell 2 (.slice Au j cu) rfl
    have f2_ := K9.out.free 2
    refine skip_ (w1 := ?_) (by rfl) rfl ?_ ?_
    rotate_left
    · go_simp
      rfl
    clear c2_ f2_
    refine hK.out _ _ ?_
    clear hK K
    refine done_ (by kernel_rfl) ?_

    have I10 := Aside0.mk (I9.out.set K9.out (by decide) HGK.out 2 (.slice A9 (j + 1) c9))
    have K10 := Aside0.mk (K9.out.puts (cs' := #[.int .i16 names.length, .string realm, .slice A9 (j + 1) c9, .int .i32 0, v4, v5, v6, v7, v8, v9]) 2 (.slice A9 (j + 1) c9) rfl)
    have T10 := Aside0.mk (T9.out.far (T9.out.ne K9.out (by decide)) 2 (.slice A9 (j + 1) c9))
    have V10 := Aside0.mk (row_set V9.out K9.out (by decide) 2 (.slice A9 (j + 1) c9))
    have Z10 := Aside0.mk (show w.heap.size ≤ (w9.setCell ⟨gk, 2, none⟩ (.slice A9 (j + 1) c9)).heap.size from by simpa using Z9.out)
    clear I9 K9 T9 V9 Z9 IX KX TX VX HSX
    go_wp2_with fail
    go_roundw
    case rel => exact ⟨j + 1, pj + 2 + nm.size, A9, c9, HJ.out, by go_num, DJ2, ⟨by have := PJ1.out; omega⟩, I10, K10, T10, V10, Z10⟩
    case measure => have := HJ.out; simp [intOf]; omega
  · obtain rfl : j = names.length := by omega
    have hnlt : ¬ ((names.length : Int) < (names.length : Int)) := by omega
    have hwn2 : wrap64 (names.length : Int) = names.length := by unfold wrap64; omega
    have dj := DJ.out
    have pjo := PJ.out
    rw [List.drop_length, List.flatMap_nil, List.nil_append] at dj
    rw [List.drop_length, List.flatMap_nil, List.length_nil, Nat.add_zero] at pjo
    have DJ0 := Aside0.mk dj
    have PJ0 := Aside0.mk pjo
    have d0 := TJ.out.cell 0 _ HV.out
    clear dj pjo DJ PJ hlt hj
    go_wp2_with fail
    have q := u32_range nt
    have h1 := readInt32_e gb gp ge o m c pj D _ _ wr HL.out IJ.out.src IJ.out.pos HOM.out (by have := HPM.out; have := PJ0.out; have := HP4.out; omega) HMC.out.1 q.1 q.2 DJ0.out
    rw [wrap32_u32 HNT.out.1 HNT.out.2] at h1
    with_reducible refine h1.mono ?_
    clear h1 q
    rintro e w3 ⟨rfl, hg, hp1⟩
    have I3 := Aside0.mk (IJ.out.call hg hp1)
    have K3 := Aside0.mk (KJ.out.call IJ.out.pos (by decide) hg)
    have V3 := Aside0.mk (row_call VJ.out IJ.out.pos (by decide) hg)
    have c3 := K3.out.cell 3 _ rfl
    have f3 := K3.out.free 3
    clear hg hp1 d0 k0
    go_wp2_with fail
    go_ret
    have v3 := row_set V3.out K3.out (by decide) 3 (.int .i32 nt)
    rw [List.take_length] at v3
    refine ⟨Au, cu, rfl, K3.out.puts 3 (.int .i32 nt) rfl, v3, ?_⟩
    have h4 := I3.out.set K3.out (by decide) HGK.out 3 (.int .i32 nt)
    rwa [show pj + 4 = p + (2 + (2 + realm.size + ((names.flatMap cnt16).length + 4))) from by have := PJ0.out; have := HP4.out; omega] at h4
end Go.Proofs.Ytcbbipdiahmelaa.B

/- Numbers are put into bytes, the highest first; under what each theorem states. -/
import Derived.Test.YtcbbipdiahmelaaB7
import Derived.Lib.ConvBytes
namespace Go.Proofs.Ytcbbipdiahmelaa.B
open Go.RowKit Go.Proofs.YtcbbipdiahmelaaW.PrintWords Go.Proofs.YtcbbipdiahmelaaW.PrintLast
set_option linter.unusedVariables false
set_option linter.unusedSimpArgs false
set_option maxRecDepth 100000
set_option maxHeartbeats 4000000 in
theorem put16_any (g o c : Nat) (v : Int) (xs : List Int) (w : World) (hb : Box w g 5 (nums .u8 xs).toArray) (ho : o + 2 ≤ xs.length) (h0 : 0 ≤ v) (h1 : v < 65536) :
    Calls Try.prog 69 #[.agg #[], .slice (some ⟨g, o, none⟩) 2 c, .int .u16 v] w fun e w' => e = .returned (.tuple #[]) ∧ Box w' g 5 (nums .u8 ((xs.set o (v / 256 % 256)).set (o + 1) (v % 256))).toArray ∧ w.grownBy w' (some g) := by
  have HB := Aside0.mk hb
  have hg : g < w.heap.size := hb.lt
  have hu79 := Try.underlying79
  obtain ⟨y0, k0⟩ : ∃ y, w.cell? ⟨g, o, none⟩ = some y := ⟨_, by rw [blk_cell hb]; exact Array.getElem?_eq_getElem (by simp [nums]; omega)⟩
  obtain ⟨y1, k1⟩ : ∃ y, w.cell? ⟨g, o + 1, none⟩ = some y := ⟨_, by rw [blk_cell hb]; exact Array.getElem?_eq_getElem (by simp [nums]; omega)⟩
  have f0 := hb.free o
  have f1 := hb.free (o + 1)
  clear hb
  go_enter Try.func69, Try.ntmps69
  go_wp2_with fail
  have B1 := (HB.out.puts (cs' := (nums .u8 (xs.set o (v / 256))).toArray) o (.int .u8 (v / 256)) (by simp [nums, List.map_set])).puts (cs' := (nums .u8 ((xs.set o (v / 256)).set (o + 1) (v % 256))).toArray) (o + 1) (.int .u8 (v % 256)) (by simp [nums, List.map_set])
  have G1 := grown_alloc (grown_set (grown_set (World.grownBy.refl w (some g)) (.inr rfl) (i := o) (v := .int .u8 (v / 256))) (.inr rfl) (i := o + 1) (v := .int .u8 (v % 256))) (.cells #[] 79)
  have B2 := B1.alloc (.cells #[] 79)
  rw [show v / 256 % 256 = v / 256 from by omega]
  simp [bodyPost, results, Try.results69]
  exact ⟨B2, G1⟩
set_option maxHeartbeats 4000000 in
theorem put32_any (g o c : Nat) (v : Int) (xs : List Int) (w : World) (hb : Box w g 5 (nums .u8 xs).toArray) (ho : o + 4 ≤ xs.length) (h0 : 0 ≤ v) (h1 : v < 4294967296) :
    Calls Try.prog 70 #[.agg #[], .slice (some ⟨g, o, none⟩) 4 c, .int .u32 v] w fun e w' => e = .returned (.tuple #[]) ∧ Box w' g 5 (nums .u8 ((((xs.set o (v / 16777216 % 256)).set (o + 1) (v / 65536 % 256)).set (o + 2) (v / 256 % 256)).set (o + 3) (v % 256))).toArray ∧ w.grownBy w' (some g) := by
  have HB := Aside0.mk hb
  have hg : g < w.heap.size := hb.lt
  have hu79 := Try.underlying79
  obtain ⟨y0, k0⟩ : ∃ y, w.cell? ⟨g, o, none⟩ = some y := ⟨_, by rw [blk_cell hb]; exact Array.getElem?_eq_getElem (by simp [nums]; omega)⟩
  obtain ⟨y1, k1⟩ : ∃ y, w.cell? ⟨g, o + 1, none⟩ = some y := ⟨_, by rw [blk_cell hb]; exact Array.getElem?_eq_getElem (by simp [nums]; omega)⟩
  obtain ⟨y2, k2⟩ : ∃ y, w.cell? ⟨g, o + 2, none⟩ = some y := ⟨_, by rw [blk_cell hb]; exact Array.getElem?_eq_getElem (by simp [nums]; omega)⟩
  obtain ⟨y3, k3⟩ : ∃ y, w.cell? ⟨g, o + 3, none⟩ = some y := ⟨_, by rw [blk_cell hb]; exact Array.getElem?_eq_getElem (by simp [nums]; omega)⟩
  have f0 := hb.free o
  have f1 := hb.free (o + 1)
  have f2 := hb.free (o + 2)
  have f3 := hb.free (o + 3)
  clear hb
  go_enter Try.func70, Try.ntmps70
  go_wp2_with fail
  have B1 := (((HB.out.puts (cs' := (nums .u8 (xs.set o (v / 16777216))).toArray) o (.int .u8 (v / 16777216)) (by simp [nums, List.map_set])).puts (cs' := (nums .u8 ((xs.set o (v / 16777216)).set (o + 1) (v / 65536 % 256))).toArray) (o + 1) (.int .u8 (v / 65536 % 256)) (by simp [nums, List.map_set])).puts (cs' := (nums .u8 (((xs.set o (v / 16777216)).set (o + 1) (v / 65536 % 256)).set (o + 2) (v / 256 % 256))).toArray) (o + 2) (.int .u8 (v / 256 % 256)) (by simp [nums, List.map_set])).puts (cs' := (nums .u8 ((((xs.set o (v / 16777216)).set (o + 1) (v / 65536 % 256)).set (o + 2) (v / 256 % 256)).set (o + 3) (v % 256))).toArray) (o + 3) (.int .u8 (v % 256)) (by simp [nums, List.map_set])
  have G1 := grown_alloc (grown_set (grown_set (grown_set (grown_set (World.grownBy.refl w (some g)) (.inr rfl) (i := o) (v := .int .u8 (v / 16777216))) (.inr rfl) (i := o + 1) (v := .int .u8 (v / 65536 % 256))) (.inr rfl) (i := o + 2) (v := .int .u8 (v / 256 % 256))) (.inr rfl) (i := o + 3) (v := .int .u8 (v % 256))) (.cells #[] 79)
  have B2 := B1.alloc (.cells #[] 79)
  rw [show v / 16777216 % 256 = v / 16777216 from by omega]
  simp [bodyPost, results, Try.results70]
  exact ⟨B2, G1⟩
/-- A row of the call's own, as a block. -/
theorem row_box {w : World} {g : Nat} {xs : List Int} {base : Nat} (hb : Box w g 5 (nums .u8 xs).toArray) (hg : base ≤ g) (hn : xs.length ≤ 1099511627776) : (Kd.int .u8).R 5 w base (fun _ => True) (.slice (some ⟨g, 0, none⟩) xs.length xs.length) xs := by
  have hown : w.ownsRow base 5 1 (.slice (some ⟨g, 0, none⟩) xs.length xs.length) xs.length (nums .u8 xs) := ⟨by simp [nums], .inr ⟨g, xs.length, _, rfl, hg, hb, Nat.le_refl _, by unfold maxLen; omega, by simp [nums], by rw [Nat.mul_one]; exact List.take_of_length_le (by simp [nums])⟩⟩
  exact Kd.R_of_own hown (fun _ _ => trivial)
/-- The bytes of a text, as a conversion makes them. -/
theorem bytes_of (s : ByteArray) (w : World) (hs : s.size ≤ 1099511627776) : ∃ (wb : World) (cap : Nat), (convert 9 35 (.string s)).run Try.prog w = .ok (.slice (some ⟨w.heap.size, 0, none⟩) s.size cap) wb ∧ Below w.heap.size w wb ∧ (Kd.int .u8).C wb (some ⟨w.heap.size, 0, none⟩) s.size (bytesOf s) ∧ w.heap.size < wb.heap.size := by
  refine ⟨_, _, Lib.run_convert_string_bytes w 9 35 5 s Try.underlying9 Try.underlying35 Try.underlying5, ⟨?_, ?_, ?_, ?_, ?_⟩, ?_, by rw [Lib.bytesWorld_size]; omega⟩
  · simp [Lib.bytesWorld, World.freeze, World.alloc, World.drew, -World.alloc_eq, -World.drew_eq]
  · simp [Lib.bytesWorld, World.freeze, World.alloc, World.drew, -World.alloc_eq, -World.drew_eq]
  · simp [Lib.bytesWorld, World.freeze, World.alloc, World.drew, -World.alloc_eq, -World.drew_eq]
  · rw [Lib.bytesWorld_size]; omega
  · exact fun j hj => Lib.bytesWorld_at_old w 5 s j hj
  · refine Kd.C_of_reads (d := (0 : Int)) (h1 := fun _ => rfl) ⟨bytesOf_length s, by omega, fun hm => ⟨_, rfl, fun j hj => ?_⟩⟩
    rw [add_at, Nat.zero_add, Lib.bytesWorld_cell w 5 s j hj]
    congr 2
    have hj2 : j < s.data.toList.length := by simpa using hj
    unfold bytesOf
    rw [List.getD_eq_getElem?_getD, List.getD_eq_getElem?_getD, List.getElem?_map, List.getElem?_eq_getElem hj2]
    rfl
theorem made_cells (n : Nat) : madeCells #[.int .u8 0] n = (nums .u8 (List.replicate n 0)).toArray := by
  apply Array.ext
  · simp [madeCells, nums]
  · intro i h1 h2
    simp [madeCells, Nat.mod_one, nums]
theorem c_keep {w w' : World} {g n : Nat} {xs : List Int} (h : (Kd.int .u8).C w (some ⟨g, 0, none⟩) n xs) (hk : w'.heap[g]? = w.heap[g]?) : (Kd.int .u8).C w' (some ⟨g, 0, none⟩) n xs := by
  refine ⟨h.1, h.2.1, fun hn => ?_⟩
  obtain ⟨ad, e, hc⟩ := h.2.2 hn
  injection e with e
  subst e
  refine ⟨_, rfl, fun j p hj => ?_⟩
  obtain ⟨c, hs, hK, hcell⟩ := hc j p hj
  refine ⟨c, hs, hK, fun i u hu => ?_⟩
  have := hcell i u hu
  rw [add_at] at this ⊢
  unfold World.cell? at this ⊢
  simp only at this ⊢
  rw [hk]
  exact this
set_option maxHeartbeats 4000000 in
theorem marshalString_any (s : ByteArray) (w : World) (hs : s.size ≤ 200) :
    Calls Try.prog 51 #[.string s, .int .i64 2] w fun e w' => ∃ A c, e = .returned (.tuple #[.slice A (2 + s.size) c, .nilIface]) ∧ (Kd.int .u8).R 5 w' w.heap.size (fun _ => True) (.slice A (2 + s.size) c) (cnt16 s) ∧ Below w.heap.size w w' := by
  have HS := Aside0.mk hs
  have hu79 := Try.underlying79
  obtain ⟨wb, cap, hcv, hbl, hrd, hsz⟩ := bytes_of s w (by omega)
  have BL := Aside0.mk hbl
  have HRD := Aside0.mk hrd
  have hmk : ∀ W : World, (Instr.makeSlice 35 (.int .i64 2) (.int .i64 2)).run Try.prog W = .ok (.slice (some ⟨W.heap.size, 0, none⟩) 2 2) (W.alloc (.cells (madeCells #[.int .u8 0] 2) 5)) :=
    fun W => run_make_row' 35 5 (.int .u8 0) 1 Try.underlying35 info5 rfl .i64 .i64 2 (by omega) (by omega) W
  have hnn : w.heap.size ≤ wb.heap.size := hbl.size
  have hnlt : w.heap.size ≠ wb.heap.size := by have := hsz; omega
  clear hbl hrd hsz
  go_enter Try.func51, Try.ntmps51
  go_upto_region 7 with fail
  have hb1 := below_alloc (Below.refl wb.heap.size wb) (.cells (madeCells #[.int .u8 0] 2) 5)
  have HB1 := Aside0.mk (show Box (wb.alloc (.cells (madeCells #[.int .u8 0] 2) 5)) wb.heap.size 5 (nums .u8 [0, 0]).toArray from by rw [made_cells]; exact Box.new _ _ _)
  have BL1 := Aside0.mk (below_step BL.out hb1)
  have RD1 := Aside0.mk (Kd.C_below HRD.out hb1)
  obtain ⟨g2, hg2⟩ : ∃ x, x = wb.heap.size := ⟨_, rfl⟩
  have HG2 := Aside0.mk (show w.heap.size ≤ g2 from by rw [hg2]; exact hnn)
  rw [← hg2] at HB1
  rw [← hg2]
  have HLT := Aside0.mk (show w.heap.size < (wb.alloc (.cells (madeCells #[.int .u8 0] 2) 5)).heap.size from by simp; omega)
  have HNE := Aside0.mk (show w.heap.size ≠ g2 from by rw [hg2]; exact hnlt)
  have HS1 := Aside0.mk (Nat.le_of_lt HLT.out)
  clear hb1 hg2 hnn hnlt BL HRD
  generalize wb.alloc (.cells (madeCells #[.int .u8 0] 2) 5) = w1 at *
  have nA : ∀ w : World, (nilAhead 239 79 (.agg #[]) "PutUint16").run Try.prog w = .ok (some false) w := fun w => by kernel_rfl
  have nM : ∀ w : World, (method 239 79 (.agg #[]) "PutUint16").run Try.prog w = .ok (69, .agg #[]) w := fun w => by kernel_rfl
  have hu16 : IntKind.u16.wrap (s.size : Int) = s.size := by simp [IntKind.wrap, IntKind.bits, IntKind.signed]; omega
  have hmf : ∀ (fn : Fn) (first cap : Array Value) (w : World), (Instr.makeFunc fn first cap).run Try.prog w = .ok (.func fn first cap) w := fun _ _ _ _ => rfl
  go_wp2
  go_still_tail 9, (by kernel_rfl)
  change wpList _ _ _ _ _ w1.drew
  go_wp2_with (first
    | (go_at_call 69; refine (put16_any g2 0 _ s.size [0, 0] w1.drew HB1.out.drew (by decide) (by omega) (by omega)).mono ?_; rintro e w2 ⟨rfl, hb, hg⟩; have HB2 := Aside0.mk (show Box w2 g2 5 (nums .u8 (e16 s.size)).toArray from hb); have HG := Aside0.mk hg; have V2 := Aside0.mk (row_box HB2.out HG2.out (by simp [e16])); have RD2 := Aside0.mk (c_keep RD1.out (hg.block _ HLT.out (by intro e; injection e with e; exact HNE.out e))); have BL2 := Aside0.mk (low_grown (low_below BL1.out HS1.out (below_drew (Below.refl _ _))) HS1.out hg (fun j hj => by injection hj with hj; rw [← hj]; exact HG2.out)); have HS2 := Aside0.mk (Nat.le_trans HS1.out hg.size); clear hb hg)
    | ((with_reducible refine gate_builtin (b := .append) (xs := #[.tmp 31, .tmp 32]) rfl ?_); at_builtin; refine Kd.R_append_rows (Kd.int .u8) (Rr := fun (x : Int) (cs : List Value) => cs = [.int .u8 x]) (w0 := w2) w.heap.size rfl (.tmp 31) (.tmp 32) 35 5 (.int .u8 0) 1 rfl Try.underlying35 info5 rfl (by decide) (by decide) (.slice (some ⟨g2, 0, none⟩) 2 2) (e16 s.size) (bytesOf s) (some ⟨w.heap.size, 0, none⟩) s.size cap (fun _ => True) (fun _ => False) rfl rfl V2.out RD2.out (fun _ _ h => h) (fun _ h => h.elim) (fun _ _ => trivial) (Below.refl _ _) HS2.out (by have := HS.out; simp [e16]; omega) ?_; intro v3 w3 ho hb hg hat; have HO := Aside0.mk ho; have BL3 := Aside0.mk (low_trans BL2.out hb); clear ho hb hg hat))
  obtain ⟨A3, c3, rfl⟩ := Kd.R_slice HO.out
  have hln : (e16 s.size ++ bytesOf s).length = 2 + s.size := by rw [List.length_append, bytesOf_length]; rfl
  have ho := HO.out
  rw [hln] at ho ⊢
  go_ret2
  exact ⟨A3, c3, rfl, ho, BL3.out⟩
end Go.Proofs.Ytcbbipdiahmelaa.B

/- Go functions of this seat come to the answers of the Lean functions that stand here ('.calls'), under what each theorem states and nothing else. Written by pw.py, a program of this session, with texts of its own. -/
import Derived.Test.YthgcpicflmigjaaF0
import Derived.Test.YthgcpicflmigjaaF1
import Derived.RegionTactic
import Derived.BigRegion
import Derived.StillTailTactics
namespace Go.Proofs.Ythgcpicflmigjaa.F
open Go.RowKit Go.Proofs.YthgcpicflmigjaaW.PrintWords Go.Proofs.YthgcpicflmigjaaW.PrintLast Go.Proofs.YthgcpicflmigjaaW.PrintMore
attribute [local go_sem] max2_int min2_int max_two min_two max_three min_three max_four min_four   -- for this text's walks alone
set_option linter.unusedVariables false
set_option linter.unusedSimpArgs false
set_option maxRecDepth 100000

/-! ### impl_Flags: function 27 -/
-- EXT rounds=0 making=1
-- NEEDS 52
/-- A bit string in memory: block g the struct, block b its four bytes. -/
def Bits (w : World) (g b c : Nat) (B : List Int) : Prop :=
  w.heap[g]? = some (.cells #[.slice (some ⟨b, 0, none⟩) 4 c, .int .i64 32] 80 (0, 0)) ∧ (∃ cells, w.heap[b]? = some (.cells cells 5 (0, 0)) ∧ cells.toList.take 4 = nums .u8 B) ∧ B.length = 4 ∧ g ≠ b ∧ ∀ x ∈ B, 0 ≤ x ∧ x ≤ 255
theorem Bits.cell {w : World} {g b c : Nat} {B : List Int} (h : Bits w g b c B) (j : Nat) (hj : j < 4) : w.cell? ⟨b, j, none⟩ = some (.int .u8 (B.getD j 0)) ∧ w.frozen? ⟨b, j, none⟩ = false := by
  obtain ⟨_, ⟨cells, hh, hc⟩, hl, _⟩ := h
  refine ⟨?_, blk_frozen hh j⟩
  rw [blk_cell hh, ← Array.getElem?_toList]
  have h1 : (cells.toList.take 4)[j]? = cells.toList[j]? := by rw [List.getElem?_take, if_pos hj]
  rw [← h1, hc, nums, List.getElem?_map, List.getElem?_eq_getElem (by omega)]
  simp [List.getD_eq_getElem?_getD, List.getElem?_eq_getElem (show j < B.length from by omega)]
/-- A bit by its number, as it stands in its byte. -/
def bitOf (i : Int) : Int := 2 ^ (7 - i % 8).toNat % 256
def setB (B : List Int) (i : Int) : List Int := B.set (i / 8).toNat (Go.bits .or .u8 (B.getD (i / 8).toNat 0) (bitOf i))
def unsetB (B : List Int) (i : Int) : List Int := B.set (i / 8).toNat (Go.bits .andNot .u8 (B.getD (i / 8).toNat 0) (bitOf i))
set_option maxHeartbeats 4000000 in
theorem setFlag_any (g b c : Nat) (B : List Int) (i : Int) (h0 : 0 ≤ i) (h1 : i ≤ 31) (w : World) (h : Bits w g b c B) :
    Calls Try.prog 53 #[.pointer (some ⟨g, 0, none⟩), .int .i64 i] w fun e w' => e = .returned (.tuple #[]) ∧ ∃ n, w' = (w.drewN n).setCell ⟨b, (i / 8).toNat, none⟩ (.int .u8 (Go.bits .or .u8 (B.getD (i / 8).toNat 0) (bitOf i))) := by
  have g0 : w.cell? ⟨g, 0, none⟩ = some (.slice (some ⟨b, 0, none⟩) 4 c) := by rw [blk_cell h.1]; rfl
  have g1 : w.cell? ⟨g, 1, none⟩ = some (.int .i64 32) := by rw [blk_cell h.1]; rfl
  obtain ⟨d0, d1⟩ := h.cell (i / 8).toNat (by omega)
  clear h
  go_enter Try.func53, Try.ntmps53
  go_wp2
  go_loop [4] (fun l => l = .int .i64 4) (fun _ => 0)
  case atStart => rfl
  case round =>
    obtain rfl := hrel
    go_wp2
    have hi : 0 ≤ i / 8 := by omega
    have hi2 : i / 8 < 4 := by omega
    have hp : 7 - (i - 8 * (i / 8)) = 7 - i % 8 := by omega
    rw [hp]
    clear hp
    have hi4 : 0 ≤ 7 - i % 8 := by omega
    have hi5 : 7 - i % 8 ≤ 7 := by omega
    have HB := Aside0.mk (show bitOf i = 2 ^ (7 - i % 8).toNat % 256 from rfl)
    generalize hq : i / 8 = q at *
    have HQ := Aside0.mk hq
    clear hq
    generalize 7 - i % 8 = p at *
    go_still_tail 15, (by kernel_rfl)
    change wpList _ _ _ _ _ w.drew
    go_wp2
    go_end0
    refine ⟨rfl, 1, ?_⟩
    rw [HQ.out, HB.out, List.getD_eq_getElem?_getD]
    rfl
set_option maxHeartbeats 4000000 in
theorem unsetFlag_any (g b c : Nat) (B : List Int) (i : Int) (h0 : 0 ≤ i) (h1 : i ≤ 31) (w : World) (h : Bits w g b c B) :
    Calls Try.prog 54 #[.pointer (some ⟨g, 0, none⟩), .int .i64 i] w fun e w' => e = .returned (.tuple #[]) ∧ ∃ n, w' = (w.drewN n).setCell ⟨b, (i / 8).toNat, none⟩ (.int .u8 (Go.bits .andNot .u8 (B.getD (i / 8).toNat 0) (bitOf i))) := by
  have g0 : w.cell? ⟨g, 0, none⟩ = some (.slice (some ⟨b, 0, none⟩) 4 c) := by rw [blk_cell h.1]; rfl
  have g1 : w.cell? ⟨g, 1, none⟩ = some (.int .i64 32) := by rw [blk_cell h.1]; rfl
  obtain ⟨d0, d1⟩ := h.cell (i / 8).toNat (by omega)
  clear h
  go_enter Try.func54, Try.ntmps54
  go_wp2
  go_loop [4] (fun l => l = .int .i64 4) (fun _ => 0)
  case atStart => rfl
  case round =>
    obtain rfl := hrel
    go_wp2
    have hi : 0 ≤ i / 8 := by omega
    have hi2 : i / 8 < 4 := by omega
    have hp : 7 - (i - 8 * (i / 8)) = 7 - i % 8 := by omega
    rw [hp]
    clear hp
    have hi4 : 0 ≤ 7 - i % 8 := by omega
    have hi5 : 7 - i % 8 ≤ 7 := by omega
    have HB := Aside0.mk (show bitOf i = 2 ^ (7 - i % 8).toNat % 256 from rfl)
    generalize hq : i / 8 = q at *
    have HQ := Aside0.mk hq
    clear hq
    generalize 7 - i % 8 = p at *
    go_still_tail 15, (by kernel_rfl)
    change wpList _ _ _ _ _ w.drew
    go_wp2
    go_end0
    refine ⟨rfl, 1, ?_⟩
    rw [HQ.out, HB.out, List.getD_eq_getElem?_getD]
    rfl
theorem bits_u8 (op : BinOp) (x y : Int) : 0 ≤ Go.bits op .u8 x y ∧ Go.bits op .u8 x y ≤ 255 := by
  unfold Go.bits
  simp only [IntKind.wrap, IntKind.signed, IntKind.bits]
  simp
  omega
theorem Bits.put {w : World} {g b c : Nat} {B : List Int} (h : Bits w g b c B) (n : Nat) {i : Int} (h0 : 0 ≤ i) (h1 : i ≤ 31) (v : Int) (hv : 0 ≤ v ∧ v ≤ 255) :
    Bits ((w.drewN n).setCell ⟨b, (i / 8).toNat, none⟩ (.int .u8 v)) g b c (B.set (i / 8).toNat v) := by
  obtain ⟨hg, ⟨cells, hh, hc⟩, hl, hne, hx⟩ := h
  refine ⟨blk_far hg (by simpa using hne) _, ⟨_, blk_set hh _ _, ?_⟩, by simpa using hl, hne, fun x hx1 => ?_⟩
  · have h4 : (i / 8).toNat < 4 := by omega
    rw [Array.toList_setIfInBounds, List.take_set, hc]
    simp [nums]
  · rcases List.mem_or_eq_of_mem_set hx1 with h | rfl
    · exact hx x h
    · exact hv
set_option maxHeartbeats 1600000 in
theorem setFlags_any (w0 : World) (g b c : Nat) (B : List Int) (A : Option Addr) (c1 : Nat) (l : List Int) (hl : ∀ x ∈ l, 0 ≤ x ∧ x ≤ 31) (w : World) (h : Bits w g b c B) (hB : Below w0.heap.size w0 w) (hb : w0.heap.size ≤ b) (hC : (Kd.int .i64).C w0 A l.length l) :
    Calls Try.prog 55 #[.pointer (some ⟨g, 0, none⟩), .slice A l.length c1] w fun e w' => e = .returned (.tuple #[]) ∧ Bits w' g b c (l.foldl setB B) ∧ Below w0.heap.size w0 w' := by
  have HI := Aside0.mk h
  have HBe := Aside0.mk hB
  have HL := Aside0.mk hl
  have hlen := hC.2.1
  clear h hB hl
  go_enter Try.func55, Try.ntmps55
  go_wp2
  go_loopw [8] (fun i wr => ∃ k : Nat, k ≤ l.length ∧ i = .int .i64 k ∧ Aside0 (Bits wr g b c ((l.take k).foldl setB B)) ∧ Aside0 (Below w0.heap.size w0 wr)) (fun i _ => l.length - (intOf i).toNat)
  case atStart => exact ⟨0, Nat.zero_le _, rfl, HI, HBe⟩
  case round =>
    obtain ⟨k, hk, rfl, HR, HBr⟩ := hrel
    by_cases hlt : k < l.length
    · obtain ⟨ad, rfl, hc0⟩ := Kd.at_int (Kd.C_below hC HBr.out) k (by omega) (by omega)
      have hc : wr.cell? (ad.add k) = some (.int .i64 (rd l k)) := hc0
      have hx := HL.out (rd l k) (by simp [rd, List.getD_eq_getElem?_getD, List.getElem?_eq_getElem hlt])
      obtain ⟨hx0, hx1⟩ := hx
      have HT := Aside0.mk (show (l.take (k + 1)).foldl setB B = setB ((l.take k).foldl setB B) (rd l k) from by
        rw [List.take_succ_eq_append_getElem hlt, List.foldl_append]; simp [rd, List.getD_eq_getElem?_getD, List.getElem?_eq_getElem hlt])
      clear hc0
      generalize rd l k = x at *
      go_wp2_with (go_at_call 53; refine (setFlag_any g b c _ x hx0 hx1 _ HR.out).mono ?_; rintro e w' ⟨rfl, n, rfl⟩)
      go_roundw
      case rel => exact ⟨k + 1, by omega, by go_num, ⟨by rw [HT.out]; exact HR.out.put n hx0 hx1 _ (bits_u8 _ _ _)⟩, ⟨below_set (pw_below_drewN HBr.out n) hb⟩⟩
      case measure => simp [intOf]; omega
    · obtain rfl : k = l.length := by omega
      go_wp2
      go_end0
      exact ⟨rfl, by have := HR.out; rwa [List.take_length] at this, HBr.out⟩
set_option maxHeartbeats 1600000 in
theorem unsetFlags_any (w0 : World) (g b c : Nat) (B : List Int) (A : Option Addr) (c1 : Nat) (l : List Int) (hl : ∀ x ∈ l, 0 ≤ x ∧ x ≤ 31) (w : World) (h : Bits w g b c B) (hB : Below w0.heap.size w0 w) (hb : w0.heap.size ≤ b) (hC : (Kd.int .i64).C w0 A l.length l) :
    Calls Try.prog 56 #[.pointer (some ⟨g, 0, none⟩), .slice A l.length c1] w fun e w' => e = .returned (.tuple #[]) ∧ Bits w' g b c (l.foldl unsetB B) ∧ Below w0.heap.size w0 w' := by
  have HI := Aside0.mk h
  have HBe := Aside0.mk hB
  have HL := Aside0.mk hl
  have hlen := hC.2.1
  clear h hB hl
  go_enter Try.func56, Try.ntmps56
  go_wp2
  go_loopw [8] (fun i wr => ∃ k : Nat, k ≤ l.length ∧ i = .int .i64 k ∧ Aside0 (Bits wr g b c ((l.take k).foldl unsetB B)) ∧ Aside0 (Below w0.heap.size w0 wr)) (fun i _ => l.length - (intOf i).toNat)
  case atStart => exact ⟨0, Nat.zero_le _, rfl, HI, HBe⟩
  case round =>
    obtain ⟨k, hk, rfl, HR, HBr⟩ := hrel
    by_cases hlt : k < l.length
    · obtain ⟨ad, rfl, hc0⟩ := Kd.at_int (Kd.C_below hC HBr.out) k (by omega) (by omega)
      have hc : wr.cell? (ad.add k) = some (.int .i64 (rd l k)) := hc0
      have hx := HL.out (rd l k) (by simp [rd, List.getD_eq_getElem?_getD, List.getElem?_eq_getElem hlt])
      obtain ⟨hx0, hx1⟩ := hx
      have HT := Aside0.mk (show (l.take (k + 1)).foldl unsetB B = unsetB ((l.take k).foldl unsetB B) (rd l k) from by
        rw [List.take_succ_eq_append_getElem hlt, List.foldl_append]; simp [rd, List.getD_eq_getElem?_getD, List.getElem?_eq_getElem hlt])
      clear hc0
      generalize rd l k = x at *
      go_wp2_with (go_at_call 54; refine (unsetFlag_any g b c _ x hx0 hx1 _ HR.out).mono ?_; rintro e w' ⟨rfl, n, rfl⟩)
      go_roundw
      case rel => exact ⟨k + 1, by omega, by go_num, ⟨by rw [HT.out]; exact HR.out.put n hx0 hx1 _ (bits_u8 _ _ _)⟩, ⟨below_set (pw_below_drewN HBr.out n) hb⟩⟩
      case measure => simp [intOf]; omega
    · obtain rfl : k = l.length := by omega
      go_wp2
      go_end0
      exact ⟨rfl, by have := HR.out; rwa [List.take_length] at this, HBr.out⟩
def isB (B : List Int) (i : Int) : Bool := Go.bits .and .u8 (B.getD (i / 8).toNat 0) (bitOf i) != 0
set_option maxHeartbeats 1600000 in
theorem isFlagSet_any (g b c : Nat) (B : List Int) (i : Int) (h0 : 0 ≤ i) (h1 : i ≤ 31) (w : World) (h : Bits w g b c B) :
    Calls Try.prog 57 #[.pointer (some ⟨g, 0, none⟩), .int .i64 i] w fun e w' => e = .returned (.bool (isB B i)) ∧ w' = w := by
  have g0 : w.cell? ⟨g, 0, none⟩ = some (.slice (some ⟨b, 0, none⟩) 4 c) := by rw [blk_cell h.1]; rfl
  obtain ⟨d0, d1⟩ := h.cell (i / 8).toNat (by omega)
  clear h
  have hi : 0 ≤ i / 8 := by omega
  have hi2 : i / 8 < 4 := by omega
  have hp : 7 - (i - 8 * (i / 8)) = 7 - i % 8 := by omega
  have hi4 : 0 ≤ 7 - (i - 8 * (i / 8)) := by omega
  have hi5 : 7 - (i - 8 * (i / 8)) ≤ 7 := by omega
  have HB := Aside0.mk (show bitOf i = 2 ^ (7 - (i - 8 * (i / 8))).toNat % 256 from by rw [hp]; rfl)
  clear hp
  cases hv : isB B i
  · have HV : (Go.bits .and .u8 (B.getD (i / 8).toNat 0) (2 ^ (7 - (i - 8 * (i / 8))).toNat % 256) != 0) = false := by rw [← HB.out]; exact hv
    rw [List.getD_eq_getElem?_getD] at HV
    clear hv
    go_enter Try.func57, Try.ntmps57
    go_wp2
    go_ret
    exact ⟨rfl, rfl⟩
  · have HV : (Go.bits .and .u8 (B.getD (i / 8).toNat 0) (2 ^ (7 - (i - 8 * (i / 8))).toNat % 256) != 0) = true := by rw [← HB.out]; exact hv
    rw [List.getD_eq_getElem?_getD] at HV
    clear hv
    go_enter Try.func57, Try.ntmps57
    go_wp2
    go_ret
    exact ⟨rfl, rfl⟩
-- INFO 4
def in32 (l : List Int) : Bool := l.all fun x => decide (0 ≤ x) && decide (x ≤ 31)
theorem in32_mem {l : List Int} (h : in32 l = true) : ∀ x ∈ l, 0 ≤ x ∧ x ≤ 31 := fun x hx => by
  have := List.all_eq_true.1 h x hx
  simpa using this
def flagB (l0 l1 : List Int) : List Int := l1.foldl unsetB (l0.foldl setB [0, 0, 0, 0])
def impl_Flags.f (l0 l1 : List Int) (a2 : Bool) (l3 : List Int) : Option (ByteArray × Int × List Bool) :=
  if in32 l0 = true ∧ in32 l1 = true ∧ in32 l3 = true ∧ l3.length ≤ 100000 then some (strOfNums (flagB l0 l1), 32, l3.map (isB (flagB l0 l1))) else none
theorem newFlags : types_NewKrbFlags.f = some ([0, 0, 0, 0], 32) := by
  decide +kernel
theorem Bits.made {w : World} {b cap : Nat} {cur : Array Value} (h : w.heap[b]? = some (.cells cur 5 (0, 0))) (hc : cur.toList.take 4 = nums .u8 [0, 0, 0, 0]) :
    Bits (w.alloc (.cells #[.slice (some ⟨b, 0, none⟩) 4 cap, .int .i64 32] 80)) w.heap.size b cap [0, 0, 0, 0] := by
  have hb := blk_lt h
  exact ⟨heap_alloc_new w _, ⟨cur, ((Below.refl w.heap.size w).alloc (Nat.le_refl _) _).block b hb |>.trans h, hc⟩, rfl, by omega, by simp⟩
/-- What Flags leaves. -/
def FlagsPost (r1 : ByteArray) (r2 : Int) (r3 : List Bool) (w : World) (e : Ending) (w' : World) : Prop := ∃ v2_ : Value, e = .returned (.tuple #[.string r1, .int .i64 r2, v2_]) ∧ Kd.R Kd.bool 4 w' w.heap.size (fun _ => True) v2_ r3 ∧ Below w.heap.size w w'
theorem Bits.str {w : World} {g b c : Nat} {B : List Int} (h : Bits w g b c B) : (convert 25 9 (.slice (some ⟨b, 0, none⟩) 4 c)).run Try.prog w = .ok (.string (strOfNums B)) w := by
  have hl := h.2.2.1
  have hC : (Kd.int .u8).C w (some ⟨b, 0, none⟩) 4 B := Kd.C_of_reads (d := (0 : Int)) (h1 := fun _ => rfl) ⟨hl, by omega, fun _ => ⟨_, rfl, fun j hj => by rw [add_plain]; exact (h.cell j hj).1⟩⟩
  exact Kd.C_string Try.underlying25 Try.underlying5 Try.underlying9 hC
theorem Bits.grown {w w1 : World} {g b c : Nat} {B : List Int} (h : Bits w g b c B) {row : Option Nat} (hg : w.grownBy w1 row) (h1 : some g ≠ row) (h2 : some b ≠ row) : Bits w1 g b c B := by
  obtain ⟨hg0, ⟨cells, hh, hc⟩, hl, hne, hx⟩ := h
  exact ⟨blk_grown hg0 hg h1, ⟨cells, blk_grown hh hg h2, hc⟩, hl, hne, hx⟩
set_option maxHeartbeats 6000000 in
theorem impl_Flags.calls (A0 : Option Addr) (c0 : Nat) (l0 : List Int) (A1 : Option Addr) (c1 : Nat) (l1 : List Int) (a2 : Bool) (A3 : Option Addr) (c3 : Nat) (l3 : List Int) (r1 : ByteArray) (r2 : Int) (r3 : List Bool) (w : World)
    (hr0 : Kd.C (Kd.int .i64) w A0 l0.length l0) (hc0 : l0.length ≤ c0) (hr1 : Kd.C (Kd.int .i64) w A1 l1.length l1) (hc1 : l1.length ≤ c1) (hr3 : Kd.C (Kd.int .i64) w A3 l3.length l3) (hc3 : l3.length ≤ c3) (h : impl_Flags.f l0 l1 a2 l3 = some (r1, r2, r3)) :
    Calls Try.prog 27 #[.slice A0 l0.length c0, .slice A1 l1.length c1, .bool a2, .slice A3 l3.length c3] w fun e w' => ∃ v2_ : Value, e = .returned (.tuple #[.string r1, .int .i64 r2, v2_]) ∧ Kd.R Kd.bool 4 w' w.heap.size (fun _ => True) v2_ r3 ∧ Below w.heap.size w w' := by
  show Calls _ _ _ w (FlagsPost r1 r2 r3 w)
  unfold impl_Flags.f at h
  by_cases hs : in32 l0 = true ∧ in32 l1 = true ∧ in32 l3 = true ∧ l3.length ≤ 100000
  case neg => rw [if_neg hs] at h; cases h
  rw [if_pos hs] at h
  obtain ⟨i0, i1, i3, hl3⟩ := hs
  injection h with h
  injection h with h2 h
  injection h with h3 h4
  have I0 := Aside0.mk (in32_mem i0)
  have I1 := Aside0.mk (in32_mem i1)
  have I3 := Aside0.mk (in32_mem i3)
  have H2 := Aside0.mk h2
  have H3 := Aside0.mk h3
  have H4 := Aside0.mk h4
  have R0 := Aside0.mk hr0
  have R1 := Aside0.mk hr1
  have R3 := Aside0.mk hr3
  have L0 := hr0.2.1
  have L1 := hr1.2.1
  have L3 := hr3.2.1
  clear i0 i1 i3 h2 h3 h4 hr0 hr1 hr3
  have hu80 := Try.underlying80
  cases a2
  · go_enter Try.func27, Try.ntmps27
    go_wp2_with fail
    refine (types_NewKrbFlags.calls [0, 0, 0, 0] 32 _ newFlags).mono ?_
    rintro e w1 ⟨v0, rfl, hv, hB⟩
    obtain ⟨b, cap, cur, rfl, hbw, hh, hcur⟩ : ∃ b cap cur, v0 = .slice (some ⟨b, 0, none⟩) 4 cap ∧ w.heap.size ≤ b ∧ w1.heap[b]? = some (.cells cur 5 (0, 0)) ∧ cur.toList.take 4 = nums .u8 [0, 0, 0, 0] := by
      rcases (Kd.own_of_R hv).2 with ⟨_, h0⟩ | ⟨b, cap, cur, rfl, hb, hh, _, _, _, htk⟩
      · simp at h0
      · exact ⟨b, cap, cur, rfl, hb, hh, by simpa [encs, nums] using htk⟩
    have hBits := Bits.made (cap := cap) hh hcur
    have hBel : Below w.heap.size w (w1.alloc (.cells #[.slice (some ⟨b, 0, none⟩) 4 cap, .int .i64 32] 80)) := below_alloc hB _
    have hbw' := hB.size
    clear hv hB hh hcur
    go_wp2_with fail
    generalize w1.heap.size = g at *
    generalize w1.alloc (.cells #[.slice (some ⟨b, 0, none⟩) 4 cap, .int .i64 32] 80) = w2 at *
    refine (setFlags_any w g b cap [0, 0, 0, 0] _ _ l0 I0.out _ hBits hBel hbw R0.out).mono ?_
    rintro e w3 ⟨rfl, hBits3, hBel3⟩
    clear hBits hBel w2
    go_wp2_with fail
    refine (unsetFlags_any w g b cap _ _ _ l1 I1.out _ hBits3 hBel3 hbw R1.out).mono ?_
    rintro e w4 ⟨rfl, hBits4, hBel4⟩
    have HF := Aside0.mk (show l1.foldl unsetB (l0.foldl setB [0, 0, 0, 0]) = flagB l0 l1 from rfl)
    rw [HF.out] at hBits4
    clear hBits3 hBel3 w3 HF
    generalize flagB l0 l1 = B at *
    have HR := Aside0.mk hBits4
    have HBr := Aside0.mk hBel4
    clear hBits4 hBel4
    go_wp2
    go_loopw [10, 44] (fun v i wr => ∃ (k : Nat) (xs : List Value), k ≤ l3.length ∧ i = .int .i64 k ∧ Aside0 (xs = (l3.take k).map fun x => Value.bool (isB B x)) ∧ Aside0 (wr.ownsRow w.heap.size 4 1 v xs.length xs) ∧ Aside0 (Bits wr g b cap B) ∧ Aside0 (Below w.heap.size w wr)) (fun _ i _ => l3.length - (intOf i).toNat)
    case atStart => exact ⟨0, [], Nat.zero_le _, rfl, ⟨rfl⟩, ⟨own_nil _ _ _ _⟩, HR, HBr⟩
    case round =>
      clear HR HBr
      obtain ⟨k, xs, hk, rfl, HX, HO, HR, HBr⟩ := hrel
      by_cases hlt : k < l3.length
      · obtain ⟨ad, rfl, hc0⟩ := Kd.at_int (Kd.C_below R3.out HBr.out) k (by omega) (by omega)
        have hc : wr.cell? (ad.add k) = some (.int .i64 (rd l3 k)) := hc0
        obtain ⟨hx0, hx1⟩ := I3.out (rd l3 k) (by simp [rd, List.getD_eq_getElem?_getD, List.getElem?_eq_getElem hlt])
        have HT := Aside0.mk (show (l3.take (k + 1)).map (fun x => Value.bool (isB B x)) = xs ++ [.bool (isB B (rd l3 k))] from by
          rw [HX.out, List.take_succ_eq_append_getElem hlt, List.map_append]; simp [rd, List.getD_eq_getElem?_getD, List.getElem?_eq_getElem hlt])
        have HN := Aside0.mk (show xs.length = k from by rw [HX.out]; simp; omega)
        clear hc0 HX
        generalize rd l3 k = x at *
        go_wp2_with (first
          | (go_at_call 57; refine (isFlagSet_any g b cap B x hx0 hx1 _ HR.out).mono ?_; rintro e w' ⟨rfl, rfl⟩)
          | (at_builtin; go_loud (refine print_append (w0 := w) w.heap.size rfl _ _ 46 4 (.bool false) 1 rfl Try.underlying46 info4 rfl (by decide) u10 xs (.bool (isB B x)) rfl rfl rfl HO.out HBr.out HBr.out.size (by have := HN.out; omega) ?_); intro v1 w1 hown hB1 hg1 _; have HO1 := Aside0.mk hown; have HB1 := Aside0.mk hB1; have HR1 := Aside0.mk (HR.out.grown hg1 (own_ne HO.out HR.out.1 (by decide)) (by obtain ⟨_, ⟨cells, hh, _⟩, _⟩ := HR.out; exact own_ne HO.out hh (by decide))); clear hown hB1 hg1 HO HR HBr))
        go_roundw
        case rel => exact ⟨k + 1, xs ++ [.bool (isB B x)], by omega, by go_num, ⟨HT.out.symm⟩, HO1, HR1, HB1⟩
        case measure => simp [intOf]; omega
      · obtain rfl : k = l3.length := by omega
        have hb0 : wr.cell? ⟨g, 0, none⟩ = some (.slice (some ⟨b, 0, none⟩) 4 cap) := by rw [blk_cell HR.out.1]; rfl
        have hb1 : wr.cell? ⟨g, 1, none⟩ = some (.int .i64 32) := by rw [blk_cell HR.out.1]; rfl
        have hcv : ∀ n : Nat, (convert 25 9 (.slice (some ⟨b, 0, none⟩) 4 cap)).run Try.prog (wr.drewN n) = .ok (.string (strOfNums B)) (wr.drewN n) := fun n => Bits.str (show Bits (wr.drewN n) g b cap B from HR.out)
        go_wp2
        go_quiet (fail)
        go_wp2
        go_ret3
        refine ⟨_, by rw [← H2.out, ← H3.out]; rfl, ?_, pw_below_drewN HBr.out _⟩
        rw [← H4.out]
        refine Kd.R_of_own ?_ (fun _ _ => trivial)
        have h5 := HO.out
        rw [HX.out, List.take_length] at h5
        have h6 : wr.ownsRow w.heap.size 4 1 u10 (l3.map (isB B)).length (encs Value.bool (l3.map (isB B))) := by simpa [encs, Function.comp_def] using h5
        exact h6
  · go_enter Try.func27, Try.ntmps27
    go_wp2_with fail
    refine (types_NewKrbFlags.calls [0, 0, 0, 0] 32 _ newFlags).mono ?_
    rintro e w1 ⟨v0, rfl, hv, hB⟩
    obtain ⟨b, cap, cur, rfl, hbw, hh, hcur⟩ : ∃ b cap cur, v0 = .slice (some ⟨b, 0, none⟩) 4 cap ∧ w.heap.size ≤ b ∧ w1.heap[b]? = some (.cells cur 5 (0, 0)) ∧ cur.toList.take 4 = nums .u8 [0, 0, 0, 0] := by
      rcases (Kd.own_of_R hv).2 with ⟨_, h0⟩ | ⟨b, cap, cur, rfl, hb, hh, _, _, _, htk⟩
      · simp at h0
      · exact ⟨b, cap, cur, rfl, hb, hh, by simpa [encs, nums] using htk⟩
    have hBits := Bits.made (cap := cap) hh hcur
    have hBel : Below w.heap.size w (w1.alloc (.cells #[.slice (some ⟨b, 0, none⟩) 4 cap, .int .i64 32] 80)) := below_alloc hB _
    have hbw' := hB.size
    clear hv hB hh hcur
    go_wp2
    generalize w1.heap.size = g at *
    generalize w1.alloc (.cells #[.slice (some ⟨b, 0, none⟩) 4 cap, .int .i64 32] 80) = w2 at *
    go_loopw [22] (fun i wr => ∃ k : Nat, k ≤ l0.length ∧ i = .int .i64 k ∧ Aside0 (Bits wr g b cap ((l0.take k).foldl setB [0, 0, 0, 0])) ∧ Aside0 (Below w.heap.size w wr)) (fun i _ => l0.length - (intOf i).toNat)
    case atStart => exact ⟨0, Nat.zero_le _, rfl, ⟨hBits⟩, ⟨hBel⟩⟩
    case round =>
      clear hBits hBel
      obtain ⟨k, hk, rfl, HRk, HBk⟩ := hrel
      by_cases hlt : k < l0.length
      · obtain ⟨ad, rfl, hc0⟩ := Kd.at_int (Kd.C_below R0.out HBk.out) k (by omega) (by omega)
        have hc : wr.cell? (ad.add k) = some (.int .i64 (rd l0 k)) := hc0
        obtain ⟨hx0, hx1⟩ := I0.out (rd l0 k) (by simp [rd, List.getD_eq_getElem?_getD, List.getElem?_eq_getElem hlt])
        have HT := Aside0.mk (show (l0.take (k + 1)).foldl setB [0, 0, 0, 0] = setB ((l0.take k).foldl setB [0, 0, 0, 0]) (rd l0 k) from by
          rw [List.take_succ_eq_append_getElem hlt, List.foldl_append]; simp [rd, List.getD_eq_getElem?_getD, List.getElem?_eq_getElem hlt])
        clear hc0
        generalize rd l0 k = x at *
        go_wp2_with (go_at_call 53; refine (setFlag_any g b cap _ x hx0 hx1 _ HRk.out).mono ?_; rintro e w' ⟨rfl, n, rfl⟩)
        go_roundw
        case rel => exact ⟨k + 1, by omega, by go_num, ⟨by rw [HT.out]; exact HRk.out.put n hx0 hx1 _ (bits_u8 _ _ _)⟩, ⟨below_set (pw_below_drewN HBk.out n) hbw⟩⟩
        case measure => simp [intOf]; omega
      · obtain rfl : k = l0.length := by omega
        have hBits3 : Bits wr g b cap (l0.foldl setB [0, 0, 0, 0]) := by have := HRk.out; rwa [List.take_length] at this
        have hBel3 := HBk.out
        clear HRk HBk
        go_wp2
        obtain ⟨w3, rfl⟩ : ∃ w3 : World, w3 = wr := ⟨_, rfl⟩
        go_loopw [31] (fun i wr => ∃ k : Nat, k ≤ l1.length ∧ i = .int .i64 k ∧ Aside0 (Bits wr g b cap ((l1.take k).foldl unsetB (l0.foldl setB [0, 0, 0, 0]))) ∧ Aside0 (Below w.heap.size w wr)) (fun i _ => l1.length - (intOf i).toNat)
        case atStart => exact ⟨0, Nat.zero_le _, rfl, ⟨hBits3⟩, ⟨hBel3⟩⟩
        case round =>
          clear hBits3 hBel3
          obtain ⟨k, hk, rfl, HRk, HBk⟩ := hrel
          by_cases hlt : k < l1.length
          · obtain ⟨ad, rfl, hc0⟩ := Kd.at_int (Kd.C_below R1.out HBk.out) k (by omega) (by omega)
            have hc : wr.cell? (ad.add k) = some (.int .i64 (rd l1 k)) := hc0
            obtain ⟨hx0, hx1⟩ := I1.out (rd l1 k) (by simp [rd, List.getD_eq_getElem?_getD, List.getElem?_eq_getElem hlt])
            have HT := Aside0.mk (show (l1.take (k + 1)).foldl unsetB (l0.foldl setB [0, 0, 0, 0]) = unsetB ((l1.take k).foldl unsetB (l0.foldl setB [0, 0, 0, 0])) (rd l1 k) from by
              rw [List.take_succ_eq_append_getElem hlt, List.foldl_append]; simp [rd, List.getD_eq_getElem?_getD, List.getElem?_eq_getElem hlt])
            clear hc0
            generalize rd l1 k = x at *
            go_wp2_with (go_at_call 54; refine (unsetFlag_any g b cap _ x hx0 hx1 _ HRk.out).mono ?_; rintro e w' ⟨rfl, n, rfl⟩)
            go_roundw
            case rel => exact ⟨k + 1, by omega, by go_num, ⟨by rw [HT.out]; exact HRk.out.put n hx0 hx1 _ (bits_u8 _ _ _)⟩, ⟨below_set (pw_below_drewN HBk.out n) hbw⟩⟩
            case measure => simp [intOf]; omega
          · obtain rfl : k = l1.length := by omega
            have hBits4 : Bits wr g b cap (l1.foldl unsetB (l0.foldl setB [0, 0, 0, 0])) := by have := HRk.out; rwa [List.take_length] at this
            have hBel4 := HBk.out
            clear HRk HBk
            have HF := Aside0.mk (show l1.foldl unsetB (l0.foldl setB [0, 0, 0, 0]) = flagB l0 l1 from rfl)
            rw [HF.out] at hBits4
            clear HF
            generalize flagB l0 l1 = B at *
            have HR := Aside0.mk hBits4
            have HBr := Aside0.mk hBel4
            clear hBits4 hBel4
            go_wp2
            obtain ⟨w4, rfl⟩ : ∃ w4 : World, w4 = wr := ⟨_, rfl⟩
            go_loopw [10, 44] (fun v i wr => ∃ (k : Nat) (xs : List Value), k ≤ l3.length ∧ i = .int .i64 k ∧ Aside0 (xs = (l3.take k).map fun x => Value.bool (isB B x)) ∧ Aside0 (wr.ownsRow w.heap.size 4 1 v xs.length xs) ∧ Aside0 (Bits wr g b cap B) ∧ Aside0 (Below w.heap.size w wr)) (fun _ i _ => l3.length - (intOf i).toNat)
            case atStart => exact ⟨0, [], Nat.zero_le _, rfl, ⟨rfl⟩, ⟨own_nil _ _ _ _⟩, HR, HBr⟩
            case round =>
              clear HR HBr
              obtain ⟨k, xs, hk, rfl, HX, HO, HR, HBr⟩ := hrel
              by_cases hlt : k < l3.length
              · obtain ⟨ad, rfl, hc0⟩ := Kd.at_int (Kd.C_below R3.out HBr.out) k (by omega) (by omega)
                have hc : wr.cell? (ad.add k) = some (.int .i64 (rd l3 k)) := hc0
                obtain ⟨hx0, hx1⟩ := I3.out (rd l3 k) (by simp [rd, List.getD_eq_getElem?_getD, List.getElem?_eq_getElem hlt])
                have HT := Aside0.mk (show (l3.take (k + 1)).map (fun x => Value.bool (isB B x)) = xs ++ [.bool (isB B (rd l3 k))] from by
                  rw [HX.out, List.take_succ_eq_append_getElem hlt, List.map_append]; simp [rd, List.getD_eq_getElem?_getD, List.getElem?_eq_getElem hlt])
                have HN := Aside0.mk (show xs.length = k from by rw [HX.out]; simp; omega)
                clear hc0 HX
                generalize rd l3 k = x at *
                go_wp2_with (first
                  | (go_at_call 57; refine (isFlagSet_any g b cap B x hx0 hx1 _ HR.out).mono ?_; rintro e w' ⟨rfl, rfl⟩)
                  | (at_builtin; go_loud (refine print_append (w0 := w) w.heap.size rfl _ _ 46 4 (.bool false) 1 rfl Try.underlying46 info4 rfl (by decide) u10 xs (.bool (isB B x)) rfl rfl rfl HO.out HBr.out HBr.out.size (by have := HN.out; omega) ?_); intro v1 w1 hown hB1 hg1 _; have HO1 := Aside0.mk hown; have HB1 := Aside0.mk hB1; have HR1 := Aside0.mk (HR.out.grown hg1 (own_ne HO.out HR.out.1 (by decide)) (by obtain ⟨_, ⟨cells, hh, _⟩, _⟩ := HR.out; exact own_ne HO.out hh (by decide))); clear hown hB1 hg1 HO HR HBr))
                go_roundw
                case rel => exact ⟨k + 1, xs ++ [.bool (isB B x)], by omega, by go_num, ⟨HT.out.symm⟩, HO1, HR1, HB1⟩
                case measure => simp [intOf]; omega
              · obtain rfl : k = l3.length := by omega
                have hb0 : wr.cell? ⟨g, 0, none⟩ = some (.slice (some ⟨b, 0, none⟩) 4 cap) := by rw [blk_cell HR.out.1]; rfl
                have hb1 : wr.cell? ⟨g, 1, none⟩ = some (.int .i64 32) := by rw [blk_cell HR.out.1]; rfl
                have hcv : ∀ n : Nat, (convert 25 9 (.slice (some ⟨b, 0, none⟩) 4 cap)).run Try.prog (wr.drewN n) = .ok (.string (strOfNums B)) (wr.drewN n) := fun n => Bits.str (show Bits (wr.drewN n) g b cap B from HR.out)
                go_wp2
                go_quiet (fail)
                go_wp2
                go_ret3
                refine ⟨_, by rw [← H2.out, ← H3.out]; rfl, ?_, pw_below_drewN HBr.out _⟩
                rw [← H4.out]
                refine Kd.R_of_own ?_ (fun _ _ => trivial)
                have h5 := HO.out
                rw [HX.out, List.take_length] at h5
                have h6 : wr.ownsRow w.heap.size 4 1 u10 (l3.map (isB B)).length (encs Value.bool (l3.map (isB B))) := by simpa [encs, Function.comp_def] using h5
                exact h6

end Go.Proofs.Ythgcpicflmigjaa.F

/- Go functions of this seat come to the answers of the Lean functions that stand here ('.calls'), under what each theorem states and nothing else. Written by pw.py, a program of this session, with texts of its own. -/
import Derived.Test.YthgcpicflmigjaaF0
import Derived.StillTailTactics
import Derived.IntWalk
namespace Go.Proofs.Ythgcpicflmigjaa.F
open Go.RowKit Go.Proofs.YthgcpicflmigjaaW.PrintWords Go.Proofs.YthgcpicflmigjaaW.PrintLast Go.Proofs.YthgcpicflmigjaaW.PrintMore
attribute [local go_sem] max2_int min2_int max_two min_two max_three min_three max_four min_four   -- for this text's walks alone
set_option linter.unusedVariables false
set_option linter.unusedSimpArgs false
set_option maxRecDepth 100000

/-! ### spec_FlagBytes: function 28 -/
-- EXT rounds=0 making=1
/-- Four bytes in a variable of their own. -/
def Four (w : World) (g : Nat) (B : List Int) : Prop := w.heap[g]? = some (.cells (nums .u8 B).toArray 86 (0, 0)) ∧ B.length = 4
theorem Four.cell {w : World} {g : Nat} {B : List Int} (h : Four w g B) (j : Nat) (hj : j < 4) : w.cell? ⟨g, j, none⟩ = some (.int .u8 (B.getD j 0)) ∧ w.frozen? ⟨g, j, none⟩ = false := by
  obtain ⟨hh, hl⟩ := h
  refine ⟨?_, blk_frozen hh j⟩
  rw [blk_cell hh]
  simp [nums, List.getD_eq_getElem?_getD, List.getElem?_eq_getElem (show j < B.length from by omega)]
def in32b (l : List Int) : Bool := l.all fun x => decide (0 ≤ x) && decide (x ≤ 31)
def sBit (i : Int) : Int := 128 / 2 ^ (i % 8).toNat
def sSet (B : List Int) (i : Int) : List Int := B.set (i / 8).toNat (Go.bits .or .u8 (B.getD (i / 8).toNat 0) (sBit i))
def sUnset (B : List Int) (i : Int) : List Int := B.set (i / 8).toNat (Go.bits .andNot .u8 (B.getD (i / 8).toNat 0) (sBit i))
theorem in32b_mem {l : List Int} (h : in32b l = true) : ∀ x ∈ l, 0 ≤ x ∧ x ≤ 31 := fun x hx => by
  have := List.all_eq_true.1 h x hx
  simpa using this
theorem Four.put {w : World} {g : Nat} {B : List Int} (h : Four w g B) (j : Nat) (v : Int) : Four (w.setCell ⟨g, j, none⟩ (.int .u8 v)) g (B.set j v) := by
  obtain ⟨hh, hl⟩ := h
  refine ⟨?_, by simpa using hl⟩
  rw [blk_set hh j (.int .u8 v)]
  simp [nums]
def spec_FlagBytes.f (l0 l1 : List Int) : Option ByteArray := if in32b l0 = true ∧ in32b l1 = true then some (strOfNums (l1.foldl sUnset (l0.foldl sSet [0, 0, 0, 0]))) else none
set_option maxHeartbeats 4000000 in
theorem spec_FlagBytes.calls (A0 : Option Addr) (c0 : Nat) (l0 : List Int) (A1 : Option Addr) (c1 : Nat) (l1 : List Int) (r : ByteArray) (w : World)
    (hr0 : Kd.C (Kd.int .i64) w A0 l0.length l0) (hc0 : l0.length ≤ c0) (hr1 : Kd.C (Kd.int .i64) w A1 l1.length l1) (hc1 : l1.length ≤ c1) (h : spec_FlagBytes.f l0 l1 = some r) :
    Calls Try.prog 28 #[.slice A0 l0.length c0, .slice A1 l1.length c1] w fun e w' => e = .returned (.string r) ∧ Below w.heap.size w w' := by
  unfold spec_FlagBytes.f at h
  by_cases hs : in32b l0 = true ∧ in32b l1 = true
  case neg => rw [if_neg hs] at h; cases h
  rw [if_pos hs] at h
  obtain ⟨i0, i1⟩ := hs
  injection h with h2
  have I0 := Aside0.mk (in32b_mem i0)
  have I1 := Aside0.mk (in32b_mem i1)
  have H2 := Aside0.mk h2
  have R0 := Aside0.mk hr0
  have R1 := Aside0.mk hr1
  have L0 := hr0.2.1
  have L1 := hr1.2.1
  clear i0 i1 h2 hr0 hr1
  go_enter Try.func28, Try.ntmps28
  go_wp2
  have hF : Four (w.alloc (Obj.cells #[.int .u8 0, .int .u8 0, .int .u8 0, .int .u8 0] 86)) w.heap.size [0, 0, 0, 0] := ⟨heap_alloc_new w _, rfl⟩
  have hBe : Below w.heap.size w (w.alloc (Obj.cells #[.int .u8 0, .int .u8 0, .int .u8 0, .int .u8 0] 86)) := below_alloc (Below.refl _ _) _
  obtain ⟨g, hg⟩ : ∃ g, g = w.heap.size := ⟨_, rfl⟩
  have HG := Aside0.mk hg
  rw [← hg] at hF ⊢
  clear hg
  generalize w.alloc (Obj.cells #[.int .u8 0, .int .u8 0, .int .u8 0, .int .u8 0] 86) = w1 at *
  go_loopw [12] (fun i wr => ∃ k : Nat, k ≤ l0.length ∧ i = .int .i64 k ∧ Aside0 (Four wr g ((l0.take k).foldl sSet [0, 0, 0, 0])) ∧ Aside0 (Below w.heap.size w wr)) (fun i _ => l0.length - (intOf i).toNat)
  case atStart => exact ⟨0, Nat.zero_le _, rfl, ⟨hF⟩, ⟨hBe⟩⟩
  case round =>
    clear hF hBe
    obtain ⟨k, hk, rfl, HRk, HBk⟩ := hrel
    by_cases hlt : k < l0.length
    · obtain ⟨ad, rfl, hc0⟩ := Kd.at_int (Kd.C_below R0.out HBk.out) k (by omega) (by omega)
      have hc : wr.cell? (ad.add k) = some (.int .i64 (rd l0 k)) := hc0
      obtain ⟨hx0, hx1⟩ := I0.out (rd l0 k) (by simp [rd, List.getD_eq_getElem?_getD, List.getElem?_eq_getElem hlt])
      have HT := Aside0.mk (show (l0.take (k + 1)).foldl sSet [0, 0, 0, 0] = sSet ((l0.take k).foldl sSet [0, 0, 0, 0]) (rd l0 k) from by
        rw [List.take_succ_eq_append_getElem hlt, List.foldl_append]; simp [rd, List.getD_eq_getElem?_getD, List.getElem?_eq_getElem hlt])
      clear hc0
      generalize (l0.take k).foldl sSet [0, 0, 0, 0] = B at *
      generalize rd l0 k = x at *
      obtain ⟨d0, d1⟩ := HRk.out.cell (x / 8).toNat (by omega)
      rw [List.getD_eq_getElem?_getD] at d0
      have hq0 : 0 ≤ x / 8 := by omega
      have hq1 : x / 8 < 4 := by omega
      have hp0 : 0 ≤ x % 8 := by omega
      have hp1 : x % 8 ≤ 7 := by omega
      have HS := Aside0.mk (show sSet B x = B.set (x / 8).toNat (Go.bits .or .u8 (B[(x / 8).toNat]?.getD 0) (128 / 2 ^ (x % 8).toNat)) from by unfold sSet sBit; rw [List.getD_eq_getElem?_getD])
      go_wp2
      have e1 : IntKind.i64.wrap (x.tdiv 8) = x / 8 := by rw [Int.tdiv_eq_ediv_of_nonneg hx0, IntWalk.i64_in _ (by omega)]
      have e2 : x.tmod 8 = x % 8 := Int.tmod_eq_emod_of_nonneg hx0
      generalize x / 8 = q at *
      generalize x % 8 = p at *
      go_still_tail 8, (by kernel_rfl)
      change wpList _ _ _ _ _ wr.drew
      go_wp2
      go_roundw
      case rel => exact ⟨k + 1, by omega, by go_num, ⟨by rw [HT.out, HS.out]; exact HRk.out.put _ _⟩, ⟨below_set (below_drew HBk.out) (Nat.le_of_eq HG.out.symm)⟩⟩
      case measure => simp [intOf]; omega
    · obtain rfl : k = l0.length := by omega
      have hF3 : Four wr g (l0.foldl sSet [0, 0, 0, 0]) := by have := HRk.out; rwa [List.take_length] at this
      have hB3 := HBk.out
      clear HRk HBk
      go_wp2
      obtain ⟨w3, rfl⟩ : ∃ w3 : World, w3 = wr := ⟨_, rfl⟩
      go_loopw [28] (fun i wr => ∃ k : Nat, k ≤ l1.length ∧ i = .int .i64 k ∧ Aside0 (Four wr g ((l1.take k).foldl sUnset (l0.foldl sSet [0, 0, 0, 0]))) ∧ Aside0 (Below w.heap.size w wr)) (fun i _ => l1.length - (intOf i).toNat)
      case atStart => exact ⟨0, Nat.zero_le _, rfl, ⟨hF3⟩, ⟨hB3⟩⟩
      case round =>
        clear hF3 hB3
        obtain ⟨k, hk, rfl, HRk, HBk⟩ := hrel
        by_cases hlt : k < l1.length
        · obtain ⟨ad, rfl, hc0⟩ := Kd.at_int (Kd.C_below R1.out HBk.out) k (by omega) (by omega)
          have hc : wr.cell? (ad.add k) = some (.int .i64 (rd l1 k)) := hc0
          obtain ⟨hx0, hx1⟩ := I1.out (rd l1 k) (by simp [rd, List.getD_eq_getElem?_getD, List.getElem?_eq_getElem hlt])
          have HT := Aside0.mk (show (l1.take (k + 1)).foldl sUnset (l0.foldl sSet [0, 0, 0, 0]) = sUnset ((l1.take k).foldl sUnset (l0.foldl sSet [0, 0, 0, 0])) (rd l1 k) from by
            rw [List.take_succ_eq_append_getElem hlt, List.foldl_append]; simp [rd, List.getD_eq_getElem?_getD, List.getElem?_eq_getElem hlt])
          clear hc0
          generalize (l1.take k).foldl sUnset (l0.foldl sSet [0, 0, 0, 0]) = B at *
          generalize rd l1 k = x at *
          obtain ⟨d0, d1⟩ := HRk.out.cell (x / 8).toNat (by omega)
          rw [List.getD_eq_getElem?_getD] at d0
          have hq0 : 0 ≤ x / 8 := by omega
          have hq1 : x / 8 < 4 := by omega
          have hp0 : 0 ≤ x % 8 := by omega
          have hp1 : x % 8 ≤ 7 := by omega
          have HS := Aside0.mk (show sUnset B x = B.set (x / 8).toNat (Go.bits .andNot .u8 (B[(x / 8).toNat]?.getD 0) (128 / 2 ^ (x % 8).toNat)) from by unfold sUnset sBit; rw [List.getD_eq_getElem?_getD])
          go_wp2
          have e1 : IntKind.i64.wrap (x.tdiv 8) = x / 8 := by rw [Int.tdiv_eq_ediv_of_nonneg hx0, IntWalk.i64_in _ (by omega)]
          have e2 : x.tmod 8 = x % 8 := Int.tmod_eq_emod_of_nonneg hx0
          generalize x / 8 = q at *
          generalize x % 8 = p at *
          go_still_tail 8, (by kernel_rfl)
          change wpList _ _ _ _ _ wr.drew
          go_wp2
          go_roundw
          case rel => exact ⟨k + 1, by omega, by go_num, ⟨by rw [HT.out, HS.out]; exact HRk.out.put _ _⟩, ⟨below_set (below_drew HBk.out) (Nat.le_of_eq HG.out.symm)⟩⟩
          case measure => simp [intOf]; omega
        · obtain rfl : k = l1.length := by omega
          have hF4 : Four wr g (l1.foldl sUnset (l0.foldl sSet [0, 0, 0, 0])) := by have := HRk.out; rwa [List.take_length] at this
          have hB4 := Aside0.mk HBk.out
          clear HRk HBk
          have hC : (Kd.int .u8).C wr (some ⟨g, 0, none⟩) 4 (l1.foldl sUnset (l0.foldl sSet [0, 0, 0, 0])) := Kd.C_of_reads (d := (0 : Int)) (h1 := fun _ => rfl) ⟨hF4.2, by omega, fun _ => ⟨_, rfl, fun j hj => by rw [add_plain]; exact (hF4.cell j hj).1⟩⟩
          have hcv : (convert 25 9 (.slice (some ⟨g, 0, none⟩) 4 4)).run Try.prog wr = .ok (.string r) wr := by rw [← H2.out]; exact Kd.C_string Try.underlying25 Try.underlying5 Try.underlying9 hC
          clear hC hF4
          go_wp2
          go_ret
          exact ⟨rfl, hB4.out⟩

end Go.Proofs.Ythgcpicflmigjaa.F

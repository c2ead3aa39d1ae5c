/- Go functions of this seat come to the answers of the Lean functions that stand here ('.calls'), under what each theorem states and nothing else. Written by pw.py, a program of this session, with texts of its own. -/
import Derived.Test.YthgcpicflmigjaaF0
import Derived.Test.YthgcpicflmigjaaShelf
namespace Go.Proofs.Ythgcpicflmigjaa.F
open Go.RowKit Go.Proofs.YthgcpicflmigjaaW.PrintWords Go.Proofs.YthgcpicflmigjaaW.PrintLast Go.Proofs.YthgcpicflmigjaaW.PrintMore
attribute [local go_sem] max2_int min2_int max_two min_two max_three min_three max_four min_four   -- for this text's walks alone
set_option linter.unusedVariables false
set_option linter.unusedSimpArgs false
set_option maxRecDepth 100000

/-! ### strings_Join: function 67 -/
-- EXT rounds=0 making=1
/-- The parts, one behind the other, a text between each two. -/
def joinT (l : List ByteArray) (sep : ByteArray) : ByteArray := ⟨(Lib.join (l.map (·.data.toList)) sep.data.toList).toArray⟩
def strings_Join.f (l0 : List ByteArray) (a1 : ByteArray) : Option ByteArray := if l0.length ≤ 140737488355328 ∧ (joinT l0 a1).size ≤ 140737488355328 then some (joinT l0 a1) else none
theorem strings_Join.calls (A0 : Option Addr) (c0 : Nat) (l0 : List ByteArray) (a1 : ByteArray) (r : ByteArray) (w : World) (hr0 : Kd.C Kd.string w A0 l0.length l0) (hc0 : l0.length ≤ c0) (h : strings_Join.f l0 a1 = some r) :
    Calls Try.prog 67 #[.slice A0 l0.length c0, .string a1] w fun e w' => e = .returned (.string r) ∧ Below w.heap.size w w' := by
  unfold strings_Join.f at h
  by_cases hl : l0.length ≤ 140737488355328 ∧ (joinT l0 a1).size ≤ 140737488355328
  case neg => rw [if_neg hl] at h; cases h
  rw [if_pos hl] at h
  obtain rfl := Option.some.inj h
  clear h
  cases l0 with
  | nil => exact (Go.Proofs.Ythgcpicflmigjaa.Shelf.strings_Join_none A0 c0 a1 w).mono fun e w' ⟨he, hw⟩ => ⟨he, hw ▸ Below.refl _ _⟩
  | cons x xs =>
    obtain ⟨ad, rfl, hcell⟩ := hr0.2.2 (by simp)
    have hat : ∀ (j : Nat) y, (x :: xs)[j]? = some y → w.cell? (ad.add j) = some (.string y) := by
      intro j y hy
      obtain ⟨hj, he⟩ := List.getElem?_eq_some_iff.1 hy
      obtain ⟨ad', e1, hc1⟩ := Kd.at_string hr0 (j : Int) (by omega) (by omega)
      injection e1 with e1
      subst e1
      rw [show ((j : Int)).toNat = j from by omega] at hc1
      rw [hc1, rdOf, List.getD_eq_getElem?_getD, show ((j : Int)).toNat = j from by omega, hy]
      rfl
    have h0 := hat 0 x rfl
    have hs : ad.spot = none := World.cell?_spot (show w.cell? ad = _ from h0)
    have hb : ad.block < w.heap.size := World.block_lt_of_cell? w ad (show w.cell? ad = _ from h0)
    have ead : ad = ⟨ad.block, ad.off, none⟩ := by cases ad; cases hs; rfl
    have hat' : ∀ (j : Nat) y, (x :: xs)[j]? = some y → w.cell? ⟨ad.block, ad.off + j, none⟩ = some (.string y) := by
      intro j y hy
      rw [← hat j y hy]
      cases j with
      | zero => exact congrArg w.cell? ead.symm
      | succ j => rfl
    rw [ead]
    have h2 := hl.2
    refine (Go.Proofs.Ythgcpicflmigjaa.Shelf.strings_Join ad.block ad.off c0 (x :: xs) a1 w hat' hb hl.1 hc0 ?_).mono fun e w' ⟨he, hw⟩ => ⟨he, hw⟩
    simpa [joinT, ByteArray.size] using h2

end Go.Proofs.Ythgcpicflmigjaa.F

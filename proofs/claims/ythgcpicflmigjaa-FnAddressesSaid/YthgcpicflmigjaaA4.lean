/- Go functions of this seat come to the answers of the Lean functions that stand here ('.calls'), under what each theorem states and nothing else. Written by pw.py, a program of this session, with texts of its own. -/
import Derived.Test.YthgcpicflmigjaaA0
import Derived.Test.YthgcpicflmigjaaA2
namespace Go.Proofs.Ythgcpicflmigjaa.A
open Go.RowKit Go.Proofs.YthgcpicflmigjaaW.PrintWords Go.Proofs.YthgcpicflmigjaaW.PrintLast Go.Proofs.YthgcpicflmigjaaW.PrintMore
attribute [local go_sem] max2_int min2_int max_two min_two max_three min_three max_four min_four   -- for this text's walks alone
set_option linter.unusedVariables false
set_option linter.unusedSimpArgs false
set_option maxRecDepth 100000

/-! ### impl_AddressIn: function 19 -/
-- EXT rounds=0 making=1
-- NEEDS 20
def impl_AddressIn.f (l0 : List S34) (a1_0 : Int) (a1_1 : ByteArray) : Option Bool := if okA l0 = true ∧ a1_1.size ≤ 140737488355328 then some (l0.any fun a => haEq a.f0 a.f1 a1_0 a1_1) else none
set_option maxHeartbeats 3200000 in
theorem impl_AddressIn.calls (A0 : Option Addr) (c0 : Nat) (l0 : List S34) (a1_0 : Int) (a1_1 : ByteArray) (r : Bool) (w : World) (hr0 : Kd.C k34 w A0 l0.length l0) (hc0 : l0.length ≤ c0) (h : impl_AddressIn.f l0 a1_0 a1_1 = some r) :
    Calls Try.prog 19 #[.slice A0 l0.length c0, .agg #[.int .i32 a1_0, .string a1_1]] w fun e w' => e = .returned (.bool r) ∧ Below w.heap.size w w' := by
  unfold impl_AddressIn.f at h
  by_cases hs : okA l0 = true ∧ a1_1.size ≤ 140737488355328
  case neg => rw [if_neg hs] at h; cases h
  rw [if_pos hs] at h
  obtain rfl := Option.some.inj h
  clear h
  have HS := Aside0.mk hs
  have HR := Aside0.mk hr0
  have HC := Aside0.mk hc0
  clear hs hr0 hc0
  have hu34 := Try.underlying34
  have hu74 := Try.underlying74
  go_enter Try.func19, Try.ntmps19
  go_wp2_with (first
    | (go_at_call 45; refine (addresses_any A0 c0 l0 _ (Kd.C_alloc HR.out _) HC.out (okA_len HS.out.1) (okA_size HS.out.1)).mono ?_; rintro e w1 ⟨v, rfl, hA, hB⟩; obtain ⟨A2, c2, rfl, hc2⟩ := hA.form; have HA := Aside0.mk hA; have HB := Aside0.mk hB; have hz := hB.size; simp at hz; have hlt : w.heap.size < w1.heap.size := by omega
       have k0 := fun o : Obj => ((below_alloc (Below.refl w1.heap.size w1) o).cell (p := ⟨w.heap.size, 0, none⟩) hlt).trans ((hB.cell (p := ⟨w.heap.size, 0, none⟩) (by simp)).trans (by simp [go_sem]) : w1.cell? ⟨w.heap.size, 0, none⟩ = some (.int .i32 a1_0))
       have k1 := fun o : Obj => ((below_alloc (Below.refl w1.heap.size w1) o).cell (p := ⟨w.heap.size, 1, none⟩) hlt).trans ((hB.cell (p := ⟨w.heap.size, 1, none⟩) (by simp)).trans (by simp [go_sem]) : w1.cell? ⟨w.heap.size, 1, none⟩ = some (.string a1_1))
       clear hA hB hz)
    | (go_at_call 47; refine (address_any a1_0 a1_1 _ HS.out.2).mono ?_; rintro e w2 ⟨b, cb, rfl, hb, hlb, hB2⟩; have HB2 := Aside0.mk hB2; have HBY := Aside0.mk hb; clear hb hB2 k0 k1)
    | (go_at_call 46; refine (contains_any w1.heap.size _ b cb _ l0 a1_0 a1_1 _ ((HB2.out.cell (p := ⟨w1.heap.size, 0, none⟩) (by simp)).trans (by simp [go_sem])) ((HA.out.below (below_alloc (Below.refl _ _) _)).below HB2.out) (okA_len HS.out.1) HBY.out).mono ?_; rintro e w3 ⟨rfl, hB3⟩; have HB3 := Aside0.mk hB3; clear hB3))
  go_ret
  exact ⟨rfl, below_step (below_step (below_alloc (below_step (below_alloc (Below.refl _ _) _) HB.out) _) HB2.out) HB3.out⟩

end Go.Proofs.Ythgcpicflmigjaa.A

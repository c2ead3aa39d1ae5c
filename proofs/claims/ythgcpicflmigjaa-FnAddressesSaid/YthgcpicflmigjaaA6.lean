/- Go functions of this seat come to the answers of the Lean functions that stand here ('.calls'), under what each theorem states and nothing else. Written by pw.py, a program of this session, with texts of its own. -/
import Derived.Test.YthgcpicflmigjaaA0
import Derived.Test.YthgcpicflmigjaaA2
namespace Go.Proofs.Ythgcpicflmigjaa.A
open Go.RowKit Go.Proofs.YthgcpicflmigjaaW.PrintWords Go.Proofs.YthgcpicflmigjaaW.PrintLast Go.Proofs.YthgcpicflmigjaaW.PrintMore
attribute [local go_sem] max2_int min2_int max_two min_two max_three min_three max_four min_four   -- for this text's walks alone
set_option linter.unusedVariables false
set_option linter.unusedSimpArgs false
set_option maxRecDepth 100000

/-! ### impl_AddressesEqual: function 22 -/
-- EXT rounds=0 making=1
-- NEEDS 20
def impl_AddressesEqual.f (l0 l1 : List S34) : Option Bool := if okA l0 = true ∧ okA l1 = true then some (hostEq l0 l1) else none
set_option maxHeartbeats 3200000 in
theorem impl_AddressesEqual.calls (A0 : Option Addr) (c0 : Nat) (l0 : List S34) (A1 : Option Addr) (c1 : Nat) (l1 : List S34) (r : Bool) (w : World) (hr0 : Kd.C k34 w A0 l0.length l0) (hc0 : l0.length ≤ c0) (hr1 : Kd.C k34 w A1 l1.length l1) (hc1 : l1.length ≤ c1) (h : impl_AddressesEqual.f l0 l1 = some r) :
    Calls Try.prog 22 #[.slice A0 l0.length c0, .slice A1 l1.length c1] w fun e w' => e = .returned (.bool r) ∧ Below w.heap.size w w' := by
  unfold impl_AddressesEqual.f at h
  by_cases hs : okA l0 = true ∧ okA l1 = true
  case neg => rw [if_neg hs] at h; cases h
  rw [if_pos hs] at h
  obtain rfl := Option.some.inj h
  clear h
  have HS := Aside0.mk hs
  have HR0 := Aside0.mk hr0
  have HR1 := Aside0.mk hr1
  have HC0 := Aside0.mk hc0
  have HC1 := Aside0.mk hc1
  have HA := addresses_any A0 c0 l0 w hr0 hc0 (okA_len hs.1) (okA_size hs.1)
  have HAA := Aside0.mk HA
  clear hs hr0 hr1 hc0 hc1 HA
  go_enter Try.func22, Try.ntmps22
  go_wp2_with (first
    | (go_at_call_of 45 (Value.slice A0 l0.length c0); refine HAA.out.mono ?_; rintro e w1 ⟨v0, rfl, hA, hB⟩; have HA0 := Aside0.mk hA; have HB0 := Aside0.mk hB; clear hA hB HAA)
    | (go_at_call_of 45 (Value.slice A1 l1.length c1); refine (addresses_any A1 c1 l1 _ (Kd.C_below HR1.out HB0.out) HC1.out (okA_len HS.out.2) (okA_size HS.out.2)).mono ?_; rintro e w2 ⟨v1, rfl, hA, hB⟩; have HA1 := Aside0.mk hA; have HB1 := Aside0.mk hB; clear hA hB)
    | (go_at_call 49; refine (hostEq_any _ _ _ _ l0 l1 _ (HA0.out.below HB1.out) HA1.out (okA_len HS.out.1) (okA_len HS.out.2)).mono ?_; rintro e w3 ⟨rfl, hB⟩; have HB2 := Aside0.mk hB; clear hB))
  go_ret
  exact ⟨rfl, below_step (below_step HB0.out HB1.out) HB2.out⟩

end Go.Proofs.Ythgcpicflmigjaa.A

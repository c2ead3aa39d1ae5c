/- Go functions of this seat come to the answers of the Lean functions that stand here ('.calls'), under what each theorem states and nothing else. Written by pw.py, a program of this session, with texts of its own. -/
import Derived.Test.YthgcpicflmigjaaQ0
import Derived.Test.YthgcpicflmigjaaQ5
namespace Go.Proofs.Ythgcpicflmigjaa.Q
open Go.RowKit Go.Proofs.YthgcpicflmigjaaW.PrintWords Go.Proofs.YthgcpicflmigjaaW.PrintLast Go.Proofs.YthgcpicflmigjaaW.PrintMore
attribute [local go_sem] max2_int min2_int max_two min_two max_three min_three max_four min_four   -- for this text's walks alone
set_option linter.unusedVariables false
set_option linter.unusedSimpArgs false
set_option maxRecDepth 100000

/-! ### impl_AppTag: function 23 -/
-- EXT rounds=1 making=1
-- NEEDS 50
def impl_AppTag.f (k : Nat) (a0 : ByteArray) (a1 : Int) : Option ByteArray := if a0.size ≤ 140737488355328 then ((asn1tools_AddASNAppTag.f k (bytesOf a0) a1).bind fun t => some (strOfNums t)) else none
theorem impl_AppTag.mono : ∀ a0 a1 k, LeO (impl_AppTag.f k a0 a1) (impl_AppTag.f (k + 1) a0 a1) := by
  intro a0 a1 k
  unfold impl_AppTag.f
  exact LeO.ite (LeO.bind (asn1tools_AddASNAppTag.mono _ _ _) fun _ => LeO.refl _) (LeO.none _)
set_option maxHeartbeats 800000 in
theorem impl_AppTag.calls (k : Nat) (a0 : ByteArray) (a1 : Int) (r : ByteArray) (w : World) (h : impl_AppTag.f k a0 a1 = some r) :
    Calls Try.prog 23 #[.string a0, .int .i64 a1] w fun e w' => e = .returned (.string r) ∧ Below w.heap.size w w' := by
  unfold impl_AppTag.f at h
  by_cases hs : a0.size ≤ 140737488355328
  · rw [if_pos hs] at h
    obtain ⟨t, ht, hr⟩ := Option.bind_eq_some_iff.mp h
    obtain rfl := Option.some.inj hr
    have A2 := Aside0.mk ht
    have hC : Aside0 ((Kd.int .u8).C (Lib.bytesWorld w 5 a0) (some ⟨w.heap.size, 0, none⟩) (bytesOf a0).length (bytesOf a0)) := by
      rw [bytesOf_length]; exact Aside0.mk (Kd.C_of_reads (d := (0 : Int)) (h1 := fun _ => rfl) (bytes_reads w 5 a0 (by omega)))
    have HB := Aside0.mk (bytes_below (Below.refl w.heap.size w) (Nat.le_refl _) 5 a0)
    have hcv : (convert 9 25 (.string a0)).run Try.prog w = .ok (.slice (some ⟨w.heap.size, 0, none⟩) (bytesOf a0).length (grownCap w a0.size 0 5)) (Lib.bytesWorld w 5 a0) := by
      rw [bytesOf_length]; exact Lib.run_convert_string_bytes w 9 25 5 a0 Try.underlying9 Try.underlying25 Try.underlying5
    have hcap : (bytesOf a0).length ≤ grownCap w a0.size 0 5 := by
      rw [bytesOf_length]; exact grownCap_ge _ _ _ _
    clear h ht hr hs
    go_enter Try.func23, Try.ntmps23
    go_wp2_with fail
    refine (asn1tools_AddASNAppTag.calls k _ _ (bytesOf a0) a1 t _ hC.out hcap A2.out).mono ?_
    rintro e w3 ⟨v, rfl, ho, hb⟩
    have HB' := Aside0.mk (below_step HB.out hb)
    have hcv2 := own_string (P := Try.prog) Try.underlying25 Try.underlying5 Try.underlying9 (Kd.own_of_R ho)
    clear hcv ho hb HB
    go_wp2
    go_ret
    exact ⟨rfl, HB'.out⟩
  · rw [if_neg hs] at h
    cases h

end Go.Proofs.Ythgcpicflmigjaa.Q

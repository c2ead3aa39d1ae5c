/- Go functions of this seat come to the answers of the Lean functions that stand here ('.calls'), under what each theorem states and nothing else. Written by pw.py, a program of this session, with texts of its own. -/
import Derived.Test.YtnipcocllhfaoaaA0
namespace Go.Proofs.Ytnipcocllhfaoaa.A
open Go.RowKit Go.Proofs.YtnipcocllhfaoaaW.PrintWords Go.Proofs.YtnipcocllhfaoaaW.PrintLast Go.Proofs.YtnipcocllhfaoaaW.PrintMore
attribute [local go_sem] max2_int min2_int max_two min_two max_three min_three max_four min_four   -- for this text's walks alone
set_option linter.unusedVariables false
set_option linter.unusedSimpArgs false
set_option maxRecDepth 100000

/-! ### laws_ccVersion: function 13 -/
def laws_ccVersion.f (a0 : Int) : Option (Int) := some ((3 + (Int.tmod a0 2)) % 256)
set_option maxHeartbeats 8000000 in
set_option maxRecDepth 100000 in
theorem laws_ccVersion.calls (a0 : Int) (r : Int) (w : World) (h : laws_ccVersion.f a0 = some r) :
    Calls Try.prog 13 #[.int .u8 a0] w fun e w' => e = .returned (.int .u8 r) ∧ Drawn0 w w' := by
  have H : (some ((3 + (Int.tmod a0 2)) % 256)) = some r := h
  clear h
  obtain rfl := Option.some.inj H
  go_enter Try.func13, Try.ntmps13
  go_wp2
  go_ret
  exact ⟨by first | rfl | (simp; done) | (simp [*]; done), by repeat (first | exact Drawn0.refl _ | apply Drawn0.step)⟩

end Go.Proofs.Ytnipcocllhfaoaa.A

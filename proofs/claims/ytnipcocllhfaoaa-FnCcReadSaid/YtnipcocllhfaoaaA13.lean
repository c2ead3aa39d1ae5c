/- Go functions of this seat come to the answers of the Lean functions that stand here ('.calls'), under what each theorem states and nothing else. Written by pw.py, a program of this session, with texts of its own. -/
import Derived.Test.YtnipcocllhfaoaaA0
import Derived.Test.YtnipcocllhfaoaaA10
import Derived.Test.YtnipcocllhfaoaaA12
import Derived.Test.YtnipcocllhfaoaaE0
namespace Go.Proofs.Ytnipcocllhfaoaa.A
open Go.RowKit Go.Proofs.YtnipcocllhfaoaaW.PrintWords Go.Proofs.YtnipcocllhfaoaaW.PrintLast
open Go.Proofs.Ytnipcocllhfaoaa.B (gate_callee gate_builtin)
set_option linter.unusedVariables false
set_option linter.unusedSimpArgs false
set_option maxRecDepth 100000

/-! ### laws_credsSame: function 19 -/
-- EXT rounds=0 making=1
-- NEEDS 37
theorem laws_credsSame.same (xs : List S47) (A1 A2 : Option Addr) (c1 c2 : Nat) (w : World) (h1 : Kd.C k47 w A1 xs.length xs) (h2 : Kd.C k36 w A2 xs.length (xs.map laws_ofCred.of)) (hl : ∀ x ∈ xs, x.f10.length ≤ 1000000 ∧ x.f11.length ≤ 1000000) :
    Calls Try.prog 19 #[.slice A1 xs.length c1, .slice A2 xs.length c2] w fun e w' => e = .returned (.bool true) ∧ Below w.heap.size w w' := by
  have H1 := Aside0.mk h1
  have H2 := Aside0.mk h2
  have HL := Aside0.mk hl
  clear h1 h2 hl
  go_enter Try.func19, Try.ntmps19
  go_wp2_with fail
  refine (spec_Cred.same xs A1 A2 c1 c2 _ H1.out H2.out HL.out).mono ?_
  rintro e w2 ⟨rfl, hb⟩
  have BL := Aside0.mk hb
  clear hb
  go_wp2
  go_ret
  exact ⟨rfl, BL.out⟩

end Go.Proofs.Ytnipcocllhfaoaa.A

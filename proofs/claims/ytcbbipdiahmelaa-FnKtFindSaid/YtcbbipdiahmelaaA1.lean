/- Go functions of this seat come to the answers of the Lean functions that stand here ('.calls'), under what each theorem states and nothing else. Written by pw.py, a program of this session, with texts of its own. -/
import Derived.Test.YtcbbipdiahmelaaA0
import Derived.Test.YtcbbipdiahmelaaB25
namespace Go.Proofs.Ytcbbipdiahmelaa.A
open Go.RowKit Go.Proofs.YtcbbipdiahmelaaW.PrintWords Go.Proofs.YtcbbipdiahmelaaW.PrintLast
open Go.Proofs.Ytcbbipdiahmelaa.B (gate_callee gate_builtin)
set_option linter.unusedVariables false
set_option linter.unusedSimpArgs false
set_option maxRecDepth 100000

/-! ### laws_FnKtFind: function 6 -/
-- EXT rounds=0 making=1
-- NEEDS
-- KIND st:25
-- KIND st:91
-- KIND st:106
-- KIND st:49
theorem laws_FnKtFind.walk (A0 : Option Addr) (c0 : Nat) (l0 : List (S25)) (A1 : Option Addr) (c1 : Nat) (l1 : List ByteArray) (a2 : ByteArray) (a3 : Int) (a4 : Int) (w : World) (hr0 : Kd.C k25 w A0 l0.length l0) (hc0 : l0.length ≤ c0) (hr1 : Kd.C Kd.string w A1 l1.length l1) (hc1 : l1.length ≤ c1) (g0 : l0.length ≤ 9223372036854775807 ∧ ∀ y0_ : S25, y0_ ∈ l0 → (y0_.f0.size ≤ maxLen) ∧ (y0_.f1.length ≤ 9223372036854775807 ∧ ∀ y1_ : ByteArray, y1_ ∈ y0_.f1 → y1_.size ≤ maxLen) ∧ ((Lit.int .i32 y0_.f2).wf = true) ∧ ((Lit.int .i64 y0_.f3).wf = true) ∧ ((Lit.int .u8 y0_.f4).wf = true) ∧ ((Lit.int .u32 y0_.f5).wf = true) ∧ ((Lit.int .i32 y0_.f6).wf = true) ∧ (y0_.f7.size ≤ maxLen)) (g1 : l1.length ≤ 9223372036854775807 ∧ ∀ y0_ : ByteArray, y0_ ∈ l1 → y0_.size ≤ maxLen) (g2 : a2.size ≤ 140737488351232) (g3 : (Lit.int .u16 a3).wf = true) (g4 : (Lit.int .i32 a4).wf = true) :
    Calls Try.prog 6 #[.slice A0 l0.length c0, .slice A1 l1.length c1, .string a2, .int .u16 a3, .int .i32 a4] w fun e w' => e = .returned (.bool true) ∧ Below w.heap.size w w' := by
  exact B.findLaw l0 l1 a2 a3 a4 A0 A1 c0 c1 w hr0 hr1 (B.wf_u16 g3) (B.wf_i32 g4) (fun e he => by have := g0.2 e he; exact ⟨B.wf_i32 this.2.2.1, B.wf_u8 this.2.2.2.2.1, B.wf_u32 this.2.2.2.2.2.1⟩)

end Go.Proofs.Ytcbbipdiahmelaa.A

/- Small steps that these walks lean on (which operation stands next; an elder row behind what was made); under what each theorem states. -/
import Derived.Test.YtcbbipdiahmelaaWWords
import Derived.Test.YtcbbipdiahmelaaWLast
import Derived.Test.YtcbbipdiahmelaaWTab
import Derived.Test.YtcbbipdiahmelaaWApart
import Derived.Test.YtcbbipdiahmelaaWGuard
import Derived.Test.YtcbbipdiahmelaaWQPut
import Derived.Test.YtcbbipdiahmelaaWRepsOne
import Derived.Laws.BitsAllLaws
namespace Go.Proofs.Ytcbbipdiahmelaa.B
open Go.RowKit Go.Proofs.YtcbbipdiahmelaaW.PrintWords
section
variable {P : Program} {ops : Array Oper} {rest : List Oper} {o : Oper} {a : Act} {Q : Exit → Act → World → Prop} {W : World}
/-- Next comes a call of this function. -/
theorem gate_callee {f : FuncId} {xs : Array Operand} {ts : Array TypeId} (_h : o.op = .call { callee := .value (.func f), args := xs, argTypes := ts }) (k : wpList P ops Q (o :: rest) a W) : wpList P ops Q (o :: rest) a W := k
/-- Next comes a builtin with these operands. -/
theorem gate_builtin {b : Builtin} {xs : Array Operand} {ts : Array TypeId} (_h : o.op = .call { callee := .builtin b, args := xs, argTypes := ts }) (k : wpList P ops Q (o :: rest) a W) : wpList P ops Q (o :: rest) a W := k
end
theorem Kd.R_old {α : Type} {d : Kd α} {e base : Nat} {ok : Nat → Prop} {w w1 : World} {u : Value} {xs : List α} (h : d.R e w base ok u xs) (hb : Below w.heap.size w w1) : d.R e w1 base (fun k => ok k ∧ k < w.heap.size) u xs := by
  have h1 := Kd.R_below (Kd.R_bound h) hb
  exact Kd.R_mono h1 fun k hk => ⟨hk.1, hk.2.2.1⟩
end Go.Proofs.Ytcbbipdiahmelaa.B

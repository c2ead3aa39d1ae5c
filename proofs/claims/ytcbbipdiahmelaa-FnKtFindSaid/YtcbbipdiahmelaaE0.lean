/- Steps of a walk that take a whole struct at once: read out of a row, written into a new variable; under what each theorem states. -/
import Derived.Test.YtcbbipdiahmelaaB0
namespace Go.Proofs.Ytcbbipdiahmelaa.B
open Go.RowKit Go.Proofs.YtcbbipdiahmelaaW.PrintWords Go.Proofs.YtcbbipdiahmelaaW.PrintLast
set_option linter.unusedVariables false
set_option linter.unusedSimpArgs false
theorem u64u32 (x : Int) : IntKind.u64.wrap (IntKind.u32.wrap x) = x % 4294967296 := by
  rw [IntKind.wrap_u32, IntKind.wrap_u64]
  omega
theorem ite_some {α : Type} {c : Prop} [Decidable c] {x : Option α} {r : α} (h : (if c then x else none) = some r) : c ∧ x = some r := by
  by_cases hc : c
  · rw [if_pos hc] at h; exact ⟨hc, h⟩
  · rw [if_neg hc] at h; cases h
section
variable {P : Program} {ops : Array Oper} {rest : List Oper} {o : Oper} {a : Act} {Q : Exit → Act → World → Prop} {W : World}
/-- A struct is read: its cells, one behind the other. -/
theorem load_cells_event (hgd : o.guard = none) {N : Tmp} (_hd : o.dst = some N) (ty : TypeId) (x : Operand) (p : Addr) (cs : List Value) (d : TypeDesc)
    (hop : o.op = .load ty x) (hx : a.eval x = .pointer (some p)) (hc : ∀ j v, cs[j]? = some v → W.cell? (p.add j) = some v)
    (hu : P.underlying ty = some d) (hd : (match d with | .struct _ | .array _ _ => true | _ => false) = true) (hi : (P.info? ty).map (·.size) = some cs.length)
    (h : wpList P ops Q rest (a.put o.dst (.agg cs.toArray)) W) : wpList P ops Q (o :: rest) a W := by
  have hl : (loadCells p cs.length).run P W = .ok cs.toArray W := run_loadCells_list (P := P) W p cs hc
  refine Kd.event_run hgd (v := .agg cs.toArray) (w1 := W) ?_ h
  cases hq : P.info? ty with
  | none => simp [hq] at hi
  | some i =>
    have hs : i.size = cs.length := by simpa [hq] using hi
    have hagg : (isAgg ty).run P W = .ok true W := by
      unfold isAgg
      rw [Sem.run_bind, run_underlying hu W]
      cases d <;> simp_all
    have hv : (loadVar ty p).run P W = .ok (.agg cs.toArray) W := by simp [loadVar, Sem.run_bind, hagg, sizeOf, typeInfo, hq, hs, hl]
    simp [execOp, hop, hx, hv, Instr.loadAt, Instr.sureAddr]
/-- A struct that fills a block is read. -/
theorem row_event (hgd : o.guard = none) {N : Tmp} (_hd : o.dst = some N) (ty : TypeId) (x : Operand) (g t : Nat) (cs : Array Value) (d : TypeDesc)
    (hop : o.op = .load ty x) (hx : a.eval x = .pointer (some ⟨g, 0, none⟩)) (hb : W.heap[g]? = some (.cells cs t (0, 0))) (hu : P.underlying ty = some d) (hd : (match d with | .struct _ | .array _ _ => true | _ => false) = true) (hi : (P.info? ty).map (·.size) = some cs.size)
    (h : wpList P ops Q rest (a.put o.dst (.agg cs)) W) : wpList P ops Q (o :: rest) a W := by
  have hl := run_loadVar_row (P := P) W g t ty cs (0, 0) d hb hu hd hi
  refine Kd.event_run hgd (v := .agg cs) (w1 := W) ?_ h
  simp [execOp, hop, hx, asAddr, hl, Instr.loadAt, Instr.sureAddr]
/-- The same as a run, for a region that draws its order. -/
theorem load_array_run (ty : TypeId) (x : Operand) (p : Addr) (cs : Array Value) (d : TypeDesc) {op : Oper} (hop : op.op = .load ty x) (hx : a.eval x = .pointer (some p)) (hc : ∀ (j : Nat) (v : Value), cs.toList[j]? = some v → W.cell? (p.add j) = some v)
    (hd : (match d with | .struct _ | .array _ _ => true | _ => false) = true) (hu : P.underlying ty = some d) (hi : (P.info? ty).map (·.size) = some cs.size) : (execOp a.eval op).run P W = .ok (.value (.agg cs)) W := by
  have hl : (loadCells p cs.toList.length).run P W = .ok cs.toList.toArray W := run_loadCells_list (P := P) W p cs.toList hc
  rw [Array.toArray_toList, Array.length_toList] at hl
  cases hq : P.info? ty with
  | none => simp [hq] at hi
  | some i =>
    have hs : i.size = cs.size := by simpa [hq] using hi
    have hagg : (isAgg ty).run P W = .ok true W := by
      unfold isAgg
      rw [Sem.run_bind, run_underlying hu W]
      cases d <;> simp_all
    have hv : (loadVar ty p).run P W = .ok (.agg cs) W := by simp [loadVar, Sem.run_bind, hagg, sizeOf, typeInfo, hq, hs, hl]
    simp [execOp, hop, hx, hv, Instr.loadAt, Instr.sureAddr]
/-- A struct that fills a block, as a run. -/
theorem row_run (ty : TypeId) (x : Operand) (g t : Nat) (cs : Array Value) (d : TypeDesc) {op : Oper} (hop : op.op = .load ty x) (hx : a.eval x = .pointer (some ⟨g, 0, none⟩)) (hb : W.heap[g]? = some (.cells cs t (0, 0)))
    (hd : (match d with | .struct _ | .array _ _ => true | _ => false) = true) (hu : P.underlying ty = some d) (hi : (P.info? ty).map (·.size) = some cs.size) : (execOp a.eval op).run P W = .ok (.value (.agg cs)) W := by
  have hl := run_loadVar_row (P := P) W g t ty cs (0, 0) d hb hu (by cases d <;> simp_all) hi
  simp [execOp, hop, hx, asAddr, hl, Instr.loadAt, Instr.sureAddr]
theorem below_row_set {w0 W : World} {g : Nat} (h : Below w0.heap.size w0 W) (hg : w0.heap.size ≤ g) (cs : Array Value) : Below w0.heap.size w0 (W.setRow g cs) :=
  ⟨h.os, h.tape, h.output, by simpa using h.size, fun k hk => (setRow_other W g k cs (by omega)).trans (h.block k hk)⟩
/-- A struct is written over a whole block. -/
theorem store_event (hgd : o.guard = none) (ty : TypeId) (x y : Operand) (ho : o.op = .store ty x y) (g : Nat) (cells : Array Value) (hx : a.eval x = .pointer (some ⟨g, 0, none⟩)) (hy : a.eval y = .agg cells)
    (t : TypeId) (old : Array Value) (hg : W.heap[g]? = some (.cells old t (0, 0))) (hi : (P.info? ty).map (·.size) = some cells.size) (hold : old.size = cells.size) (h1 : cells.all (·.oneCell') = true)
    (h : ∀ w1, w1.heap[g]? = some (.cells cells t (0, 0)) → (∀ w0 : World, Below w0.heap.size w0 W → w0.heap.size ≤ g → Below w0.heap.size w0 w1) → w1.heap.size = W.heap.size → (∀ k, k ≠ g → w1.heap[k]? = W.heap[k]?) → wpList P ops Q rest (a.put o.dst undef) w1) :
    wpList P ops Q (o :: rest) a W :=
  wpList_plain hgd fun _ hK => wp_store_row ty x y ho g cells hx hy t old hg hi hold h1 (hK _ _ (h _ (setRow_heap W g old cells t (0, 0) hg) (fun _ hb hk => below_row_set hb hk cells) (by simp) (fun k hk => setRow_other W g k cells hk)))
end
end Go.Proofs.Ytcbbipdiahmelaa.B

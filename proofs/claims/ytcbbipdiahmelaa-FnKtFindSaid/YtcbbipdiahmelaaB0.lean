/- Words of this seat: what a reader of bytes holds in memory, and how a call of one moves it on; no condition. -/
import Derived.Test.YtcbbipdiahmelaaProg
import Derived.Below
import Derived.Deep.Draws
import Derived.Deep.AppendLies
import Derived.Maps.AppendAt
import Derived.OwnWalk
import Derived.Laws.BytesArg
import Derived.Laws.MakeOwn
import Derived.Laws.OwnMore
import Derived.Deep.OwnRows
import Derived.Tactics
import Derived.Lib.ConvBytes
import Derived.Laws.Slices
import Derived.WalkKit
import Derived.KernelRfl
import Derived.RowKit3
import Derived.Deep.LoopGhost
import Derived.Deep.QuietTactic
import Derived.BigQuiet
import Derived.WideLaws
import Derived.Deep.DeepCutAuto
import Derived.Deep.CutBlock
import Derived.Deep.RegionHeld3
import Derived.Laws.Rows
import Derived.Lib.AppendStr
import Derived.ArgAppend
import Derived.Laws.IdiomCopy
import Derived.OrdersHeld
import Derived.Laws.BitsLemmas
import Derived.RowKit
import Derived.Test.YtcbbipdiahmelaaL0
import Derived.StillTailTactics
import Derived.Defers
import Derived.Recover
import Derived.IntWalk
import Derived.Laws.BitsAllLaws
import Derived.Test.YtcbbipdiahmelaaReg
namespace Go.Proofs.Ytcbbipdiahmelaa.B
open Go.RowKit Go.Proofs.YtcbbipdiahmelaaW.PrintWords Go.Proofs.YtcbbipdiahmelaaW.PrintLast
set_option linter.unusedVariables false
set_option linter.unusedSimpArgs false
set_option maxRecDepth 100000

theorem nat_join (x y k : Nat) (h : x < 2 ^ k) : x ||| y * 2 ^ k = y * 2 ^ k + x := by
  rw [Nat.or_comm, ← Nat.shiftLeft_eq, ← Nat.shiftLeft_add_eq_or_of_lt h, Nat.shiftLeft_eq]
theorem join16 (a b : Int) (h1 : 0 ≤ a) (h2 : a < 256) (h3 : 0 ≤ b) (h4 : b < 256) : bits .or .u16 a (b * 256) = b * 256 + a := by
  rw [u16_or a (b * 256) h1 (by omega) (by omega) (by omega)]
  obtain ⟨x, rfl⟩ := Int.eq_ofNat_of_zero_le h1
  obtain ⟨y, rfl⟩ := Int.eq_ofNat_of_zero_le h3
  simp only [Int.toNat_natCast]
  rw [show (((y : Int) * 256).toNat) = y * 2 ^ 8 from by omega, nat_join x y 8 (by omega)]
  omega
theorem join8 (a b : Int) (h1 : 0 ≤ a) (h2 : a < 256) (h3 : 0 ≤ b) (h4 : b < 256) : bits .or .u32 a (b * 256) = b * 256 + a := by
  rw [u32_or a (b * 256) h1 (by omega) (by omega) (by omega)]
  obtain ⟨x, rfl⟩ := Int.eq_ofNat_of_zero_le h1
  obtain ⟨y, rfl⟩ := Int.eq_ofNat_of_zero_le h3
  simp only [Int.toNat_natCast]
  rw [show (((y : Int) * 256).toNat) = y * 2 ^ 8 from by omega, nat_join x y 8 (by omega)]
  omega
theorem join2 (a b : Int) (h1 : 0 ≤ a) (h2 : a < 65536) (h3 : 0 ≤ b) (h4 : b < 256) : bits .or .u32 a (b * 65536) = b * 65536 + a := by
  rw [u32_or a (b * 65536) h1 (by omega) (by omega) (by omega)]
  obtain ⟨x, rfl⟩ := Int.eq_ofNat_of_zero_le h1
  obtain ⟨y, rfl⟩ := Int.eq_ofNat_of_zero_le h3
  simp only [Int.toNat_natCast]
  rw [show (((y : Int) * 65536).toNat) = y * 2 ^ 16 from by omega, nat_join x y 16 (by omega)]
  omega
theorem join3 (a b : Int) (h1 : 0 ≤ a) (h2 : a < 16777216) (h3 : 0 ≤ b) (h4 : b < 256) : bits .or .u32 a (b * 16777216) = b * 16777216 + a := by
  rw [u32_or a (b * 16777216) h1 (by omega) (by omega) (by omega)]
  obtain ⟨x, rfl⟩ := Int.eq_ofNat_of_zero_le h1
  obtain ⟨y, rfl⟩ := Int.eq_ofNat_of_zero_le h3
  simp only [Int.toNat_natCast]
  rw [show (((y : Int) * 16777216).toNat) = y * 2 ^ 24 from by omega, nat_join x y 24 (by omega)]
  omega

/-! ### What a reader is handed -/
/-- The bytes, and the order of bytes: the highest one first. -/
structure Src (w : World) (gb ge : Nat) (l : List Int) : Prop where
  row : w.heap[gb]? = some (.cells (nums .u8 l).toArray 5 (0, 0))
  order : w.heap[ge]? = some (.cells #[.iface 79 (.agg #[])] 77 (0, 0))
/-- The place of the next byte. -/
def Pos (w : World) (gp p : Nat) : Prop := w.heap[gp]? = some (.cells #[.int .i64 p] 3 (0, 0))
/-- Bytes as numbers. -/
def okBytes (l : List Int) : Prop := l.length ≤ 1099511627776 ∧ ∀ x ∈ l, 0 ≤ x ∧ x < 256
theorem okBytes.at_ {l : List Int} (h : okBytes l) (p : Nat) : 0 ≤ l.getD p 0 ∧ l.getD p 0 < 256 := by
  rw [List.getD_eq_getElem?_getD]
  rcases Nat.lt_or_ge p l.length with hp | hp
  · rw [List.getElem?_eq_getElem hp]; exact h.2 _ (List.getElem_mem hp)
  · rw [List.getElem?_eq_none hp]; simp
section
variable {w w' : World} {gb ge gp p : Nat} {l : List Int}
theorem Src.cell (h : Src w gb ge l) (j : Nat) (hj : j < l.length) : w.cell? ⟨gb, j, none⟩ = some (.int .u8 (l.getD j 0)) := by
  rw [blk_cell h.row]
  simp [nums, List.getD_eq_getElem?_getD, List.getElem?_eq_getElem hj]
theorem Src.end_ (h : Src w gb ge l) : w.cell? ⟨ge, 0, none⟩ = some (.iface 79 (.agg #[])) := (blk_cell h.order 0).trans rfl
theorem Pos.cell (h : Pos w gp p) : w.cell? ⟨gp, 0, none⟩ = some (.int .i64 p) := (blk_cell h 0).trans rfl
theorem Pos.free (h : Pos w gp p) : w.frozen? ⟨gp, 0, none⟩ = false := blk_frozen h 0
theorem Src.keep (h : Src w gb ge l) (hk : ∀ k, k < w.heap.size → (∀ cs, w.heap[k]? ≠ some (.cells cs 3 (0, 0))) → w'.heap[k]? = w.heap[k]?) : Src w' gb ge l :=
  ⟨(hk _ (blk_lt h.row) fun cs hc => by rw [h.row] at hc; cases hc).trans h.row, (hk _ (blk_lt h.order) fun cs hc => by rw [h.order] at hc; cases hc).trans h.order⟩
theorem Src.grown (h : Src w gb ge l) (hp : Pos w gp p) (hg : w.grownBy w' (some gp)) : Src w' gb ge l :=
  h.keep fun k hk hn => hg.block k hk fun e => by injection e with e; subst e; exact hn _ hp
theorem Src.below (h : Src w gb ge l) (hb : Below w.heap.size w w') : Src w' gb ge l := h.keep fun k hk _ => hb.block k hk
theorem Pos.below (h : Pos w gp p) (hb : Below w.heap.size w w') : Pos w' gp p := blk_below h hb
/-- Another block has been written (its type is another one). -/
theorem Src.set {t : TypeId} {g i : Nat} {cs : Array Value} {v : Value} (h : Src w gb ge l) (hg : w.heap[g]? = some (.cells cs t (0, 0))) (h5 : t ≠ 5) (h77 : t ≠ 77) : Src (w.setCell ⟨g, i, none⟩ v) gb ge l :=
  ⟨blk_far h.row (blk_ne h.row hg (Ne.symm h5)) _, blk_far h.order (blk_ne h.order hg (Ne.symm h77)) _⟩
theorem Pos.set {t : TypeId} {g i : Nat} {cs : Array Value} {v : Value} (h : Pos w gp p) (hg : w.heap[g]? = some (.cells cs t (0, 0))) (h3 : t ≠ 3) : Pos (w.setCell ⟨g, i, none⟩ v) gp p :=
  blk_far h (blk_ne h hg (Ne.symm h3)) _
theorem grown_set {row : Option Nat} {g i : Nat} {v : Value} {w0 : World} (h : w0.grownBy w row) (hg : w0.heap.size ≤ g ∨ row = some g) : w0.grownBy (w.setCell ⟨g, i, none⟩ v) row := by
  refine ⟨h.os, h.tape, h.output, by simpa using h.size, fun k hk hr => ?_⟩
  rw [Below.heap_setCell _ _ _ _ (by show k ≠ g; rintro rfl; rcases hg with hg | hg
                                     · omega
                                     · exact hr hg.symm)]
  exact h.block k hk hr
theorem grown_alloc {row : Option Nat} {w0 : World} (h : w0.grownBy w row) (o : Obj) : w0.grownBy (w.alloc o) row := h.trans (World.grownBy_alloc w o row)
theorem grown_drewN {row : Option Nat} {w0 : World} (h : w0.grownBy w row) (n : Nat) : w0.grownBy (w.drewN n) row := ⟨h.os, h.tape, h.output, h.size, h.block⟩
theorem grown_drew {row : Option Nat} {w0 : World} (h : w0.grownBy w row) : w0.grownBy w.drew row := ⟨h.os, h.tape, h.output, h.size, h.block⟩
theorem grown_below {row : Option Nat} {w0 : World} (h : w0.grownBy w row) (hb : Below w.heap.size w w') : w0.grownBy w' row := h.trans (grown_of_below hb row)
/-- The place has been moved. -/
theorem Pos.put (h : Pos w gp p) (q : Nat) : Pos (w.setCell ⟨gp, 0, none⟩ (.int .i64 q)) gp q := blk_set h 0 _
end
/-- 'xs[p:q]' of a cut row, p ahead of q. -/
theorem cut_at {P : Program} (t e : TypeId) {i : TypeInfo} (ht : P.underlying t = some (.slice e)) (hi : P.info? e = some i) (hsz : i.size = 1) (gb o m c : Nat) (p q : Int) (h0 : 0 ≤ p) (h1 : p < q) (h2 : q ≤ c) :
    ∀ W : World, (Instr.slice t (.slice (some ⟨gb, o, none⟩) m c) (some (.int .i64 p)) (some (.int .i64 q)) none).run P W = .ok (.slice (some ⟨gb, o + p.toNat, none⟩) (q - p).toNat (c - p.toNat)) W := by
  intro W
  have hel : P.elem t = e := by simp [Program.elem, ht]
  have hu : P.underlying t = some (.slice (P.elem t)) := by rw [hel]; exact ht
  rw [run_slice_lh W t (some ⟨gb, o, none⟩) m c hu .i64 .i64 p q h0 (by omega) (by omega), hel]
  have e1 : q.toNat - p.toNat = (q - p).toNat := by omega
  have e2 : ¬ c = p.toNat := by omega
  simp [sizeOf, typeInfo, hi, hsz, sliced, Result.andThen, e1, e2, add_plain, Addr.add]
theorem wrap_i64 {x : Int} (h0 : -9223372036854775808 ≤ x) (h1 : x ≤ 9223372036854775807) : IntKind.i64.wrap x = x := IntWalk.i64_in _ (by omega)
/-- The operation that writes N, in a region that draws. -/
theorem gate_step {P : Program} {ops : Array Oper} {o : Oper} {a : Act} {Q : Exit → Act → World → Prop} {Kc : Act → World → Prop} {W : World} {N : Tmp} (_h : o.dst = some N)
    (h : if Region.wanted o (yielded ops a.tmps) = true then Oper.wp P o a W Kc Q else Kc (a.put o.dst undef) W) : if Region.wanted o (yielded ops a.tmps) = true then Oper.wp P o a W Kc Q else Kc (a.put o.dst undef) W := h
end Go.Proofs.Ytcbbipdiahmelaa.B

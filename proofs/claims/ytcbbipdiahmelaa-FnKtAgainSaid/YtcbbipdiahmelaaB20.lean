/- A keytab that the specification writes is read and written again; under what each theorem states. -/
import Derived.Test.YtcbbipdiahmelaaB19
import Derived.Test.YtcbbipdiahmelaaB11
namespace Go.Proofs.Ytcbbipdiahmelaa.B
open Go.RowKit Go.Proofs.YtcbbipdiahmelaaW.PrintWords Go.Proofs.YtcbbipdiahmelaaW.PrintLast
open Go.Proofs.Ytcbbipdiahmelaa.A (S25)
set_option linter.unusedVariables false
set_option linter.unusedSimpArgs false
set_option maxRecDepth 100000
theorem chunksAt_plain : ∀ {l : List S25} (i : Nat), (∀ e ∈ l, OkE e) → (chunksAt [] [] i l).flatMap Chunk.bytes = l.flatMap entC
  | [], _, _ => rfl
  | a :: r, i, h => by
    have hl := ((h a (List.mem_cons_self ..)).len true).2.1
    have hw : IntKind.u32.wrap ((entB a true).length : Int) = (entB a true).length := by rw [IntKind.wrap_u32]; omega
    rw [chunksAt, List.flatMap_append, List.flatMap_cons, chunksAt_plain (i + 1) (fun e he => h e (List.mem_cons_of_mem _ he)), List.flatMap_cons]
    have h1 : holeAt [] i = [] := by unfold holeAt; simp
    have h2 : wholeAt [] i a = true := by unfold wholeAt; simp
    rw [h1, h2]
    show [] ++ (e32 (IntKind.u32.wrap ((entB a true).length : Int)) ++ entB a true ++ _) = entC a ++ _
    rw [hw]
    rfl
theorem keytabAgain_of {l : List S25} {holes : List Int} {short : List Bool} (w : World) (he : ∀ e ∈ l, OkE e) (hh : ∀ x ∈ holes, 0 ≤ x ∧ x < 256) (h0 : l.length ≠ 0) (h20 : l.length ≤ 20) :
    Calls Try.prog 19 #[.string (strOfNums (5 :: 2 :: (chunksAt holes short 0 l).flatMap Chunk.bytes))] w fun e w' => e = .returned (.tuple #[.string (strOfNums (5 :: 2 :: (chunksAt [] [] 0 l).flatMap Chunk.bytes)), .bool true]) ∧ Below w.heap.size w w' := by
  have hlen := chunksAt_len holes short l 0
  have hok := chunksAt_ok (short := short) (i := 0) hh he
  have := keytabAgain_reads (strOfNums (5 :: 2 :: (chunksAt holes short 0 l).flatMap Chunk.bytes)) (chunksAt holes short 0 l) l w (by rw [str_size]; have := flat_size hok; simp only [List.length_cons]; omega) (chunks_data he hh) (by intro h; rw [h] at hlen; simp at hlen; exact h0 (by rw [hlen]; rfl)) hok (by omega) (chunksAt_out holes short l 0) he (by omega)
  rw [← chunksAt_plain 0 he] at this
  exact this
end Go.Proofs.Ytcbbipdiahmelaa.B

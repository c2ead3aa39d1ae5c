/- A key is looked for in a keytab that the specification writes; under what each theorem states. -/
import Derived.Test.YtcbbipdiahmelaaB23
import Derived.Test.YtcbbipdiahmelaaB11
namespace Go.Proofs.Ytcbbipdiahmelaa.B
open Go.RowKit Go.Proofs.YtcbbipdiahmelaaW.PrintWords Go.Proofs.YtcbbipdiahmelaaW.PrintLast
open Go.Proofs.Ytcbbipdiahmelaa.A (S25 k25)
set_option linter.unusedVariables false
set_option linter.unusedSimpArgs false
set_option maxRecDepth 100000
theorem keytabFind_of {l : List S25} {holes : List Int} {short : List Bool} (names : List ByteArray) (realm : ByteArray) (v kt : Int) (A1 : Option Addr) (c1 : Nat) (w : World) (he : ∀ e ∈ l, OkE e) (hh : ∀ x ∈ holes, 0 ≤ x ∧ x < 256) (h0 : l.length ≠ 0) (h20 : l.length ≤ 20)
    (hn : Kd.string.C w A1 names.length names) (hv : 0 ≤ v ∧ v < 65536) (hkt : -2147483648 ≤ kt ∧ kt < 2147483648) (hkey : ∀ e ∈ l, e.f7.size ≠ 0) :
    Calls Try.prog 18 #[.string (strOfNums (5 :: 2 :: (chunksAt holes short 0 l).flatMap Chunk.bytes)), .slice A1 names.length c1, .string realm, .int .i64 v, .int .i32 kt] w fun x w' => x = .returned (found (l.foldl (newer (hit names realm v kt)) none)) ∧ Below w.heap.size w w' := by
  have hlen := chunksAt_len holes short l 0
  have hok := chunksAt_ok (short := short) (i := 0) hh he
  exact keytabFind_reads (strOfNums (5 :: 2 :: (chunksAt holes short 0 l).flatMap Chunk.bytes)) (chunksAt holes short 0 l) l names realm v kt A1 c1 w (by rw [str_size]; have := flat_size hok; simp only [List.length_cons]; omega) (chunks_data he hh) (by intro h; rw [h] at hlen; simp at hlen; exact h0 (by rw [hlen]; rfl)) hok (by omega) (chunksAt_out holes short l 0) he (by omega) hn hv hkt hkey
theorem newer_hit {m : S25 → Bool} {b : S25} : ∀ {l : List S25} {o : Option S25}, (∀ c, o = some c → m c = true) → l.foldl (newer m) o = some b → m b = true
  | [], _, h0, h => h0 b h
  | a :: r, o, h0, h => by
    refine newer_hit (l := r) (o := newer m o a) (fun c hc => ?_) h
    cases o with
    | none =>
      simp only [newer] at hc
      by_cases hm : m a = true
      · rw [if_pos hm] at hc; injection hc with hc; rw [← hc]; exact hm
      · rw [if_neg hm] at hc; cases hc
    | some d =>
      simp only [newer] at hc
      by_cases hm : m a = true ∧ d.f3 < a.f3
      · rw [if_pos hm] at hc; injection hc with hc; rw [← hc]; exact hm.1
      · rw [if_neg hm] at hc; exact h0 c hc
theorem newer_skip {m : S25 → Bool} {e : S25} (h : m e = false) : ∀ {o : Option S25}, newer m o e = o
  | none => by simp only [newer]; rw [if_neg (by rw [h]; decide)]
  | some b => by simp only [newer]; rw [if_neg (by rw [h]; intro h; cases h.1)]
/-- The place of the newest entry. -/
def Best (l : List S25) (bi : Int) : Option S25 → Prop
  | none => bi = -1
  | some b => ∃ k : Nat, bi = k ∧ k < l.length ∧ l[k]? = some b
end Go.Proofs.Ytcbbipdiahmelaa.B

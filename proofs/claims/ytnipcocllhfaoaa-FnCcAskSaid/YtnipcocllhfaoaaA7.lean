/- Go functions of this seat come to the answers of the Lean functions that stand here ('.calls'), under what each theorem states and nothing else. Written by pw.py, a program of this session, with texts of its own. -/
import Derived.Test.YtnipcocllhfaoaaA0
import Derived.Test.YtnipcocllhfaoaaB13
namespace Go.Proofs.Ytnipcocllhfaoaa.A
open Go.RowKit Go.Proofs.YtnipcocllhfaoaaW.PrintWords Go.Proofs.YtnipcocllhfaoaaW.PrintLast
open Go.Proofs.Ytnipcocllhfaoaa.B (gate_callee gate_builtin)
set_option linter.unusedVariables false
set_option linter.unusedSimpArgs false
set_option maxRecDepth 100000

/-! ### impl_CacheRead: function 15 -/
-- EXT rounds=0 making=1
-- NEEDS
def impl_CacheRead.f (a0 : ByteArray) : Option (Int × ByteArray × List ByteArray × Int × List S47 × Bool) :=
  if a0.size ≤ 4294967296 then (if bytesOf a0 = [5] then some (0, ⟨#[]⟩, [], 0, [], false) else (B.readHead (bytesOf a0)).bind fun h =>
    match B.rCache h.1 (bytesOf a0) h.2 with
    | some (a, r) => some ((h.1 : Int), a.realm, a.names, a.kind, r.map B.toCred, true)
    | none => some (0, ⟨#[]⟩, [], 0, [], false)) else none
theorem impl_CacheRead.calls (a0 : ByteArray) (r1 : Int) (r2 : ByteArray) (r3 : List ByteArray) (r4 : Int) (r5 : List S47) (r6 : Bool) (w : World) (h : impl_CacheRead.f a0 = some (r1, r2, r3, r4, r5, r6)) :
    Calls Try.prog 15 #[.string a0] w fun e w' => ∃ v1_ v3_ : Value, e = .returned (.tuple #[.int .u8 r1, .agg #[.string r2, v1_, .int .i32 r4], v3_, .bool r6]) ∧ Kd.string.R 9 w' w.heap.size (fun _ => True) v1_ r3 ∧ k47.R 47 w' w.heap.size (fun _ => True) v3_ r5 ∧ Below w.heap.size w w' := by
  unfold impl_CacheRead.f at h
  have hdead : ∀ {e : Ending} {w' : World}, B.Refused w e w' → ∃ v1_ v3_ : Value, e = .returned (.tuple #[.int .u8 0, .agg #[.string ⟨#[]⟩, v1_, .int .i32 0], v3_, .bool false]) ∧ Kd.string.R 9 w' w.heap.size (fun _ => True) v1_ [] ∧ k47.R 47 w' w.heap.size (fun _ => True) v3_ [] ∧ Below w.heap.size w w' :=
    fun h => ⟨_, _, h.1, Kd.R_nil _ _ _ _ _, Kd.R_nil _ _ _ _ _, h.2⟩
  by_cases hs : a0.size ≤ 4294967296
  case neg => rw [if_neg hs] at h; cases h
  rw [if_pos hs] at h
  by_cases h5 : bytesOf a0 = [5]
  · rw [if_pos h5] at h
    obtain ⟨rfl, rfl, rfl, rfl, rfl, rfl⟩ : 0 = r1 ∧ (⟨#[]⟩ : ByteArray) = r2 ∧ [] = r3 ∧ 0 = r4 ∧ [] = r5 ∧ false = r6 := by simpa using h
    refine (B.cacheRead_dies a0 w (by omega) (fun gb gc w1 hb hc => ?_)).mono fun e w' he => hdead he
    rw [h5] at hb ⊢
    exact B.unmarshal_short gb gc w1 hb hc
  rw [if_neg h5] at h
  obtain ⟨⟨ver, q⟩, hh, h⟩ := Option.bind_eq_some_iff.1 h
  cases hr : B.rCache ver (bytesOf a0) q with
  | none =>
    simp only [hr] at h
    obtain ⟨rfl, rfl, rfl, rfl, rfl, rfl⟩ : 0 = r1 ∧ (⟨#[]⟩ : ByteArray) = r2 ∧ [] = r3 ∧ 0 = r4 ∧ [] = r5 ∧ false = r6 := by simpa using h
    obtain ⟨q1, q2, q3, q4⟩ := B.readHead_some hh
    refine (B.cacheRead_dies a0 w (by omega) (fun gb gc w1 hb hc => ?_)).mono fun e w' he => hdead he
    refine (B.unmarshal_any gb gc ver q (bytesOf a0) w1 (B.okBytes_of (by omega)) hb hc q1 q2 q3 q4).mono fun e w' hm => ?_
    obtain ⟨hg, hm⟩ := hm
    rw [hr] at hm
    exact ⟨hm, hg⟩
  | some x =>
    obtain ⟨a, r⟩ := x
    simp only [hr] at h
    obtain ⟨rfl, rfl, rfl, rfl, rfl, rfl⟩ : (ver : Int) = r1 ∧ a.realm = r2 ∧ a.names = r3 ∧ a.kind = r4 ∧ r.map B.toCred = r5 ∧ true = r6 := by simpa using h
    exact (B.cacheRead_reads a0 w hs ver q a r hh hr).mono fun e w' he => he

end Go.Proofs.Ytnipcocllhfaoaa.A

/- A cache is asked for what was written; under what each theorem states. -/
import Derived.Test.YtnipcocllhfaoaaP2
import Derived.Test.YtnipcocllhfaoaaB16
namespace Go.Proofs.Ytnipcocllhfaoaa.P
open Go.RowKit Go.Proofs.YtnipcocllhfaoaaW.PrintWords Go.Proofs.Ytnipcocllhfaoaa.B
open Go.Proofs.Ytnipcocllhfaoaa.A
set_option linter.unusedVariables false
set_option linter.unusedSimpArgs false
theorem readHead_nil {v : Nat} (hv : v = 3 ∨ v = 4) (r : List Int) : readHead (eHead v [] ++ r) = some (v, (eHead v []).length) := by
  rcases hv with rfl | rfl
  · unfold readHead eHead
    simp
  · have e : eHead 4 [] = [5, 4, 0, 0] := by
      unfold eHead cnt eOffs
      rw [if_pos rfl, List.flatMap_nil, List.length_nil, big2]
      rfl
    rw [e]
    have hh : rHeader ([5, 4, 0, 0] ++ r) 2 = some 4 := by
      unfold rHeader u16
      simp [rFields]
    unfold readHead
    rw [hh]
    simp
structure Asked (v : Nat) (cl : S24) (cs : List S36) (s : ByteArray) : Prop where
  size : s.size ≤ 4294967296
  head : readHead (bytesOf s) = some (v, (eHead v []).length)
  read : rCache v (bytesOf s) (eHead v []).length = some (prin cl, cs.map cred)
theorem asked {v : Nat} (hv : v = 3 ∨ v = 4) {cl : S24} (hcl : OkName cl) {cs : List S36} (hcs : ∀ c ∈ cs, OkCred c) (hn : cs.length ≤ 12) : Asked v cl cs (strOfNums (eCache v [] cl cs)) := by
  have hle := cache_le (v := v) (offs := []) (by simp) hcl hcs hn
  have hat := head_at v [] (eName cl ++ cs.flatMap (eCred v))
  have hh := readHead_nil hv (eName cl ++ cs.flatMap (eCred v))
  have e : eHead v [] ++ (eName cl ++ cs.flatMap (eCred v)) = eCache v [] cl cs := rfl
  rw [e] at hat hh
  have hb := bytes_str (bytes_cache hv [] cl cs)
  exact ⟨by rw [str_size]; omega, by rw [hb]; exact hh, by rw [hb]; exact rCache_at hat hcl hcs⟩
/-! ### What is wanted -/
def confText : List UInt8 := [88, 45, 67, 65, 67, 72, 69, 67, 79, 78, 70, 58]
def plain (c : S36) : Bool := c.f1.f0.toList != confText
/-- The law's index: of the first credential of these names. -/
def AtRel (l : List S36) (ys : List ByteArray) (k : Nat) (n : Int) : Prop :=
  (n = -1 ∧ ∀ x ∈ l.take k, ¬ x.f1.f1 = ys) ∨ ∃ (j : Nat) (c : S36), n = (j : Int) ∧ j < k ∧ l[j]? = some c ∧ c.f1.f1 = ys ∧ ∀ x ∈ l.take j, ¬ x.f1.f1 = ys
theorem AtRel.zero (l : List S36) (ys : List ByteArray) : AtRel l ys 0 (-1) := Or.inl ⟨rfl, by simp⟩
theorem AtRel.no {l : List S36} {ys : List ByteArray} {k : Nat} {n : Int} {c : S36} (h : AtRel l ys k n) (hc : l[k]? = some c) (hn : ¬ c.f1.f1 = ys) : AtRel l ys (k + 1) n := by
  rcases h with ⟨h1, h2⟩ | ⟨j, d, h1, h2, h3⟩
  · refine Or.inl ⟨h1, fun x hx => ?_⟩
    rw [List.take_add_one, hc] at hx
    simp at hx
    rcases hx with hx | rfl
    · exact h2 x hx
    · exact hn
  · exact Or.inr ⟨j, d, h1, by omega, h3⟩
theorem AtRel.old {l : List S36} {ys : List ByteArray} {k : Nat} {n : Int} (h : AtRel l ys k n) (hn : ¬ n < 0) : AtRel l ys (k + 1) n := by
  rcases h with ⟨h1, h2⟩ | ⟨j, d, h1, h2, h3⟩
  · omega
  · exact Or.inr ⟨j, d, h1, by omega, h3⟩
theorem AtRel.new {l : List S36} {ys : List ByteArray} {k : Nat} {n : Int} {c : S36} (h : AtRel l ys k n) (hc : l[k]? = some c) (hn : n < 0) (hy : c.f1.f1 = ys) : AtRel l ys (k + 1) (k : Int) := by
  rcases h with ⟨h1, h2⟩ | ⟨j, d, h1, h2, h3⟩
  · exact Or.inr ⟨k, c, rfl, by omega, hc, hy, h2⟩
  · omega
theorem AtRel.ge {l : List S36} {ys : List ByteArray} {k : Nat} {n : Int} (h : AtRel l ys k n) : -1 ≤ n ∧ n ≤ k := by
  rcases h with ⟨h1, h2⟩ | ⟨j, d, h1, h2, h3⟩ <;> omega
theorem take_map {l : List S36} {ys : List ByteArray} {k : Nat} (h : ∀ x ∈ l.take k, ¬ x.f1.f1 = ys) : ∀ x ∈ (l.map cred).take k, ¬ x.server.names = ys := by
  intro x hx
  rw [← List.map_take] at hx
  obtain ⟨c, hc, rfl⟩ := List.mem_map.1 hx
  exact h c hc
/-- What the index says at the end. -/
theorem AtRel.last {l : List S36} {ys : List ByteArray} {n : Int} (h : AtRel l ys l.length n) :
    (n = -1 ∧ (l.map cred).find? (fun c => decide (c.server.names = ys)) = none) ∨ ∃ (j : Nat) (c : S36), n = (j : Int) ∧ l[j]? = some c ∧ (l.map cred).find? (fun c => decide (c.server.names = ys)) = some (cred c) := by
  rcases h with ⟨h1, h2⟩ | ⟨j, c, h1, h2, h3, h4, h5⟩
  · refine Or.inl ⟨h1, find_no ?_⟩
    have := take_map h2
    rwa [List.take_of_length_le (by simp)] at this
  · exact Or.inr ⟨j, c, h1, h3, find_at (take_map h5) (by simp [h3]) h4⟩
theorem conf_text {s : ByteArray} (h : s.toList = confText) : confB s = true := by
  have e : s = ⟨#[88, 45, 67, 65, 67, 72, 69, 67, 79, 78, 70, 58]⟩ := (toList_iff _ _).1 (h.trans (by rw [ByteArray.toList_eq]; rfl))
  subst e
  unfold confB
  rw [if_pos (by decide), ByteArray.toList_eq]
  rfl
theorem filter_plain {l : List S36} (h : ∀ c ∈ l, confB c.f1.f0 = !plain c) : ((l.map cred).filter Told1).map tkS = (l.filter plain).map (·.f12) := by
  rw [List.filter_map, List.map_map]
  have e : l.filter (Told1 ∘ cred) = l.filter plain := List.filter_congr fun c hc => by
    show (!confB c.f1.f0) = plain c
    rw [h c hc, Bool.not_not]
  rw [e]
  refine List.map_congr_left fun c hc => ?_
  show strOfNums (bytesOf c.f12) = c.f12
  exact strOf_bytesOf _
end Go.Proofs.Ytnipcocllhfaoaa.P

/- A statement whose operations may come in any order that their edges allow ends as an invariant says that each operation keeps; no condition but that every operation waits for earlier ones alone. -/
import Derived.Orders
namespace Go.Proofs.Ytcbbipdiahmelaa.RegInv
open Go
section
variable {P : Program} {ops : Array Oper} {Q : Exit → Act → World → Prop} {md : Region.Mode}

/-- Every operation waits for earlier ones alone. -/
def backward (ops : Array Oper) : Bool := (List.range ops.size).all fun i => ((ops[i]?).map fun o => o.after.all fun e => decide (e.on < i)).getD true

theorem all_listed {listed : Array Bool} (hb : backward ops = true) (hs : listed.size = ops.size) (hr : Region.ready md ops listed = []) :
    ∀ i, i < ops.size → listed[i]? = some true := by
  intro i
  induction i using Nat.strongRecOn with
  | _ i ih =>
    intro hi
    have hli : i < listed.size := by omega
    rw [Array.getElem?_eq_getElem hli]
    cases hv : listed[i] with
    | true => rfl
    | false =>
      exfalso
      have hmem : i ∈ Region.ready md ops listed := by
        rw [mem_ready]
        refine ⟨by simp [hli, hv], ops[i], Array.getElem?_eq_getElem hi, fun e he _ => ?_⟩
        have h1 := List.all_eq_true.1 hb i (List.mem_range.2 hi)
        rw [Array.getElem?_eq_getElem hi] at h1
        have h2 := of_decide_eq_true (Array.all_eq_true_iff_forall_mem.1 h1 e he)
        have h3 := ih e.on h2 (by omega)
        simp [h3]
      rw [hr] at hmem
      cases hmem

theorem count_set {listed : Array Bool} {i : Nat} (h : listed[i]? = some false) : (listed.setIfInBounds i true).toList.count false + 1 = listed.toList.count false := by
  have hi : i < listed.size := by
    rcases Nat.lt_or_ge i listed.size with h' | h'
    · exact h'
    · rw [Array.getElem?_eq_none h'] at h; cases h
  rw [Array.getElem?_eq_getElem hi] at h
  have hv : listed.toList[i]'(by simpa using hi) = false := by simpa using h
  rw [Array.toList_setIfInBounds]
  have := List.count_set (l := listed.toList) (a := true) (b := false) (i := i) (by simpa using hi)
  have e1 : (listed.toList[i]'(by simpa using hi) == false) = true := by rw [hv]; rfl
  rw [this, if_pos e1, if_neg (by decide)]
  have hpos : 0 < listed.toList.count false := List.count_pos_iff.2 (hv ▸ List.getElem_mem _)
  omega

theorem listed_set {listed : Array Bool} {i j : Nat} (h : (listed.setIfInBounds i true)[j]? = some true) : j = i ∨ listed[j]? = some true := by
  by_cases hij : i = j
  · exact .inl hij.symm
  · rw [Array.getElem?_setIfInBounds_ne hij] at h; exact .inr h
theorem listed_keep {listed : Array Bool} {i j : Nat} (h : listed[j]? = some true) : (listed.setIfInBounds i true)[j]? = some true := by
  by_cases hij : i = j
  · subst hij
    have hlt : i < listed.size := (Array.getElem?_eq_some_iff.1 h).1
    simp [hlt]
  · rw [Array.getElem?_setIfInBounds_ne hij]; exact h

/-- What has come up waited for what has come up. -/
def Closed (md : Region.Mode) (ops : Array Oper) (listed : Array Bool) : Prop :=
  ∀ (i : Nat) (o : Oper), ops[i]? = some o → listed[i]? = some true → ∀ e ∈ o.after, Region.binds md e = true → listed[e.on]? = some true

theorem wpAny_inv (Inv : Array Bool → Act → World → Prop) (hb : backward ops = true)
    (step : ∀ listed a w, Inv listed a w → Closed md ops listed → ∀ i, i < ops.size → listed[i]? = some false → (∀ o, ops[i]? = some o → ∀ e ∈ o.after, Region.binds md e = true → listed[e.on]? = some true) →
      wpOp P ops Q i (fun a' w' => Inv (listed.setIfInBounds i true) a' w') a w)
    (fin : ∀ listed a w, Inv listed a w → (∀ i, i < ops.size → listed[i]? = some true) → Q .normal a w) :
    ∀ (fuel : Nat) (listed : Array Bool) (a : Act) (w : World), listed.size = ops.size → listed.toList.count false ≤ fuel → Closed md ops listed → Inv listed a w → wpAny P md ops Q fuel listed a w := by
  intro fuel
  induction fuel with
  | zero =>
    intro listed a w hs hc hcl hi
    have hall : ∀ i, i < ops.size → listed[i]? = some true := by
      intro i hlt
      have hli : i < listed.size := by omega
      rw [Array.getElem?_eq_getElem hli]
      cases hv : listed[i] with
      | true => rfl
      | false =>
        exfalso
        have : 0 < listed.toList.count false := List.count_pos_iff.2 (by rw [← hv]; simp)
        omega
    refine ⟨?_, fin listed a w hi hall⟩
    apply List.eq_nil_iff_forall_not_mem.2
    intro i hmem
    obtain ⟨h0, o, ho, _⟩ := mem_ready.1 hmem
    have hlt : i < ops.size := (Array.getElem?_eq_some_iff.1 ho).1
    have := hall i hlt
    simp [this] at h0
  | succ fuel ih =>
    intro listed a w hs hc hcl hi
    refine ⟨fun hr => fin listed a w hi (all_listed hb hs hr), fun i hmem => ?_⟩
    obtain ⟨h0, o, ho, hd⟩ := mem_ready.1 hmem
    have hlt : i < ops.size := (Array.getElem?_eq_some_iff.1 ho).1
    have hli : i < listed.size := by omega
    have hf : listed[i]? = some false := by
      rw [Array.getElem?_eq_getElem hli]
      simpa [hli] using h0
    have hdep : ∀ o', ops[i]? = some o' → ∀ e ∈ o'.after, Region.binds md e = true → listed[e.on]? = some true := by
      intro o' ho' e he hbd
      rw [ho] at ho'
      cases ho'
      have h1 := hd e he hbd
      rcases Nat.lt_or_ge e.on listed.size with h' | h'
      · rw [Array.getElem?_eq_getElem h'] ; simp [h'] at h1; simp [h1]
      · simp [Array.getElem?_eq_none h'] at h1
    refine wpOp_mono (fun a' w' hInv => ih _ a' w' (by simpa using hs) (by have := count_set hf; omega) ?_ hInv) (step listed a w hi hcl i hlt hf hdep)
    intro k ok hk hl e he hbd
    rcases listed_set hl with rfl | hl
    · exact listed_keep (hdep ok hk e he hbd)
    · exact listed_keep (hcl k ok hk hl e he hbd)

/-- A region that draws its order, by an invariant that each operation keeps. -/
theorem wp_region_inv {id : Nat} {a : Act} {w : World} (Inv : Array Bool → Act → World → Prop) (hm : P.follows .mixedOrders = true) (hb : backward ops = true)
    (init : Inv (Array.replicate ops.size false) a { w with drawn := w.drawn + 1 })
    (step : ∀ listed a w, Inv listed a w → Closed .any ops listed → ∀ i, i < ops.size → listed[i]? = some false → (∀ o, ops[i]? = some o → ∀ e ∈ o.after, Region.binds .any e = true → listed[e.on]? = some true) →
      wpOp P ops Q i (fun a' w' => Inv (listed.setIfInBounds i true) a' w') a w)
    (fin : ∀ listed a w, Inv listed a w → (∀ i, i < ops.size → listed[i]? = some true) → Q .normal a w) :
    (Code.region id ops true).wp P Q a w :=
  wp_region_any hm (wpAny_inv Inv hb step fin _ _ a _ (by simp) (by simp) (fun i o _ h => by
    exfalso
    rw [Array.getElem?_replicate] at h
    split at h <;> cases h) init)
/-- An operation without a guard, as it comes up. -/
theorem wpOp_some {i : Nat} {o : Oper} {K : Act → World → Prop} {a : Act} {w : World} (ho : ops[i]? = some o) (hg : o.guard = none) (h : o.wp P a w K Q) : wpOp P ops Q i K a w := by
  unfold wpOp
  rw [ho]
  have : Region.wanted o (yielded ops a.tmps) = true := by unfold Region.wanted; rw [hg]
  simp only [this, if_true]
  exact .inl h
/-- Operation i waits for operation j. -/
def waits (ops : Array Oper) (i j : Nat) : Bool := ((ops[i]?).map fun o => o.after.any fun e => Region.binds .any e && e.on == j).getD false
theorem dep {listed : Array Bool} {i j : Nat} (hd : ∀ o, ops[i]? = some o → ∀ e ∈ o.after, Region.binds .any e = true → listed[e.on]? = some true) (h : waits ops i j = true) : listed[j]? = some true := by
  unfold waits at h
  cases ho : ops[i]? with
  | none => rw [ho] at h; cases h
  | some o =>
    rw [ho] at h
    obtain ⟨e, he, hb⟩ := Array.any_eq_true'.1 h
    simp only [Bool.and_eq_true, beq_iff_eq] at hb
    exact hb.2 ▸ hd o ho e he hb.1
/-- Who waits for one that has not come up has not come up. -/
theorem late {listed : Array Bool} {i j : Nat} (hcl : Closed .any ops listed) (h : waits ops i j = true) (hf : listed[j]? = some false) : ¬ listed[i]? = some true := fun hi => by
  have := dep (fun o ho e he hb => hcl i o ho hi e he hb) h
  rw [hf] at this
  cases this
end
end Go.Proofs.Ytcbbipdiahmelaa.RegInv

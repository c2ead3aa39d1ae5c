/- Two principals of the same kind are the same just when their parts are, in both orders, and each is the same as itself: for every input of the law. -/
import Derived.Test.YthgcpicflmigjaaF9
namespace Go.Proofs.Ythgcpicflmigjaa.Pure
open Go.RowKit Go.Proofs.Ythgcpicflmigjaa.F Go.Proofs.YthgcpicflmigjaaW.PrintWords

namespace PE
theorem awakeF (k : Nat) (hk : 40 ≤ k) : laws_plainAwake.f k = some true :=
  at_rounds (fun k => laws_plainAwake.mono k) hk (by decide +kernel)
theorem wrap_succ {i n : Int} (h0 : 0 ≤ i) (h : i < n) (hn : n ≤ 9223372036854775807) : wrap64 (i + 1) = i + 1 := by
  unfold wrap64
  omega
theorem drop_rdOf {l : List ByteArray} {i : Int} (h0 : 0 ≤ i) (h : i < l.length) : l.drop i.toNat = rdOf ByteArray.empty l i :: l.drop (i + 1).toNat := by
  have h' : i.toNat < l.length := by omega
  rw [List.drop_eq_getElem_cons h', rdOf, List.getD_eq_getElem?_getD, List.getElem?_eq_getElem h']
  rw [show (i + 1).toNat = i.toNat + 1 from by omega]
  rfl
theorem fits_l0 (l : List ByteArray) (hn : (l.length : Int) ≤ 9223372036854775807) : ∀ (d k : Nat) (i : Int), 0 ≤ i → i ≤ l.length → (l.length : Int) - i = d → d < k →
    ∃ b, laws_zzFits4.l0 k l (l.length : Int) i = some b := by
  intro d
  induction d with
  | zero =>
    intro k i h0 h1 hd hk
    obtain ⟨k, rfl⟩ : ∃ m, k = m + 1 := ⟨k - 1, by omega⟩
    simp only [laws_zzFits4.l0]
    rw [if_neg (by omega)]
    exact ⟨_, rfl⟩
  | succ d ih =>
    intro k i h0 h1 hd hk
    obtain ⟨k, rfl⟩ : ∃ m, k = m + 1 := ⟨k - 1, by omega⟩
    have hlt : i < (l.length : Int) := by omega
    simp only [laws_zzFits4.l0]
    rw [if_pos hlt, if_pos h0, if_pos hlt]
    by_cases c1 : ((rdOf ByteArray.empty l i).size : Int) > 2147483647
    · rw [if_pos c1]; exact ⟨_, rfl⟩
    rw [if_neg c1, wrap_succ h0 hlt hn]
    exact ih k (i + 1) (by omega) (by omega) (by omega) (by omega)
theorem fits (l : List ByteArray) (hn : (l.length : Int) ≤ 9223372036854775807) (k : Nat) (hk : l.length < k) : ∃ b, laws_zzFits4.f k l = some b := by
  unfold laws_zzFits4.f
  by_cases c : (l.length : Int) > 2147483647
  · rw [if_pos c]; exact ⟨_, rfl⟩
  rw [if_neg c]
  exact fits_l0 l hn l.length k 0 (by omega) (by omega) (by omega) hk
theorem count_l0 (s : ByteArray) (c : Int) (hn : (s.size : Int) ≤ 9223372036854775807) : ∀ (d k : Nat) (n i : Int), 0 ≤ i → i ≤ s.size → (s.size : Int) - i = d → d < k →
    ∃ b, spec_CountByte.l0 k s c n (s.size : Int) i = some b := by
  intro d
  induction d with
  | zero =>
    intro k n i h0 h1 hd hk
    obtain ⟨k, rfl⟩ : ∃ m, k = m + 1 := ⟨k - 1, by omega⟩
    simp only [spec_CountByte.l0]
    rw [if_neg (by omega)]
    exact ⟨_, rfl⟩
  | succ d ih =>
    intro k n i h0 h1 hd hk
    obtain ⟨k, rfl⟩ : ∃ m, k = m + 1 := ⟨k - 1, by omega⟩
    have hlt : i < (s.size : Int) := by omega
    simp only [spec_CountByte.l0]
    rw [if_pos hlt, if_pos h0, if_pos hlt, wrap_succ h0 hlt hn]
    by_cases c1 : bt s i = c
    · rw [if_pos c1]; exact ih k _ (i + 1) (by omega) (by omega) (by omega) (by omega)
    · rw [if_neg c1]; exact ih k _ (i + 1) (by omega) (by omega) (by omega) (by omega)
theorem count (s : ByteArray) (c : Int) (k : Nat) (hs : (s.size : Int) ≤ 50) (hk : 50 < k) : ∃ b, spec_CountByte.f k s c = some b := by
  unfold spec_CountByte.f
  exact count_l0 s c (by omega) s.size k 0 0 (by omega) (by omega) (by omega) (by omega)
theorem parts_l0 (l : List ByteArray) (hn : (l.length : Int) ≤ 9223372036854775807) : ∀ (d k : Nat) (i : Int), 0 ≤ i → i ≤ l.length → (l.length : Int) - i = d → d + 52 < k →
    ∃ b, laws_partsRight.l0 k l l (l.length : Int) i = some b := by
  intro d
  induction d with
  | zero =>
    intro k i h0 h1 hd hk
    obtain ⟨k, rfl⟩ : ∃ m, k = m + 1 := ⟨k - 1, by omega⟩
    simp only [laws_partsRight.l0]
    rw [if_neg (by omega)]
    by_cases c : (l.length : Int) > 0
    · rw [if_pos c]; exact ⟨_, rfl⟩
    · rw [if_neg c]; exact ⟨_, rfl⟩
  | succ d ih =>
    intro k i h0 h1 hd hk
    obtain ⟨k, rfl⟩ : ∃ m, k = m + 1 := ⟨k - 1, by omega⟩
    have hlt : i < (l.length : Int) := by omega
    simp only [laws_partsRight.l0]
    rw [if_pos hlt, if_pos h0, if_pos hlt]
    by_cases c1 : ((rdOf ByteArray.empty l i).size : Int) > 50
    · rw [if_pos c1]; exact ⟨_, rfl⟩
    rw [if_neg c1]
    obtain ⟨n1, e1⟩ := count (rdOf ByteArray.empty l i) 47 k (by omega) (by omega)
    obtain ⟨n2, e2⟩ := count (rdOf ByteArray.empty l i) 64 k (by omega) (by omega)
    rw [e1, e2]
    simp only [Option.bind_some]
    by_cases c2 : n1 > 0
    · rw [if_pos c2]; exact ⟨_, rfl⟩
    rw [if_neg c2]
    by_cases c3 : n2 > 0
    · rw [if_pos c3]; exact ⟨_, rfl⟩
    rw [if_neg c3, wrap_succ h0 hlt hn]
    exact ih k (i + 1) (by omega) (by omega) (by omega) (by omega)
theorem parts (l : List ByteArray) (hn : (l.length : Int) ≤ 9223372036854775807) (k : Nat) (hk : l.length + 52 < k) : ∃ b, laws_partsRight.f k l = some b :=
  parts_l0 l hn l.length k 0 (by omega) (by omega) (by omega) hk
def same (l m : List ByteArray) : Bool := decide (l.map ByteArray.toList = m.map ByteArray.toList)
theorem same_nil : same [] [] = true := rfl
theorem same_cons (x y : ByteArray) (l m : List ByteArray) : same (x :: l) (y :: m) = (decide (x.toList = y.toList) && same l m) := by
  simp [same, Bool.decide_and]
theorem same_self (l : List ByteArray) : same l l = true := by simp [same]
theorem same_comm (l m : List ByteArray) : same l m = same m l := by
  unfold same
  exact decide_eq_decide.2 ⟨Eq.symm, Eq.symm⟩
theorem same_ne {l m : List ByteArray} (h : ¬ l.length = m.length) : same l m = false := by
  refine decide_eq_false fun e => h ?_
  have := congrArg List.length e
  simpa using this
theorem equal_l0 (l m : List ByteArray) (hn : (l.length : Int) ≤ 9223372036854775807) (hlm : l.length = m.length) : ∀ (d k : Nat) (i : Int), 0 ≤ i → i ≤ l.length → (l.length : Int) - i = d → d < k →
    slices_Equal_string_string.l0 k l m (l.length : Int) i = some (same (l.drop i.toNat) (m.drop i.toNat)) := by
  intro d
  induction d with
  | zero =>
    intro k i h0 h1 hd hk
    obtain ⟨k, rfl⟩ : ∃ m, k = m + 1 := ⟨k - 1, by omega⟩
    simp only [slices_Equal_string_string.l0]
    rw [if_neg (by omega), List.drop_eq_nil_of_le (by omega), List.drop_eq_nil_of_le (by omega)]
    rfl
  | succ d ih =>
    intro k i h0 h1 hd hk
    obtain ⟨k, rfl⟩ : ∃ m, k = m + 1 := ⟨k - 1, by omega⟩
    have hlt : i < (l.length : Int) := by omega
    simp only [slices_Equal_string_string.l0]
    rw [if_pos hlt, if_pos h0, if_pos hlt, if_pos (by omega), drop_rdOf h0 hlt, drop_rdOf (l := m) h0 (by omega), same_cons]
    by_cases c1 : (rdOf ByteArray.empty l i).toList = (rdOf ByteArray.empty m i).toList
    · rw [if_pos c1, decide_eq_true c1, wrap_succ h0 hlt hn, Bool.true_and]
      exact ih k (i + 1) (by omega) (by omega) (by omega) (by omega)
    · rw [if_neg c1, decide_eq_false c1, Bool.false_and]
theorem equal_is (l m : List ByteArray) (hn : (l.length : Int) ≤ 9223372036854775807) (k : Nat) (hk : l.length < k) : slices_Equal_string_string.f k l m = some (same l m) := by
  unfold slices_Equal_string_string.f
  by_cases c : (l.length : Int) = (m.length : Int)
  · rw [if_pos c]
    exact equal_l0 l m hn (by omega) l.length k 0 (by omega) (by omega) (by omega) hk
  · rw [if_neg c, same_ne (by omega)]
theorem pequal_l0 (t : Int) (l m : List ByteArray) (hn : (l.length : Int) ≤ 9223372036854775807) (hlm : l.length = m.length) : ∀ (d k : Nat) (i : Int), 0 ≤ i → i ≤ l.length → (l.length : Int) - i = d → d < k →
    types_PrincipalName_Equal.l0 k l (l.length : Int) i t m = some (same (l.drop i.toNat) (m.drop i.toNat)) := by
  intro d
  induction d with
  | zero =>
    intro k i h0 h1 hd hk
    obtain ⟨k, rfl⟩ : ∃ m, k = m + 1 := ⟨k - 1, by omega⟩
    simp only [types_PrincipalName_Equal.l0]
    rw [if_neg (by omega), List.drop_eq_nil_of_le (by omega), List.drop_eq_nil_of_le (by omega)]
    rfl
  | succ d ih =>
    intro k i h0 h1 hd hk
    obtain ⟨k, rfl⟩ : ∃ m, k = m + 1 := ⟨k - 1, by omega⟩
    have hlt : i < (l.length : Int) := by omega
    simp only [types_PrincipalName_Equal.l0]
    rw [if_pos hlt, if_pos h0, if_pos hlt, if_pos (by omega), drop_rdOf h0 hlt, drop_rdOf (l := m) h0 (by omega), same_cons]
    by_cases c1 : (rdOf ByteArray.empty m i).toList = (rdOf ByteArray.empty l i).toList
    · rw [if_pos c1, decide_eq_true c1.symm, wrap_succ h0 hlt hn, Bool.true_and]
      exact ih k (i + 1) (by omega) (by omega) (by omega) (by omega)
    · rw [if_neg c1, decide_eq_false (fun e => c1 e.symm), Bool.false_and]
theorem pequal_is (t t' : Int) (l m : List ByteArray) (hn : (l.length : Int) ≤ 9223372036854775807) (k : Nat) (hk : l.length < k) : impl_PrincipalEqual.f k t l t' m = some (same l m) := by
  unfold impl_PrincipalEqual.f impl_principal.f types_PrincipalName_Equal.f
  simp only [Option.bind_some]
  by_cases c : (l.length : Int) = (m.length : Int)
  · rw [if_pos c, pequal_l0 t' l m hn (by omega) l.length k 0 (by omega) (by omega) (by omega) hk]
    rfl
  · rw [if_neg c, same_ne (by omega)]
    rfl
end PE
open PE
/-- def laws_FnPrincipalEqual.Pure : Prop := ∀ (a0 : Int) (l1 : List ByteArray) (l2 : List ByteArray), ((Lit.int .i32 a0).wf = true) → (l1.length ≤ 9223372036854775807 ∧ ∀ x_ ∈ l1, x_.size ≤ maxLen) → (l2.length ≤ 9223372036854775807 ∧ ∀ x_ ∈ l2, x_.size ≤ maxLen) → ∃ k, laws_FnPrincipalEqual.f k a0 l1 l2 = some true -/
theorem FnPrincipalEqual : laws_FnPrincipalEqual.Pure := by
  intro a0 l1 l2 _ h1 h2
  have n1 : (l1.length : Int) ≤ 9223372036854775807 := by omega
  have n2 : (l2.length : Int) ≤ 9223372036854775807 := by omega
  obtain ⟨k, hk⟩ : ∃ k, k = l1.length + l2.length + 100 := ⟨_, rfl⟩
  refine ⟨k + 2, ?_⟩
  have hT : laws_FnPrincipalEqual.j0 (k + 2) a0 l1 l2 true = some true := by simp [laws_FnPrincipalEqual.j0]
  have hA : laws_FnPrincipalEqual.j1 (k + 1) a0 l1 l2 true = some true := by
    simp only [laws_FnPrincipalEqual.j1]
    rw [if_pos trivial, awakeF k (by omega)]
    rfl
  unfold laws_FnPrincipalEqual.f
  obtain ⟨b1, e1⟩ := fits l1 n1 (k + 2) (by omega)
  obtain ⟨b2, e2⟩ := fits l2 n2 (k + 2) (by omega)
  rw [e1, e2]
  simp only [Option.bind_some]
  cases b1
  case false => rw [if_neg (by decide)]; exact hT
  rw [if_pos rfl]
  cases b2
  case false => exact hT
  obtain ⟨b3, e3⟩ := parts l1 n1 (k + 1) (by omega)
  obtain ⟨b4, e4⟩ := parts l2 n2 (k + 1) (by omega)
  simp only [laws_FnPrincipalEqual.j0, Bool.not_true]
  rw [if_neg (by decide), e3, e4]
  simp only [Option.bind_some]
  cases b3
  case false => rw [if_neg (by decide)]; exact hA
  rw [if_pos rfl]
  cases b4
  case false => exact hA
  simp only [laws_FnPrincipalEqual.j1, Bool.not_true]
  rw [if_neg (by decide), equal_is l1 l2 n1 k (by omega), pequal_is a0 a0 l1 l2 n1 k (by omega), pequal_is a0 a0 l2 l1 n2 k (by omega), pequal_is a0 a0 l1 l1 n1 k (by omega), awakeF k (by omega)]
  simp only [Option.bind_some, same_comm l2 l1, same_self]
  rw [if_pos (by simp), if_pos (by simp)]
  rfl
end Go.Proofs.Ythgcpicflmigjaa.Pure

/- An address is the same as itself alone, a list has the addresses that are in it, and two lists are equal, in any order, just if they have the same addresses: for every input of the law. -/
import Derived.Test.YthgcpicflmigjaaA7
namespace Go.Proofs.Ythgcpicflmigjaa.Pure
open Go.RowKit Go.Proofs.Ythgcpicflmigjaa.A Go.Proofs.YthgcpicflmigjaaW.PrintWords

namespace AD
instance lawful : LawfulBEq ByteArray where
  eq_of_beq := by
    intro a b h
    cases a; cases b
    exact congrArg ByteArray.mk (eq_of_beq h)
  rfl := by
    intro a
    cases a
    exact (beq_self_eq_true _ : (_ : Array UInt8) == _)
theorem wrap_succ {i n : Int} (h0 : 0 ≤ i) (h : i < n) (hn : n ≤ 9223372036854775807) : wrap64 (i + 1) = i + 1 := by
  unfold wrap64
  omega
theorem toList_inj {s t : ByteArray} : s.toList = t.toList ↔ s = t := by
  constructor
  · intro h
    rw [ByteArray.toList_eq, ByteArray.toList_eq] at h
    cases s; cases t
    exact congrArg ByteArray.mk (Array.ext' h)
  · intro h; rw [h]
theorem drop_rdOf {l : List ByteArray} {i : Int} (h0 : 0 ≤ i) (h : i < l.length) : l.drop i.toNat = rdOf ByteArray.empty l i :: l.drop (i + 1).toNat := by
  have h' : i.toNat < l.length := by omega
  rw [List.drop_eq_getElem_cons h', rdOf, List.getD_eq_getElem?_getD, List.getElem?_eq_getElem h']
  rw [show (i + 1).toNat = i.toNat + 1 from by omega]
  rfl
theorem take_rdOf {l : List ByteArray} {i : Int} (h0 : 0 ≤ i) (h : i < l.length) : l.take (i + 1).toNat = l.take i.toNat ++ [rdOf ByteArray.empty l i] := by
  have h' : i.toNat < l.length := by omega
  rw [show (i + 1).toNat = i.toNat + 1 from by omega, List.take_succ_eq_append_getElem h', rdOf, List.getD_eq_getElem?_getD, List.getElem?_eq_getElem h']
  rfl
theorem rdOf_mem {l : List ByteArray} {i : Int} (h0 : 0 ≤ i) (h : i < l.length) : rdOf ByteArray.empty l i ∈ l := by
  have h' : i.toNat < l.length := by omega
  rw [rdOf, List.getD_eq_getElem?_getD, List.getElem?_eq_getElem h']
  exact List.getElem_mem h'
theorem fits_l0 (l : List ByteArray) (hn : (l.length : Int) ≤ 9223372036854775807) : ∀ (d k : Nat) (i : Int), 0 ≤ i → i ≤ l.length → (l.length : Int) - i = d → d < k →
    ∃ b, laws_zzFits4.l0 k l (l.length : Int) i = some b := by
  intro d
  induction d with
  | zero =>
    intro k i h0 h1 hd hk
    obtain ⟨k, rfl⟩ : ∃ m, k = m + 1 := ⟨k - 1, by omega⟩
    simp only [laws_zzFits4.l0]
    rw [if_neg (by omega)]
    exact ⟨_, rfl⟩
  | succ d ih =>
    intro k i h0 h1 hd hk
    obtain ⟨k, rfl⟩ : ∃ m, k = m + 1 := ⟨k - 1, by omega⟩
    have hlt : i < (l.length : Int) := by omega
    simp only [laws_zzFits4.l0]
    rw [if_pos hlt, if_pos h0, if_pos hlt]
    by_cases c1 : ((rdOf ByteArray.empty l i).size : Int) > 2147483647
    · rw [if_pos c1]; exact ⟨_, rfl⟩
    rw [if_neg c1, wrap_succ h0 hlt hn]
    exact ih k (i + 1) (by omega) (by omega) (by omega) (by omega)
theorem fits (l : List ByteArray) (hn : (l.length : Int) ≤ 9223372036854775807) (k : Nat) (hk : l.length < k) : ∃ b, laws_zzFits4.f k l = some b := by
  unfold laws_zzFits4.f
  by_cases c : (l.length : Int) > 2147483647
  · rw [if_pos c]; exact ⟨_, rfl⟩
  rw [if_neg c]
  exact fits_l0 l hn l.length k 0 (by omega) (by omega) (by omega) hk
theorem index_l0 (l : List ByteArray) (s : ByteArray) (hn : (l.length : Int) ≤ 9223372036854775807) : ∀ (d k : Nat) (i : Int), 0 ≤ i → i ≤ l.length → (l.length : Int) - i = d → d < k →
    ∃ n, slices_Index_string_string.l0 k l s (l.length : Int) i = some n ∧ (n ≥ 0 ↔ s ∈ l.drop i.toNat) := by
  intro d
  induction d with
  | zero =>
    intro k i h0 h1 hd hk
    obtain ⟨k, rfl⟩ : ∃ m, k = m + 1 := ⟨k - 1, by omega⟩
    simp only [slices_Index_string_string.l0]
    rw [if_neg (by omega), List.drop_eq_nil_of_le (by omega)]
    exact ⟨_, rfl, by simp⟩
  | succ d ih =>
    intro k i h0 h1 hd hk
    obtain ⟨k, rfl⟩ : ∃ m, k = m + 1 := ⟨k - 1, by omega⟩
    have hlt : i < (l.length : Int) := by omega
    simp only [slices_Index_string_string.l0]
    rw [if_pos hlt, if_pos h0, if_pos hlt, drop_rdOf h0 hlt]
    by_cases c1 : s = rdOf ByteArray.empty l i
    · rw [if_pos (toList_inj.2 c1)]
      exact ⟨_, rfl, by simp [← c1]; omega⟩
    · rw [if_neg (fun e => c1 (toList_inj.1 e)), wrap_succ h0 hlt hn]
      obtain ⟨n, hn1, hn2⟩ := ih k (i + 1) (by omega) (by omega) (by omega) (by omega)
      exact ⟨n, hn1, by rw [hn2]; simp [c1]⟩
theorem contains_is (l : List ByteArray) (s : ByteArray) (hn : (l.length : Int) ≤ 9223372036854775807) (k : Nat) (hk : l.length < k) : slices_Contains_string_string.f k l s = some (decide (s ∈ l)) := by
  obtain ⟨n, hn1, hn2⟩ := index_l0 l s hn l.length k 0 (by omega) (by omega) (by omega) hk
  unfold slices_Contains_string_string.f slices_Index_string_string.f
  rw [hn1, Option.bind_some]
  exact congrArg some (decide_eq_decide.2 hn2)
/-- What the check of the addresses says. -/
def Sized (l : List ByteArray) : Prop := ∀ s ∈ l, s.size = 4 ∨ s.size = 16
theorem right_l0 (l : List ByteArray) (hn : (l.length : Int) ≤ 9223372036854775807) : ∀ (d k : Nat) (i : Int), 0 ≤ i → i ≤ l.length → (l.length : Int) - i = d → d + l.length + 2 < k →
    ∃ b, laws_addressesRight.l0 k l l (l.length : Int) i = some b ∧ (b = true → (l.take i.toNat).Nodup → Sized (l.drop i.toNat) ∧ l.Nodup ∧ l.length ≤ 20) := by
  intro d
  induction d with
  | zero =>
    intro k i h0 h1 hd hk
    obtain ⟨k, rfl⟩ : ∃ m, k = m + 1 := ⟨k - 1, by omega⟩
    simp only [laws_addressesRight.l0]
    rw [if_neg (by omega), List.drop_eq_nil_of_le (by omega), List.take_of_length_le (by omega)]
    refine ⟨_, rfl, fun h hnd => ⟨fun s hs => by simp at hs, hnd, ?_⟩⟩
    have := of_decide_eq_true h
    omega
  | succ d ih =>
    intro k i h0 h1 hd hk
    obtain ⟨k, rfl⟩ : ∃ m, k = m + 1 := ⟨k - 1, by omega⟩
    have hlt : i < (l.length : Int) := by omega
    have hc := contains_is (l.take i.toNat) (rdOf ByteArray.empty l i) (by rw [List.length_take]; omega) k (by rw [List.length_take]; omega)
    have go : ∀ (hsz : (rdOf ByteArray.empty l i).size = 4 ∨ (rdOf ByteArray.empty l i).size = 16),
        ∃ b, ((slices_Contains_string_string.f k (l.take (i : Int).toNat) (rdOf ByteArray.empty l i)).bind fun t106 => (if t106 = true then (some false) else (laws_addressesRight.l0 k l l (l.length : Int) (wrap64 (i + 1))))) = some b ∧
          (b = true → (l.take i.toNat).Nodup → Sized (l.drop i.toNat) ∧ l.Nodup ∧ l.length ≤ 20) := by
      intro hsz
      rw [hc, Option.bind_some]
      by_cases c3 : rdOf ByteArray.empty l i ∈ l.take i.toNat
      · rw [if_pos (decide_eq_true c3)]; exact ⟨_, rfl, fun h => by cases h⟩
      · rw [if_neg (by simpa using c3), wrap_succ h0 hlt hn]
        obtain ⟨b, hb, hr⟩ := ih k (i + 1) (by omega) (by omega) (by omega) (by omega)
        refine ⟨b, hb, fun h hnd => ?_⟩
        have hnd2 : (l.take (i + 1).toNat).Nodup := by
          rw [take_rdOf h0 hlt]
          refine List.nodup_append.2 ⟨hnd, by simp, fun a ha b hb e => ?_⟩
          rw [List.mem_singleton] at hb
          exact c3 (by rw [← hb, ← e]; exact ha)
        obtain ⟨r1, r2, r3⟩ := hr h hnd2
        refine ⟨?_, r2, r3⟩
        rw [drop_rdOf h0 hlt]
        intro s hs
        rcases List.mem_cons.1 hs with rfl | hs
        · exact hsz
        · exact r1 s hs
    simp only [laws_addressesRight.l0]
    rw [if_pos hlt, if_pos h0, if_pos hlt]
    by_cases c1 : ((rdOf ByteArray.empty l i).size : Int) = 4
    · rw [if_pos c1, if_pos (by omega)]
      exact go (.inl (by omega))
    rw [if_neg c1]
    by_cases c2 : ((rdOf ByteArray.empty l i).size : Int) = 16
    · rw [if_pos c2, if_pos (by omega)]
      exact go (.inr (by omega))
    rw [if_neg c2]
    exact ⟨_, rfl, fun h => by cases h⟩
theorem right (l : List ByteArray) (hn : (l.length : Int) ≤ 9223372036854775807) (k : Nat) (hk : 2 * l.length + 2 < k) : ∃ b, laws_addressesRight.f k l = some b ∧ (b = true → Sized l ∧ l.Nodup ∧ l.length ≤ 20) := by
  obtain ⟨b, hb, hr⟩ := right_l0 l hn l.length k 0 (by omega) (by omega) (by omega) (by omega)
  exact ⟨b, hb, fun h => hr h (by simp)⟩
/-- The address of some bytes. -/
def adr (s : ByteArray) : S34 := ⟨if s.size = 16 then 24 else 2, s⟩
theorem haEq_adr (s t : ByteArray) : haEq (adr s).f0 (adr s).f1 (adr t).f0 (adr t).f1 = decide (s = t) := by
  unfold haEq adr
  by_cases h : s = t
  · subst h; simp
  · have : ¬ s.toList = t.toList := fun e => h (toList_inj.1 e)
    simp [h, this]
theorem to_l0 (l : List ByteArray) (hn : l.length ≤ 20) : ∀ (d k : Nat) (i : Int), 0 ≤ i → i ≤ l.length → (l.length : Int) - i = d → d < k →
    laws_addressTo.l0 k ((l.take i.toNat).map adr) l (l.length : Int) i = some (l.map adr) := by
  intro d
  induction d with
  | zero =>
    intro k i h0 h1 hd hk
    obtain ⟨k, rfl⟩ : ∃ m, k = m + 1 := ⟨k - 1, by omega⟩
    simp only [laws_addressTo.l0]
    rw [if_neg (by omega), List.take_of_length_le (by omega)]
  | succ d ih =>
    intro k i h0 h1 hd hk
    obtain ⟨k, rfl⟩ : ∃ m, k = m + 1 := ⟨k - 1, by omega⟩
    have hlt : i < (l.length : Int) := by omega
    have e : ∀ t : Int, t = (if (rdOf ByteArray.empty l i).size = 16 then 24 else 2) → (l.take i.toNat).map adr ++ [(⟨t, rdOf ByteArray.empty l i⟩ : S34)] = (l.take (i + 1).toNat).map adr := by
      intro t ht
      rw [take_rdOf h0 hlt, List.map_append, ht]
      rfl
    have hlen : ((l.take i.toNat).map adr).length < 5864062014805 := by rw [List.length_map, List.length_take]; omega
    simp only [laws_addressTo.l0]
    rw [if_pos hlt, if_pos h0, if_pos hlt]
    by_cases c1 : ((rdOf ByteArray.empty l i).size : Int) = 16
    · rw [if_pos c1, if_pos hlen, e 24 (by rw [if_pos (by omega)]), wrap_succ h0 hlt (by omega)]
      exact ih k (i + 1) (by omega) (by omega) (by omega) (by omega)
    · rw [if_neg c1, if_pos hlen, e 2 (by rw [if_neg (by omega)]), wrap_succ h0 hlt (by omega)]
      exact ih k (i + 1) (by omega) (by omega) (by omega) (by omega)
theorem to_is (l : List ByteArray) (hn : l.length ≤ 20) (k : Nat) (hk : l.length < k) : laws_addressTo.f k l = some (l.map adr) := to_l0 l hn l.length k 0 (by omega) (by omega) (by omega) hk
theorem okA_adr (l : List ByteArray) (hl : l.length ≤ 20) (hS : Sized l) : okA (l.map adr) = true := by
  unfold okA
  rw [Bool.and_eq_true]
  refine ⟨decide_eq_true (by rw [List.length_map]; omega), List.all_eq_true.2 fun a ha => ?_⟩
  obtain ⟨s, hs, rfl⟩ := List.mem_map.1 ha
  have : s.size ≤ 16 := by rcases hS s hs with h | h <;> omega
  exact decide_eq_true (by show s.size ≤ _; omega)
theorem in_is (l : List ByteArray) (hl : l.length ≤ 20) (hS : Sized l) (s : ByteArray) (hs : s.size ≤ 16) : impl_AddressIn.f (l.map adr) (adr s).f0 (adr s).f1 = some (decide (s ∈ l)) := by
  unfold impl_AddressIn.f
  rw [if_pos ⟨okA_adr l hl hS, by show s.size ≤ _; omega⟩, List.any_map]
  have : (l.any ((fun a : S34 => haEq a.f0 a.f1 (adr s).f0 (adr s).f1) ∘ adr)) = decide (s ∈ l) := by
    rw [Bool.eq_iff_iff, List.any_eq_true, decide_eq_true_iff]
    constructor
    · rintro ⟨x, hx, h⟩
      have h' : haEq (adr x).f0 (adr x).f1 (adr s).f0 (adr s).f1 = true := h
      rw [haEq_adr, decide_eq_true_iff] at h'
      rw [← h']; exact hx
    · intro h
      exact ⟨s, h, by show haEq (adr s).f0 (adr s).f1 (adr s).f0 (adr s).f1 = true; rw [haEq_adr]; simp⟩
  rw [this]
theorem eq_is (s t : ByteArray) (hs : s.size ≤ 16) (ht : t.size ≤ 16) : impl_AddressEqual.f (adr s).f0 (adr s).f1 (adr t).f0 (adr t).f1 = some (decide (s = t)) := by
  unfold impl_AddressEqual.f
  rw [if_pos ⟨by show s.size ≤ _; omega, by show t.size ≤ _; omega⟩, haEq_adr]
def within (m l : List ByteArray) : Bool := m.all fun s => decide (s ∈ l)
theorem hostEq_adr (l m : List ByteArray) : hostEq (l.map adr) (m.map adr) = (decide (l.length = m.length) && within m l) := by
  unfold hostEq within
  rw [List.length_map, List.length_map, List.all_map]
  congr 1
  rw [Bool.eq_iff_iff, List.all_eq_true, List.all_eq_true]
  have key : ∀ s, (among (l.map adr) ∘ adr) s = decide (s ∈ l) := by
    intro s
    show among (l.map adr) (adr s) = _
    unfold among
    rw [List.any_map, Bool.eq_iff_iff, List.any_eq_true, decide_eq_true_iff]
    constructor
    · rintro ⟨x, hx, h⟩
      have h' : haEq (adr s).f0 (adr s).f1 (adr x).f0 (adr x).f1 = true := h
      rw [haEq_adr, decide_eq_true_iff] at h'
      rw [h']; exact hx
    · intro h
      exact ⟨s, h, by show haEq (adr s).f0 (adr s).f1 (adr s).f0 (adr s).f1 = true; rw [haEq_adr]; simp⟩
  constructor
  · intro h s hs; rw [← key s]; exact h s hs
  · intro h s hs; rw [key s]; exact h s hs
theorem lists_is (l m : List ByteArray) (hl : l.length ≤ 20) (hm : m.length ≤ 20) (hS : Sized l) (hS' : Sized m) : impl_AddressesEqual.f (l.map adr) (m.map adr) = some (decide (l.length = m.length) && within m l) := by
  unfold impl_AddressesEqual.f
  rw [if_pos ⟨okA_adr l hl hS, okA_adr m hm hS'⟩, hostEq_adr]
theorem pigeon : ∀ (l m : List ByteArray), l.Nodup → (∀ x ∈ l, x ∈ m) → m.length ≤ l.length → ∀ x ∈ m, x ∈ l
  | [], m, _, _, hlen, x, hx => by
    have : m = [] := List.length_eq_zero_iff.1 (by simpa using hlen)
    rw [this] at hx
    exact hx
  | a :: l, m, hnd, hsub, hlen, x, hx => by
    have ham : a ∈ m := hsub a List.mem_cons_self
    obtain ⟨hal, hnd'⟩ := List.nodup_cons.1 hnd
    by_cases hxa : x = a
    · rw [hxa]; exact List.mem_cons_self
    · refine List.mem_cons_of_mem _ (pigeon l (m.erase a) hnd' (fun y hy => ?_) ?_ x ?_)
      · have hya : y ≠ a := fun e => hal (e ▸ hy)
        exact (List.mem_erase_of_ne hya).2 (hsub y (List.mem_cons_of_mem _ hy))
      · rw [List.length_erase_of_mem ham]
        simp only [List.length_cons] at hlen
        omega
      · exact (List.mem_erase_of_ne hxa).2 hx
theorem within_turn (l m : List ByteArray) (hl : l.Nodup) (hm : m.Nodup) : (decide (l.length = m.length) && within m l) = (decide (l.length = m.length) && within l m) := by
  by_cases h : l.length = m.length
  · rw [decide_eq_true h, Bool.true_and, Bool.true_and, Bool.eq_iff_iff]
    unfold within
    rw [List.all_eq_true, List.all_eq_true]
    simp only [decide_eq_true_iff]
    exact ⟨fun q => pigeon m l hm q (by omega), fun q => pigeon l m hl q (by omega)⟩
  · rw [decide_eq_false h]; rfl
theorem awake : laws_addressAwake.f = some true := by decide +kernel
theorem clone_is (l : List S34) (hl : l.length ≤ 20) : impl_Address.f l = some l := by
  unfold impl_Address.f
  rw [if_pos (by omega)]
theorem rd_adr {l : List ByteArray} {i : Int} (h0 : 0 ≤ i) (h : i < l.length) : rd_T34 (l.map adr) i = adr (rdOf ByteArray.empty l i) := by
  have h' : i.toNat < l.length := by omega
  unfold rd_T34 rdOf
  rw [List.getD_eq_getElem?_getD, List.getD_eq_getElem?_getD, List.getElem?_map, List.getElem?_eq_getElem h']
  rfl
theorem take_zero_within (m : List ByteArray) (l : List ByteArray) : within (l.take (0 : Int).toNat) m = true := rfl
theorem within_step {l m : List ByteArray} {i : Int} (h0 : 0 ≤ i) (h : i < l.length) : within (l.take (i + 1).toNat) m = (within (l.take i.toNat) m && decide (rdOf ByteArray.empty l i ∈ m)) := by
  rw [take_rdOf h0 h]
  unfold within
  rw [List.all_append]
  simp
theorem l1_is (l m : List ByteArray) (hl : l.length ≤ 20) (hm : m.length ≤ 20) (hS : Sized l) (hS' : Sized m) (x2 : Int) (x9 : Bool) (i : Int) (h0 : 0 ≤ i) (hi : i < l.length) (K : Nat)
    (hC : ∀ k, K ≤ k → laws_FnAddresses.l0 k l m x2 (l.map adr) (m.map adr) x9 (l.map adr) ((l.map adr).length : Int) (i + 1) = some true) : ∀ (d k : Nat) (j : Int), 0 ≤ j → j ≤ m.length → (m.length : Int) - j = d → d + K + 1 ≤ k →
    laws_FnAddresses.l1 k l m x2 (l.map adr) (m.map adr) x9 i (l.map adr) ((l.map adr).length : Int) i (m.map adr) ((m.map adr).length : Int) j (adr (rdOf ByteArray.empty l i)).f0 (adr (rdOf ByteArray.empty l i)).f1 = some true := by
  intro d
  induction d with
  | zero =>
    intro k j hj0 hj1 hd hk
    obtain ⟨k, rfl⟩ : ∃ m, k = m + 1 := ⟨k - 1, by omega⟩
    simp only [laws_FnAddresses.l1]
    rw [if_neg (by rw [List.length_map]; omega), wrap_succ h0 hi (by omega)]
    exact hC k (by omega)
  | succ d ih =>
    intro k j hj0 hj1 hd hk
    obtain ⟨k, rfl⟩ : ∃ m, k = m + 1 := ⟨k - 1, by omega⟩
    have hlt : j < (m.length : Int) := by omega
    have s1 : (rdOf ByteArray.empty l i).size ≤ 16 := by rcases hS _ (rdOf_mem h0 hi) with h | h <;> omega
    have s2 : (rdOf ByteArray.empty m j).size ≤ 16 := by rcases hS' _ (rdOf_mem hj0 hlt) with h | h <;> omega
    have hcmp : (decide (rdOf ByteArray.empty l i = rdOf ByteArray.empty m j) != ((rdOf ByteArray.empty l i).toList == (rdOf ByteArray.empty m j).toList)) = false := by
      by_cases c : rdOf ByteArray.empty l i = rdOf ByteArray.empty m j
      · rw [c]; simp
      · have : ¬ (rdOf ByteArray.empty l i).toList = (rdOf ByteArray.empty m j).toList := fun e => c (toList_inj.1 e)
        simp [c, this]
    simp only [laws_FnAddresses.l1]
    rw [if_pos (by rw [List.length_map]; omega), if_pos hj0, if_pos (by rw [List.length_map]; omega), rd_adr hj0 hlt, eq_is _ _ s1 s2, Option.bind_some, if_pos h0, if_pos hi, if_pos hlt, hcmp, if_neg (by decide), wrap_succ hj0 hlt (by omega)]
    exact ih k (j + 1) (by omega) (by omega) (by omega) (by omega)
theorem ending (l m : List ByteArray) (hl : l.length ≤ 20) (hm : m.length ≤ 20) (hS : Sized l) (hS' : Sized m) (hn : l.Nodup) (hn' : m.Nodup) (x2 : Int) (hx : 0 ≤ x2 ∧ x2 ≤ 255) (k : Nat) (i : Int) (hi : (l.length : Int) ≤ i) :
    laws_FnAddresses.l0 (k + 1) l m x2 (l.map adr) (m.map adr) (decide (l.length = m.length) && within l m) (l.map adr) ((l.map adr).length : Int) i = some true := by
  have hw : wrap64 x2 = x2 := by unfold wrap64; omega
  have hlist : impl_AddressesEqual.f (l.map adr) (m.map adr) = some (decide (l.length = m.length) && within l m) := by rw [lists_is l m hl hm hS hS', within_turn l m hn hn']
  have hself : ∀ r : List ByteArray, r.length = l.length → (∀ s ∈ r, s ∈ l) → impl_AddressesEqual.f (l.map adr) (r.map adr) = some true := by
    intro r hr hs
    rw [lists_is l r hl (by omega) hS (fun s h => hS s (hs s h)), decide_eq_true hr.symm, Bool.true_and]
    have : within r l = true := List.all_eq_true.2 fun s h => decide_eq_true (hs s h)
    rw [this]
  simp only [laws_FnAddresses.l0]
  rw [if_neg (by rw [List.length_map]; omega), clone_is _ (by rw [List.length_map]; omega), Option.bind_some]
  by_cases c : ((l.map adr).length : Int) > 0
  · rw [if_pos c, if_neg (by omega), hw]
    rw [List.length_map] at c ⊢
    have t0 : 0 ≤ Int.tmod x2 (l.length : Int) := Int.tmod_nonneg _ hx.1
    have t1 : Int.tmod x2 (l.length : Int) < (l.length : Int) := Int.tmod_lt_of_pos _ c
    generalize Int.tmod x2 (l.length : Int) = t at t0 t1
    have hrot : (l.map adr).drop t.toNat ++ (l.map adr).take t.toNat = (l.drop t.toNat ++ l.take t.toNat).map adr := by
      rw [List.map_append, List.map_drop, List.map_take]
    rw [if_pos t0, if_pos (by omega), clone_is _ (by rw [List.length_drop, List.length_map]; omega)]
    simp only [Option.bind_some]
    rw [if_pos (by rw [List.length_drop, List.length_take, List.length_map]; omega), hlist, Option.bind_some, if_pos (by simp), hrot,
      hself _ (by rw [List.length_append, List.length_drop, List.length_take]; omega) (fun s h => by
        rcases List.mem_append.1 h with h | h
        · exact List.mem_of_mem_drop h
        · exact List.mem_of_mem_take h), Option.bind_some, if_pos rfl, awake]
    rfl
  · rw [if_neg c, hlist, Option.bind_some, if_pos (by simp), hself l rfl (fun s h => h), Option.bind_some, if_pos rfl, awake]
    rfl
theorem l0_is (l m : List ByteArray) (hl : l.length ≤ 20) (hm : m.length ≤ 20) (hS : Sized l) (hS' : Sized m) (hn : l.Nodup) (hn' : m.Nodup) (x2 : Int) (hx : 0 ≤ x2 ∧ x2 ≤ 255) : ∀ (d k : Nat) (i : Int), 0 ≤ i → i ≤ l.length → (l.length : Int) - i = d → d * 50 + 50 ≤ k →
    laws_FnAddresses.l0 k l m x2 (l.map adr) (m.map adr) (decide (l.length = m.length) && within (l.take i.toNat) m) (l.map adr) ((l.map adr).length : Int) i = some true := by
  intro d
  induction d with
  | zero =>
    intro k i h0 h1 hd hk
    obtain ⟨k, rfl⟩ : ∃ m, k = m + 1 := ⟨k - 1, by omega⟩
    rw [List.take_of_length_le (by omega)]
    exact ending l m hl hm hS hS' hn hn' x2 hx k i (by omega)
  | succ d ih =>
    intro k i h0 h1 hd hk
    obtain ⟨k, rfl⟩ : ∃ m, k = m + 3 := ⟨k - 3, by omega⟩
    have hlt : i < (l.length : Int) := by omega
    have s1 : (rdOf ByteArray.empty l i).size ≤ 16 := by rcases hS _ (rdOf_mem h0 hlt) with h | h <;> omega
    have hnext : ∀ k', d * 50 + 50 ≤ k' → laws_FnAddresses.l0 k' l m x2 (l.map adr) (m.map adr) (decide (l.length = m.length) && within (l.take (i + 1).toNat) m) (l.map adr) ((l.map adr).length : Int) (i + 1) = some true :=
      fun k' hk' => ih k' (i + 1) (by omega) (by omega) (by omega) hk'
    have hj3 : ∀ x9' : Bool, x9' = (decide (l.length = m.length) && within (l.take (i + 1).toNat) m) →
        laws_FnAddresses.j3 (k + 2) l m x2 (l.map adr) (m.map adr) x9' i (decide (rdOf ByteArray.empty l i ∈ m)) (l.map adr) ((l.map adr).length : Int) i (adr (rdOf ByteArray.empty l i)).f0 (adr (rdOf ByteArray.empty l i)).f1 = some true := by
      intro x9' hx9
      simp only [laws_FnAddresses.j3]
      rw [in_is m hm hS' _ s1, Option.bind_some, if_neg (by simp), in_is l hl hS _ s1, Option.bind_some, decide_eq_true (rdOf_mem h0 hlt)]
      simp only [laws_FnAddresses.j4, Bool.not_true]
      rw [if_neg (by decide)]
      refine l1_is l m hl hm hS hS' x2 x9' i h0 hlt (d * 50 + 50) (fun k' hk' => ?_) m.length k 0 (by omega) (by omega) (by omega) (by omega)
      rw [hx9]
      exact hnext k' hk'
    simp only [laws_FnAddresses.l0]
    rw [if_pos (by rw [List.length_map]; omega), if_pos h0, if_pos (by rw [List.length_map]; omega), if_pos hlt, contains_is m _ (by omega) (k + 2) (by omega), Option.bind_some, rd_adr h0 hlt]
    by_cases c9 : (decide (l.length = m.length) && within (l.take i.toNat) m) = true
    · rw [if_pos c9]
      refine hj3 _ ?_
      rw [within_step h0 hlt, ← Bool.and_assoc, c9, Bool.true_and]
    · rw [if_neg c9]
      refine hj3 _ ?_
      rw [within_step h0 hlt, ← Bool.and_assoc]
      simp only [Bool.not_eq_true] at c9
      rw [c9, Bool.false_and]
end AD
open AD
theorem FnAddresses : laws_FnAddresses.Pure := by
  intro l m a2 h1 h2 h3
  have n1 : (l.length : Int) ≤ 9223372036854775807 := by omega
  have n2 : (m.length : Int) ≤ 9223372036854775807 := by omega
  have hx : 0 ≤ a2 ∧ a2 ≤ 255 := by
    have : IntKind.u8.min ≤ a2 ∧ a2 ≤ IntKind.u8.max := by simpa [Lit.wf] using h3
    exact this
  obtain ⟨k, hk⟩ : ∃ k, k = 2 * l.length + 2 * m.length + 2000 := ⟨_, rfl⟩
  refine ⟨k + 2, ?_⟩
  have hT : laws_FnAddresses.j0 (k + 2) l m a2 true = some true := by simp [laws_FnAddresses.j0]
  have hA : laws_FnAddresses.j1 (k + 1) l m a2 true = some true := by
    simp only [laws_FnAddresses.j1]
    rw [if_pos trivial, awake]
    rfl
  unfold laws_FnAddresses.f
  obtain ⟨b1, e1⟩ := fits l n1 (k + 2) (by omega)
  obtain ⟨b2, e2⟩ := fits m n2 (k + 2) (by omega)
  rw [e1, e2]
  simp only [Option.bind_some]
  cases b1
  case false => rw [if_neg (by decide)]; exact hT
  rw [if_pos rfl]
  cases b2
  case false => exact hT
  obtain ⟨b3, e3, r3⟩ := right l n1 (k + 1) (by omega)
  obtain ⟨b4, e4, r4⟩ := right m n2 (k + 1) (by omega)
  simp only [laws_FnAddresses.j0, Bool.not_true]
  rw [if_neg (by decide), e3, e4]
  simp only [Option.bind_some]
  cases b3
  case false => rw [if_neg (by decide)]; exact hA
  rw [if_pos rfl]
  cases b4
  case false => exact hA
  obtain ⟨hS, hn, hl⟩ := r3 rfl
  obtain ⟨hS', hn', hm⟩ := r4 rfl
  simp only [laws_FnAddresses.j1, Bool.not_true]
  rw [if_neg (by decide), to_is l hl k (by omega), to_is m hm k (by omega)]
  simp only [Option.bind_some]
  have hstart : ((l.length : Int) == (m.length : Int)) = (decide (l.length = m.length) && within (l.take (0 : Int).toNat) m) := by
    rw [take_zero_within, Bool.and_true, Bool.eq_iff_iff, beq_iff_eq, decide_eq_true_iff]
    omega
  rw [hstart]
  exact l0_is l m hl hm hS hS' hn hn' a2 hx l.length k 0 (by omega) (by omega) (by omega) (by omega)
end Go.Proofs.Ythgcpicflmigjaa.Pure

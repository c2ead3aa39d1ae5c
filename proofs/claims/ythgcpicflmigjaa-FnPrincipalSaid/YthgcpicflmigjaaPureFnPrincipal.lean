/- A principal made of a text of parts has these parts, its text and its salt are those of its parts, and a principal's text with a realm behind it is taken apart again into them: for every input of the law. -/
import Derived.Test.YthgcpicflmigjaaF13
import Derived.Test.YthgcpicflmigjaaPureFnPrincipalEqual
namespace Go.Proofs.Ythgcpicflmigjaa.Pure
open Go.RowKit Go.Proofs.Ythgcpicflmigjaa.F Go.Proofs.YthgcpicflmigjaaW.PrintWords

namespace PN
open PE
def L (s : ByteArray) : List UInt8 := s.data.toList
theorem L_size (s : ByteArray) : (L s).length = s.size := data_length s
theorem L_inj {s t : ByteArray} (h : L s = L t) : s = t := by
  cases s; cases t
  simp only [L] at h
  exact congrArg ByteArray.mk (Array.ext' h)
theorem L_append (s t : ByteArray) : L (s ++ t) = L s ++ L t := by simp [L]
theorem L_extract (s : ByteArray) (i j : Nat) : L (s.extract i j) = ((L s).take j).drop i := by simp [L, List.drop_take]
theorem L_toList (s : ByteArray) : s.toList = L s := ByteArray.toList_eq s
theorem size_append (s t : ByteArray) : (s ++ t).size = s.size + t.size := by rw [← L_size, L_append, List.length_append, L_size, L_size]
def one (c : UInt8) : ByteArray := ⟨#[c]⟩
theorem L_one (c : UInt8) : L (one c) = [c] := rfl
theorem L_empty : L (⟨#[]⟩ : ByteArray) = [] := rfl
theorem bt_L (s : ByteArray) (i : Int) (h0 : 0 ≤ i) (h : i < s.size) (c : UInt8) : (bt s i = (c.toNat : Int)) ↔ (L s)[i.toNat]'(by rw [L_size]; omega) = c := by
  have hi : i.toNat < s.size := by omega
  unfold bt
  rw [dif_pos hi]
  have e : s[i.toNat]'hi = (L s)[i.toNat]'(by rw [L_size]; omega) := rfl
  rw [e]
  constructor
  · intro h1
    exact UInt8.toNat_inj.1 (by omega)
  · intro h1
    rw [h1]
theorem drop_L (s : ByteArray) {i : Int} (h0 : 0 ≤ i) (h : i < s.size) : (L s).drop i.toNat = (L s)[i.toNat]'(by rw [L_size]; omega) :: (L s).drop (i + 1).toNat := by
  rw [List.drop_eq_getElem_cons (by rw [L_size]; omega), show (i + 1).toNat = i.toNat + 1 from by omega]

/-! The first place of a byte. -/
def ix (c : UInt8) : List UInt8 → Int → Int
  | [], _ => -1
  | x :: r, i => if x = c then i else ix c r (i + 1)
theorem ix_none (c : UInt8) : ∀ (t : List UInt8) (i : Int), c ∉ t → ix c t i = -1
  | [], _, _ => rfl
  | x :: r, i, h => by
    rw [ix, if_neg (fun e => h (by rw [e]; exact List.mem_cons_self)), ix_none c r (i + 1) (fun m => h (List.mem_cons_of_mem _ m))]
theorem ix_at (c : UInt8) : ∀ (x y : List UInt8) (i : Int), c ∉ x → ix c (x ++ c :: y) i = i + x.length
  | [], y, i, _ => by simp [ix]
  | a :: x, y, i, h => by
    rw [List.cons_append, ix, if_neg (fun e => h (by rw [e]; exact List.mem_cons_self)), ix_at c x y (i + 1) (fun m => h (List.mem_cons_of_mem _ m)), List.length_cons]
    omega
theorem index_l0 (s : ByteArray) (c : UInt8) (hs : s.size ≤ 1000000) : ∀ (d k : Nat) (i : Int), 0 ≤ i → i ≤ s.size → (s.size : Int) - i = d → d < k →
    types_zzIndex.l0 k s (one c) i = some (ix c ((L s).drop i.toNat) i) := by
  intro d
  induction d with
  | zero =>
    intro k i h0 h1 hd hk
    obtain ⟨k, rfl⟩ : ∃ m, k = m + 1 := ⟨k - 1, by omega⟩
    simp only [types_zzIndex.l0]
    have hz : ((one c).size : Int) = 1 := rfl
    rw [hz, wrap_succ (n := 9223372036854775807) h0 (by omega) (by omega), if_neg (by omega), List.drop_eq_nil_of_le (by rw [L_size]; omega)]
    rfl
  | succ d ih =>
    intro k i h0 h1 hd hk
    obtain ⟨k, rfl⟩ : ∃ m, k = m + 1 := ⟨k - 1, by omega⟩
    have hlt : i < (s.size : Int) := by omega
    simp only [types_zzIndex.l0]
    have hz : ((one c).size : Int) = 1 := rfl
    rw [hz, wrap_succ (n := 9223372036854775807) h0 (by omega) (by omega), if_pos (by omega), if_pos h0, if_pos (by omega)]
    have he : (s.extract i.toNat (i + 1).toNat).toList = [(L s)[i.toNat]'(by rw [L_size]; omega)] := by
      rw [L_toList, L_extract, List.drop_take, show (i + 1).toNat - i.toNat = 1 from by omega, drop_L s h0 hlt]
      simp
    have ho : (one c).toList = [c] := by rw [L_toList, L_one]
    rw [he, ho, drop_L s h0 hlt, ix]
    by_cases c1 : (L s)[i.toNat]'(by rw [L_size]; omega) = c
    · rw [if_pos (by rw [c1]), if_pos c1]
    · rw [if_neg (fun e => c1 (List.cons.inj e).1), if_neg c1]
      exact ih k (i + 1) (by omega) (by omega) (by omega) (by omega)
theorem index_is (s : ByteArray) (c : UInt8) (hs : s.size ≤ 1000000) (k : Nat) (hk : s.size < k) : types_zzIndex.f k s (one c) = some (ix c (L s) 0) := by
  have := index_l0 s c hs s.size k 0 (by omega) (by omega) (by omega) hk
  exact this

/-! Parts, one behind the other. -/
def tailB (sep : ByteArray) : List ByteArray → ByteArray
  | [] => ⟨#[]⟩
  | p :: r => sep ++ (p ++ tailB sep r)
def joinB (sep : ByteArray) : List ByteArray → ByteArray
  | [] => ⟨#[]⟩
  | p :: r => p ++ tailB sep r
theorem L_tail (sep : ByteArray) : ∀ r : List ByteArray, L (tailB sep r) = Lib.joinTail (L sep) (r.map L)
  | [] => rfl
  | p :: r => by
    rw [tailB, L_append, L_append, L_tail sep r]
    simp [Lib.joinTail]
theorem joinT_is (ps : List ByteArray) (sep : ByteArray) : joinT ps sep = joinB sep ps := by
  apply L_inj
  show Lib.join (ps.map L) (L sep) = _
  cases ps with
  | nil => rfl
  | cons p r => rw [List.map_cons, Lib.join_cons, joinB, L_append, L_tail]
theorem app_assoc (a b c : ByteArray) : (a ++ b) ++ c = a ++ (b ++ c) := by
  apply L_inj
  simp [L_append, List.append_assoc]
theorem app_empty (a : ByteArray) : a ++ (⟨#[]⟩ : ByteArray) = a := by
  apply L_inj
  simp [L_append, L_empty]
theorem empty_app (a : ByteArray) : (⟨#[]⟩ : ByteArray) ++ a = a := by
  apply L_inj
  simp [L_append, L_empty]
theorem tail_size (sep : ByteArray) (h1 : sep.size ≤ 1) : ∀ r : List ByteArray, (∀ p ∈ r, p.size ≤ 50) → (tailB sep r).size ≤ r.length * 51
  | [], _ => by simp [tailB, ByteArray.size]
  | p :: r, h => by
    rw [tailB, size_append, size_append, List.length_cons]
    have := tail_size sep h1 r (fun q hq => h q (List.mem_cons_of_mem _ hq))
    have := h p List.mem_cons_self
    omega
theorem join_size (sep : ByteArray) (h1 : sep.size ≤ 1) (ps : List ByteArray) (h : ∀ p ∈ ps, p.size ≤ 50) : (joinB sep ps).size ≤ ps.length * 51 := by
  cases ps with
  | nil => simp [joinB, ByteArray.size]
  | cons p r =>
    rw [joinB, size_append, List.length_cons]
    have := tail_size sep h1 r (fun q hq => h q (List.mem_cons_of_mem _ hq))
    have := h p List.mem_cons_self
    omega
theorem not_mem_tail (c d : UInt8) (hcd : c ≠ d) : ∀ r : List ByteArray, (∀ p ∈ r, c ∉ L p) → c ∉ L (tailB (one d) r)
  | [], _ => by simp [tailB, L_empty]
  | p :: r, h => by
    rw [tailB, L_append, L_append, L_one]
    have h1 := not_mem_tail c d hcd r (fun q hq => h q (List.mem_cons_of_mem _ hq))
    have h2 := h p List.mem_cons_self
    simp [hcd, h1, h2]
theorem not_mem_join (c d : UInt8) (hcd : c ≠ d) (ps : List ByteArray) (h : ∀ p ∈ ps, c ∉ L p) : c ∉ L (joinB (one d) ps) := by
  cases ps with
  | nil => simp [joinB, L_empty]
  | cons p r =>
    rw [joinB, L_append]
    have h1 := not_mem_tail c d hcd r (fun q hq => h q (List.mem_cons_of_mem _ hq))
    have h2 := h p List.mem_cons_self
    simp [h1, h2]
theorem split_l0 (c : UInt8) : ∀ (r : List ByteArray) (p : ByteArray) (k : Nat) (out : List ByteArray), (∀ q ∈ p :: r, c ∉ L q) → (joinB (one c) (p :: r)).size ≤ 1000000 → out.length + r.length ≤ 1000 → (joinB (one c) (p :: r)).size + r.length + 2 ≤ k →
    types_zzSplit.l0 k (joinB (one c) (p :: r)) (one c) out = some (out ++ p :: r)
  | [], p, k, out, hc, hs, ho, hk => by
    obtain ⟨k, rfl⟩ : ∃ m, k = m + 1 := ⟨k - 1, by omega⟩
    have e : joinB (one c) [p] = p := by rw [joinB, tailB, app_empty]
    rw [e] at hs hk ⊢
    simp only [types_zzSplit.l0]
    rw [if_pos ⟨by omega, by omega⟩, index_is p c hs k (by omega), ix_none c (L p) 0 (hc p List.mem_cons_self)]
    rfl
  | q :: r, p, k, out, hc, hs, ho, hk => by
    obtain ⟨k, rfl⟩ : ∃ m, k = m + 1 := ⟨k - 1, by omega⟩
    have e : joinB (one c) (p :: q :: r) = p ++ (one c ++ joinB (one c) (q :: r)) := by rw [joinB, tailB, joinB]
    have hz : (one c).size = 1 := rfl
    have hsz : (joinB (one c) (p :: q :: r)).size = p.size + (1 + (joinB (one c) (q :: r)).size) := by rw [e, size_append, size_append, hz]
    have hL : L (joinB (one c) (p :: q :: r)) = L p ++ c :: L (joinB (one c) (q :: r)) := by rw [e, L_append, L_append, L_one]; rfl
    rw [List.length_cons] at hk ho
    simp only [types_zzSplit.l0]
    rw [if_pos ⟨by omega, by omega⟩, index_is _ c hs k (by omega), hL, ix_at c (L p) _ 0 (hc p List.mem_cons_self), L_size]
    simp only [Option.bind_some]
    rw [if_neg (by omega), hz, if_pos (by omega)]
    have e1 : (joinB (one c) (p :: q :: r)).extract ((0 + (p.size : Int)) + ((1 : Nat) : Int)).toNat (joinB (one c) (p :: q :: r)).size = joinB (one c) (q :: r) := by
      apply L_inj
      rw [L_extract, ← L_size (joinB (one c) (p :: q :: r)), List.take_length, hL, show ((0 + (p.size : Int)) + ((1 : Nat) : Int)).toNat = (L p).length + 1 from by rw [L_size]; omega]
      simp
    have e2 : (joinB (one c) (p :: q :: r)).extract 0 (0 + (p.size : Int)).toNat = p := by
      apply L_inj
      rw [L_extract, hL, show (0 + (p.size : Int)).toNat = (L p).length from by rw [L_size]; omega]
      simp
    rw [e1, e2, split_l0 c r q k (out ++ [p]) (fun x hx => hc x (List.mem_cons_of_mem _ hx)) (by omega) (by simp; omega) (by omega)]
    simp
theorem split_is (c : UInt8) (ps : List ByteArray) (hne : ps ≠ []) (hc : ∀ q ∈ ps, c ∉ L q) (hs : (joinB (one c) ps).size ≤ 1000000) (hl : ps.length ≤ 1000) (k : Nat) (hk : (joinB (one c) ps).size + ps.length + 2 ≤ k) :
    types_zzSplit.f k (joinB (one c) ps) (one c) = some ps := by
  cases ps with
  | nil => exact absurd rfl hne
  | cons p r =>
    unfold types_zzSplit.f
    rw [if_pos (show 0 < (one c).size from Nat.one_pos), split_l0 c r p k [] hc hs (by simp at hl ⊢; omega) (by rw [List.length_cons] at hk; omega)]
    rfl
theorem contains_is (s : ByteArray) (c : UInt8) (hs : s.size ≤ 1000000) (k : Nat) (hk : s.size < k) : types_zzContains.f k s (one c) = some (decide (ix c (L s) 0 ≥ 0)) := by
  unfold types_zzContains.f
  rw [index_is s c hs k hk]
  rfl

/-! How often a byte stands in a text. -/
theorem count_l0' (s : ByteArray) (c : UInt8) (hn : s.size ≤ 1000000) : ∀ (d k : Nat) (n i : Int), 0 ≤ i → i ≤ s.size → (s.size : Int) - i = d → d < k → 0 ≤ n → n ≤ i →
    spec_CountByte.l0 k s (c.toNat : Int) n (s.size : Int) i = some (n + ((L s).drop i.toNat).count c) := by
  intro d
  induction d with
  | zero =>
    intro k n i h0 h1 hd hk hn0 hn1
    obtain ⟨k, rfl⟩ : ∃ m, k = m + 1 := ⟨k - 1, by omega⟩
    simp only [spec_CountByte.l0]
    rw [if_neg (by omega), List.drop_eq_nil_of_le (by rw [L_size]; omega)]
    simp
  | succ d ih =>
    intro k n i h0 h1 hd hk hn0 hn1
    obtain ⟨k, rfl⟩ : ∃ m, k = m + 1 := ⟨k - 1, by omega⟩
    have hlt : i < (s.size : Int) := by omega
    simp only [spec_CountByte.l0]
    rw [if_pos hlt, if_pos h0, if_pos hlt, wrap_succ h0 hlt (by omega), wrap_succ (n := 9223372036854775807) hn0 (by omega) (by omega), drop_L s h0 hlt]
    by_cases c1 : bt s i = (c.toNat : Int)
    · rw [if_pos c1, ih k (n + 1) (i + 1) (by omega) (by omega) (by omega) (by omega) (by omega) (by omega), (bt_L s i h0 hlt c).1 c1]
      simp
      omega
    · rw [if_neg c1, ih k n (i + 1) (by omega) (by omega) (by omega) (by omega) (by omega) (by omega)]
      have c2 := fun e => c1 ((bt_L s i h0 hlt c).2 e)
      rw [List.count_cons_of_ne c2]
theorem count_is (s : ByteArray) (c : UInt8) (hn : s.size ≤ 1000000) (k : Nat) (hk : s.size < k) : spec_CountByte.f k s (c.toNat : Int) = some ((L s).count c : Int) := by
  unfold spec_CountByte.f
  rw [count_l0' s c hn s.size k 0 0 (by omega) (by omega) (by omega) hk (by omega) (by omega)]
  simp
theorem not_mem_of_count {s : ByteArray} {c : UInt8} (h : ¬ ((L s).count c : Int) > 0) : c ∉ L s := by
  intro hm
  have := List.count_pos_iff.2 hm
  omega
/-- What the check of the parts says. -/
def Right (l : List ByteArray) : Prop := (∀ p ∈ l, p.size ≤ 50 ∧ (47 : UInt8) ∉ L p ∧ (64 : UInt8) ∉ L p)
theorem parts_l0' (l : List ByteArray) (hn : (l.length : Int) ≤ 9223372036854775807) : ∀ (d k : Nat) (i : Int), 0 ≤ i → i ≤ l.length → (l.length : Int) - i = d → d + 52 < k →
    ∃ b, laws_partsRight.l0 k l l (l.length : Int) i = some b ∧ (b = true → Right (l.drop i.toNat) ∧ 0 < l.length ∧ l.length ≤ 10) := by
  intro d
  induction d with
  | zero =>
    intro k i h0 h1 hd hk
    obtain ⟨k, rfl⟩ : ∃ m, k = m + 1 := ⟨k - 1, by omega⟩
    simp only [laws_partsRight.l0]
    rw [if_neg (by omega), List.drop_eq_nil_of_le (by omega)]
    by_cases c : (l.length : Int) > 0
    · rw [if_pos c]
      refine ⟨_, rfl, fun h => ⟨fun p hp => by simp at hp, by omega, ?_⟩⟩
      have := of_decide_eq_true h
      omega
    · rw [if_neg c]
      exact ⟨_, rfl, fun h => by cases h⟩
  | succ d ih =>
    intro k i h0 h1 hd hk
    obtain ⟨k, rfl⟩ : ∃ m, k = m + 1 := ⟨k - 1, by omega⟩
    have hlt : i < (l.length : Int) := by omega
    simp only [laws_partsRight.l0]
    rw [if_pos hlt, if_pos h0, if_pos hlt]
    by_cases c1 : ((rdOf ByteArray.empty l i).size : Int) > 50
    · rw [if_pos c1]; exact ⟨_, rfl, fun h => by cases h⟩
    rw [if_neg c1]
    have e1 := count_is (rdOf ByteArray.empty l i) 47 (by omega) k (by omega)
    have e2 := count_is (rdOf ByteArray.empty l i) 64 (by omega) k (by omega)
    rw [show (((47 : UInt8).toNat : Nat) : Int) = 47 from rfl] at e1
    rw [show (((64 : UInt8).toNat : Nat) : Int) = 64 from rfl] at e2
    rw [e1, e2]
    simp only [Option.bind_some]
    by_cases c2 : ((L (rdOf ByteArray.empty l i)).count 47 : Int) > 0
    · rw [if_pos c2]; exact ⟨_, rfl, fun h => by cases h⟩
    rw [if_neg c2]
    by_cases c3 : ((L (rdOf ByteArray.empty l i)).count 64 : Int) > 0
    · rw [if_pos c3]; exact ⟨_, rfl, fun h => by cases h⟩
    rw [if_neg c3, wrap_succ h0 hlt hn]
    obtain ⟨b, hb, hr⟩ := ih k (i + 1) (by omega) (by omega) (by omega) (by omega)
    refine ⟨b, hb, fun h => ?_⟩
    obtain ⟨r1, r2, r3⟩ := hr h
    refine ⟨?_, r2, r3⟩
    rw [drop_rdOf h0 hlt]
    intro p hp
    rcases List.mem_cons.1 hp with rfl | hp
    · exact ⟨by omega, not_mem_of_count c2, not_mem_of_count c3⟩
    · exact r1 p hp
theorem parts' (l : List ByteArray) (hn : (l.length : Int) ≤ 9223372036854775807) (k : Nat) (hk : l.length + 52 < k) : ∃ b, laws_partsRight.f k l = some b ∧ (b = true → Right l ∧ 0 < l.length ∧ l.length ≤ 10) :=
  parts_l0' l hn l.length k 0 (by omega) (by omega) (by omega) hk

/-! The parts joined by a loop. -/
theorem joined_l0 (sep : ByteArray) (hsep : sep.size ≤ 1) (l : List ByteArray) (hl : l.length ≤ 1000) (h50 : ∀ p ∈ l, p.size ≤ 50) : ∀ (d k : Nat) (acc : ByteArray) (i : Int), 1 ≤ i → i ≤ l.length → (l.length : Int) - i = d → d < k → acc.size ≤ i * 51 →
    spec_Joined.l0 k sep acc l (l.length : Int) i = some (acc ++ tailB sep (l.drop i.toNat)) := by
  intro d
  induction d with
  | zero =>
    intro k acc i h0 h1 hd hk ha
    obtain ⟨k, rfl⟩ : ∃ m, k = m + 1 := ⟨k - 1, by omega⟩
    simp only [spec_Joined.l0]
    rw [if_neg (by omega), List.drop_eq_nil_of_le (by omega), tailB, app_empty]
  | succ d ih =>
    intro k acc i h0 h1 hd hk ha
    obtain ⟨k, rfl⟩ : ∃ m, k = m + 1 := ⟨k - 1, by omega⟩
    have hlt : i < (l.length : Int) := by omega
    have e := drop_rdOf (l := l) (i := i) (by omega) hlt
    have h5 : (rdOf ByteArray.empty l i).size ≤ 50 := h50 _ (List.mem_of_mem_drop (i := i.toNat) (by rw [e]; exact List.mem_cons_self))
    simp only [spec_Joined.l0]
    rw [if_pos hlt, if_pos (by omega), if_pos hlt, if_pos (by omega), if_pos (by omega), if_pos (by rw [size_append]; omega), wrap_succ (by omega) hlt (by omega), ih k _ (i + 1) (by omega) (by omega) (by omega) (by omega) (by rw [size_append, size_append]; push_cast; omega), e, tailB]
    simp only [app_assoc]
theorem joined_is (sep : ByteArray) (hsep : sep.size ≤ 1) (l : List ByteArray) (hne : 0 < l.length) (hl : l.length ≤ 1000) (h50 : ∀ p ∈ l, p.size ≤ 50) (k : Nat) (hk : l.length + 1 < k) : spec_Joined.f k l sep = some (joinB sep l) := by
  cases l with
  | nil => simp at hne
  | cons p r =>
    obtain ⟨k, rfl⟩ : ∃ m, k = m + 1 := ⟨k - 1, by omega⟩
    unfold spec_Joined.f
    simp only [spec_Joined.l0]
    have hp : rdOf ByteArray.empty (p :: r) 0 = p := rfl
    have h5 := h50 p List.mem_cons_self
    have hz : (⟨#[]⟩ : ByteArray).size = 0 := rfl
    rw [if_pos (by omega), if_pos (by omega), if_pos (by omega), if_neg (by omega), hp, hz, if_pos (by omega), empty_app, wrap_succ (n := 9223372036854775807) (by omega) (by omega) (by omega)]
    have hsz : (p.size : Int) ≤ (0 + 1) * 51 := by omega
    rw [joined_l0 sep hsep (p :: r) hl h50 r.length k p (0 + 1) (by omega) (by omega) (by simp) (by rw [List.length_cons] at hk; omega) hsz, joinB]
    rfl

/-! The salt. -/
theorem bytesOf_append (s t : ByteArray) : bytesOf (s ++ t) = bytesOf s ++ bytesOf t := by
  show (L (s ++ t)).map _ = (L s).map _ ++ (L t).map _
  rw [L_append, List.map_append]
theorem str_bytes (s : ByteArray) : strOfNums (bytesOf s) = s := by
  apply L_inj
  show ((bytesOf s).map fun n => UInt8.ofNat n.toNat) = _
  show ((L s).map _).map _ = L s
  rw [List.map_map]
  conv => rhs; rw [← List.map_id (L s)]
  refine List.map_congr_left fun b _ => ?_
  simp
theorem salt_l0 (l : List ByteArray) (hl : l.length ≤ 1000) (h50 : ∀ p ∈ l, p.size ≤ 50) : ∀ (d k : Nat) (acc : ByteArray) (i : Int), 0 ≤ i → i ≤ l.length → (l.length : Int) - i = d → d < k → acc.size ≤ 50 + i * 51 →
    types_PrincipalName_GetSalt.l0 k (bytesOf acc) l (l.length : Int) i = some (acc ++ tailB ⟨#[]⟩ (l.drop i.toNat)) := by
  intro d
  induction d with
  | zero =>
    intro k acc i h0 h1 hd hk ha
    obtain ⟨k, rfl⟩ : ∃ m, k = m + 1 := ⟨k - 1, by omega⟩
    simp only [types_PrincipalName_GetSalt.l0]
    rw [if_neg (by omega), List.drop_eq_nil_of_le (by omega), tailB, app_empty, str_bytes]
  | succ d ih =>
    intro k acc i h0 h1 hd hk ha
    obtain ⟨k, rfl⟩ : ∃ m, k = m + 1 := ⟨k - 1, by omega⟩
    have hlt : i < (l.length : Int) := by omega
    have e := drop_rdOf (l := l) (i := i) (by omega) hlt
    have h5 : (rdOf ByteArray.empty l i).size ≤ 50 := h50 _ (List.mem_of_mem_drop (i := i.toNat) (by rw [e]; exact List.mem_cons_self))
    simp only [types_PrincipalName_GetSalt.l0]
    rw [if_pos hlt, if_pos (by omega), if_pos hlt, if_pos (by rw [bytesOf_length]; omega), ← bytesOf_append, wrap_succ (by omega) hlt (by omega), ih k _ (i + 1) (by omega) (by omega) (by omega) (by omega) (by rw [size_append]; push_cast; omega), e, tailB]
    simp only [app_assoc, empty_app]
theorem tail_join_empty (l : List ByteArray) : tailB ⟨#[]⟩ l = joinB ⟨#[]⟩ l := by
  cases l with
  | nil => rfl
  | cons p r => rw [tailB, joinB, empty_app]
theorem salt_is (t : Int) (l : List ByteArray) (realm : ByteArray) (hr : realm.size ≤ 50) (hl : l.length ≤ 1000) (h50 : ∀ p ∈ l, p.size ≤ 50) (k : Nat) (hk : l.length < k) : impl_PrincipalSalt.f k t l realm = some (realm ++ joinB ⟨#[]⟩ l) := by
  unfold impl_PrincipalSalt.f impl_principal.f types_PrincipalName_GetSalt.f
  simp only [Option.bind_some, List.nil_append, List.length_nil]
  rw [if_pos (by omega), salt_l0 l hl h50 l.length k realm 0 (by omega) (by omega) (by omega) hk (by omega), Option.bind_some]
  show some (realm ++ tailB ⟨#[]⟩ l) = _
  rw [tail_join_empty]

/-! The text taken apart. -/
theorem spn_plain (ps : List ByteArray) (hR : Right ps) (h0 : 0 < ps.length) (h10 : ps.length ≤ 10) (k : Nat) (hk : 2000 ≤ k) : impl_ParseSPN.f k (joinB (one 47) ps) = some (1, ps, ⟨#[]⟩) := by
  have hsz := join_size (one 47) (Nat.le_refl 1) ps (fun p hp => (hR p hp).1)
  have hnot := not_mem_join 64 47 (by decide) ps (fun p hp => (hR p hp).2.2)
  have hne : ps ≠ [] := fun e => by rw [e] at h0; simp at h0
  unfold impl_ParseSPN.f types_ParseSPNString.f
  rw [show (⟨#[64]⟩ : ByteArray) = one 64 from rfl, contains_is _ 64 (by omega) k (by omega), ix_none _ _ _ hnot, Option.bind_some, if_neg (by decide)]
  unfold types_NewPrincipalName.f
  rw [show (⟨#[47]⟩ : ByteArray) = one 47 from rfl, split_is 47 ps hne (fun p hp => (hR p hp).2.1) (by omega) (by omega) k (by omega)]
  rfl
theorem trim_is (a b : ByteArray) (ha : a.size ≤ 1000000) (hb : b.size ≤ 1000000) : strings_TrimSuffix.f (a ++ b) b = some a := by
  unfold strings_TrimSuffix.f stringslite_TrimSuffix.f stringslite_HasSuffix.f
  have hw : wrap64 (((a ++ b).size : Int) - (b.size : Int)) = a.size := by
    rw [size_append]; unfold wrap64; push_cast; omega
  have hsz := size_append a b
  have e : ((a ++ b).extract ((a.size : Nat) : Int).toNat (a ++ b).size) = b := by
    apply L_inj
    rw [L_extract, ← L_size (a ++ b), List.take_length, L_append, show ((a.size : Nat) : Int).toNat = (L a).length from by rw [L_size]; omega]
    simp
  have e2 : ((a ++ b).extract 0 ((a.size : Nat) : Int).toNat) = a := by
    apply L_inj
    rw [L_extract, L_append, show ((a.size : Nat) : Int).toNat = (L a).length from by rw [L_size]; omega]
    simp
  rw [hw, if_pos (by omega), if_pos (by omega), if_pos (by omega), e, Option.bind_some, if_pos (by simp), if_pos (by omega), if_pos (by omega), e2]
  rfl
theorem spn_realm (ps : List ByteArray) (hR : Right ps) (h0 : 0 < ps.length) (h10 : ps.length ≤ 10) (realm : ByteArray) (hr : realm.size ≤ 50) (hr64 : (64 : UInt8) ∉ L realm) (k : Nat) (hk : 2000 ≤ k) :
    impl_ParseSPN.f k (joinB (one 47) ps ++ (one 64 ++ realm)) = some (1, ps, realm) := by
  have hsz := join_size (one 47) (Nat.le_refl 1) ps (fun p hp => (hR p hp).1)
  have hnot := not_mem_join 64 47 (by decide) ps (fun p hp => (hR p hp).2.2)
  have hne : ps ≠ [] := fun e => by rw [e] at h0; simp at h0
  have hz : (one 64).size = 1 := rfl
  obtain ⟨t, ht⟩ : ∃ t, t = joinB (one 47) ps := ⟨_, rfl⟩
  have hT : t ++ (one 64 ++ realm) = joinB (one 64) [t, realm] := by rw [joinB, tailB, tailB, app_empty]
  have hTs : (t ++ (one 64 ++ realm)).size = t.size + (1 + realm.size) := by rw [size_append, size_append, hz]
  have hL : L (t ++ (one 64 ++ realm)) = L t ++ 64 :: L realm := by rw [L_append, L_append, L_one]; rfl
  rw [← ht] at hsz hnot ⊢
  unfold impl_ParseSPN.f types_ParseSPNString.f
  rw [show (⟨#[64]⟩ : ByteArray) = one 64 from rfl, contains_is _ 64 (by omega) k (by omega), hL, ix_at 64 (L t) _ 0 hnot, Option.bind_some, if_pos (decide_eq_true (by omega))]
  have hsp := split_is 64 [t, realm] (by simp) (by intro q hq; simp at hq; rcases hq with rfl | rfl; exact hnot; exact hr64) (by rw [← hT]; omega) (by simp) k (by rw [← hT]; simp only [List.length_cons, List.length_nil]; omega)
  rw [← hT] at hsp
  rw [hsp, Option.bind_some]
  have hw : wrap64 ((([t, realm] : List ByteArray).length : Int) - 1) = 1 := by
    rw [show (([t, realm] : List ByteArray).length : Int) = 2 from rfl]
    decide +kernel
  have hrd : rdOf ByteArray.empty [t, realm] 1 = realm := rfl
  rw [hw, hrd, if_pos (by omega), if_pos (by simp), if_pos (by omega), trim_is t (one 64 ++ realm) (by omega) (by rw [size_append, hz]; omega), Option.bind_some]
  unfold types_NewPrincipalName.f
  rw [show (⟨#[47]⟩ : ByteArray) = one 47 from rfl, ht, split_is 47 ps hne (fun p hp => (hR p hp).2.1) (by rw [← ht]; omega) (by omega) k (by rw [← ht]; omega)]
  rfl
end PN
open PE PN
/-- def laws_FnPrincipal.Pure : Prop := ∀ (a0 : Int) (l1 : List ByteArray) (a2 : ByteArray) (a3 : Bool), ((Lit.int .i32 a0).wf = true) → (l1.length ≤ 9223372036854775807 ∧ ∀ x_ ∈ l1, x_.size ≤ maxLen) → (a2.size ≤ 140737488351232) → ∃ k, laws_FnPrincipal.f k a0 l1 a2 a3 = some true -/
theorem FnPrincipal : laws_FnPrincipal.Pure := by
  intro a0 l1 a2 a3 _ h1 h2
  have n1 : (l1.length : Int) ≤ 9223372036854775807 := by omega
  obtain ⟨k, hk⟩ : ∃ k, k = l1.length + 3000 := ⟨_, rfl⟩
  refine ⟨k + 3, ?_⟩
  have hT : laws_FnPrincipal.j0 (k + 3) a0 l1 a2 a3 true = some true := by simp [laws_FnPrincipal.j0]
  have hA : laws_FnPrincipal.j1 (k + 2) a0 l1 a2 a3 true = some true := by
    simp only [laws_FnPrincipal.j1]
    rw [if_pos trivial, awakeF (k + 1) (by omega)]
    rfl
  unfold laws_FnPrincipal.f
  obtain ⟨b1, e1⟩ := fits l1 n1 (k + 3) (by omega)
  rw [e1, Option.bind_some]
  cases b1
  case false => rw [if_neg (by decide)]; exact hT
  rw [if_pos rfl]
  by_cases c2 : (a2.size : Int) > 2147483647
  · rw [decide_eq_true c2]; exact hT
  rw [decide_eq_false c2]
  obtain ⟨b3, e3, r3⟩ := parts' l1 n1 (k + 2) (by omega)
  simp only [laws_FnPrincipal.j0]
  rw [if_neg (by decide), e3, Option.bind_some]
  cases b3
  case false => rw [if_neg (by decide)]; exact hA
  rw [if_pos rfl]
  obtain ⟨hR, hl0, hl10⟩ := r3 rfl
  by_cases c4 : (a2.size : Int) > 50
  · rw [if_pos c4]; exact hA
  have e4 := count_is a2 64 (by omega) (k + 2) (by omega)
  rw [show (((64 : UInt8).toNat : Nat) : Int) = 64 from rfl] at e4
  rw [if_neg c4, e4, Option.bind_some]
  by_cases c5 : ((L a2).count 64 : Int) > 0
  · rw [decide_eq_true c5]; exact hA
  rw [decide_eq_false c5]
  have hr64 := not_mem_of_count c5
  have h50 : ∀ p ∈ l1, p.size ≤ 50 := fun p hp => (hR p hp).1
  have hne : l1 ≠ [] := fun e => by rw [e] at hl0; simp at hl0
  have hsz := join_size (one 47) (Nat.le_refl 1) l1 h50
  have hsz0 := join_size ⟨#[]⟩ (Nat.zero_le 1) l1 h50
  have hJ : spec_Joined.f (k + 1) l1 (⟨#[47]⟩ : ByteArray) = some (joinB (one 47) l1) := joined_is (one 47) (Nat.le_refl 1) l1 hl0 (by omega) h50 (k + 1) (by omega)
  have hJ0 : spec_Joined.f (k + 1) l1 (⟨#[]⟩ : ByteArray) = some (joinB ⟨#[]⟩ l1) := joined_is ⟨#[]⟩ (Nat.zero_le 1) l1 hl0 (by omega) h50 (k + 1) (by omega)
  have hP : impl_PrincipalOf.f (k + 1) a0 (joinB (one 47) l1) = some (a0, l1) := by
    unfold impl_PrincipalOf.f types_NewPrincipalName.f
    rw [show (⟨#[47]⟩ : ByteArray) = one 47 from rfl, split_is 47 l1 hne (fun p hp => (hR p hp).2.1) (by omega) (by omega) (k + 1) (by omega)]
    rfl
  have hX : impl_PrincipalText.f a0 l1 = some (joinB (one 47) l1) := by
    unfold impl_PrincipalText.f impl_principal.f types_PrincipalName_PrincipalNameString.f strings_Join.f
    simp only [Option.bind_some]
    rw [show (⟨#[47]⟩ : ByteArray) = one 47 from rfl, joinT_is, if_pos (by omega)]
    rfl
  have hS := salt_is a0 l1 a2 (by omega) (by omega) h50 (k + 1) (by omega)
  simp only [laws_FnPrincipal.j1]
  rw [if_neg (by decide), hJ, Option.bind_some, hP, Option.bind_some, if_pos rfl, equal_is l1 l1 n1 (k + 1) (by omega), Option.bind_some, same_self, if_pos rfl, hX, Option.bind_some, if_pos rfl, hS, Option.bind_some, hJ0, Option.bind_some, if_pos (by omega)]
  simp only [bne_self_eq_false, laws_FnPrincipal.j2]
  rw [if_neg (by decide)]
  cases a3
  case false =>
    rw [if_neg (by decide), spn_plain l1 hR hl0 hl10 k (by omega), Option.bind_some, if_pos (by rw [L_toList]; rfl), if_pos rfl, equal_is l1 l1 n1 k (by omega), Option.bind_some, same_self, if_pos rfl, awakeF k (by omega)]
    rfl
  case true =>
    have hz : (one 64).size = 1 := rfl
    rw [if_pos rfl, if_pos (by omega), show (⟨#[64]⟩ : ByteArray) = one 64 from rfl, size_append, hz, if_pos (by omega), spn_realm l1 hR hl0 hl10 a2 (by omega) hr64 k (by omega), Option.bind_some, if_pos rfl, if_pos rfl, equal_is l1 l1 n1 k (by omega), Option.bind_some, same_self, if_pos rfl, awakeF k (by omega)]
    rfl
end Go.Proofs.Ythgcpicflmigjaa.Pure

/- The writers of a cache give the bytes that the plain writers give; under what each theorem states. -/
import Derived.Test.YtnipcocllhfaoaaP0
import Derived.Test.YtnipcocllhfaoaaA6
import Derived.Test.YtnipcocllhfaoaaA2
import Derived.Test.YtnipcocllhfaoaaA3
import Derived.Test.YtnipcocllhfaoaaA7
namespace Go.Proofs.Ytnipcocllhfaoaa.P
open Go.RowKit Go.Proofs.YtnipcocllhfaoaaW.PrintWords Go.Proofs.Ytnipcocllhfaoaa.B
open Go.Proofs.Ytnipcocllhfaoaa.A
set_option linter.unusedVariables false
set_option linter.unusedSimpArgs false
theorem strOf_append (a b : List Int) : strOfNums a ++ strOfNums b = strOfNums (a ++ b) := by
  apply ByteArray.ext
  apply Array.ext'
  simp [strOfNums]
theorem str_size (a : List Int) : (strOfNums a).size = a.length := by simp [strOfNums, ByteArray.size]
theorem bytes_str {l : List Int} (h : ∀ x ∈ l, 0 ≤ x ∧ x < 256) : bytesOf (strOfNums l) = l := by
  unfold bytesOf strOfNums
  simp only [List.map_map]
  conv => rhs; rw [← List.map_id l]
  apply List.map_congr_left
  intro x hx
  have := h x hx
  simp
  omega
theorem cat_ok {α : Type} {a b : List Int} {f : Option α} (h : a.length + b.length ≤ 1000000000) : (if (strOfNums a).size + (strOfNums b).size ≤ 9223372036854775807 then f else none) = f := if_pos (by rw [str_size, str_size]; omega)
theorem big_str {n : Int} {k : Nat} (h : 0 ≤ n) (hk : k ≤ 8) : spec_big.f n (k : Int) = some (strOfNums (big n k)) := by
  unfold spec_big.f
  rw [if_pos (by omega), Int.toNat_natCast]
  rfl
theorem cnt_str (s : ByteArray) {k : Nat} (hs : s.size ≤ 1000000) (hk : k ≤ 8) : spec_counted.f s (k : Int) = some (strOfNums (cnt (bytesOf s) k)) := by
  unfold spec_counted.f
  rw [if_pos (by omega), big_str (by omega) hk]
  simp only [Option.bind_some]
  rw [if_pos (by rw [str_size, big_len]; omega)]
  conv => lhs; rw [← strOf_bytesOf s]
  rw [strOf_append, strOf_bytesOf]
  unfold cnt
  rw [bytesOf_length]
theorem u64_id {n : Int} (h : 0 ≤ n) (h1 : n < 18446744073709551616) : IntKind.u64.wrap n = n := by rw [IntKind.wrap_u64]; omega
theorem u16_id (n : Int) : IntKind.u64.wrap (IntKind.u16.wrap n) = n % 65536 := by rw [IntKind.wrap_u16, IntKind.wrap_u64]; omega
theorem eNames_cons (s : ByteArray) (l : List ByteArray) : eNames (s :: l) = cnt (bytesOf s) 4 ++ eNames l := by simp [eNames]
theorem eNames_le : ∀ l : List ByteArray, (∀ s ∈ l, s.size ≤ 200) → (eNames l).length ≤ 204 * l.length
  | [], _ => by simp [eNames]
  | s :: l, h => by
    have h1 := eNames_le l (fun y hy => h y (by simp [hy]))
    have h2 := h s (by simp)
    have e : (eNames (s :: l)).length = (cnt (bytesOf s) 4).length + (eNames l).length := by simp [eNames]
    rw [e, cnt_len, bytesOf_length, List.length_cons]
    omega
theorem eName_le {x : S24} (h : OkName x) : (eName x).length ≤ 2000 := by
  have h1 := eNames_le x.f1 h.2.2.1
  have h2 := h.1
  have h3 := h.2.1
  unfold eName
  simp only [List.length_append, big_len, cnt_len, bytesOf_length]
  omega
theorem ePart_le {p : S63} (h : OkPart p) : (ePart p).length ≤ 106 := by
  have := h.2.2
  unfold ePart
  rw [List.length_append, big_len, cnt_len, bytesOf_length]
  omega
theorem parts_le : ∀ l : List S63, (∀ s ∈ l, OkPart s) → (l.flatMap ePart).length ≤ 106 * l.length
  | [], _ => by simp
  | s :: l, h => by
    have h1 := parts_le l (fun y hy => h y (by simp [hy]))
    have h2 := ePart_le (h s (by simp))
    rw [List.flatMap_cons, List.length_append, List.length_cons]
    omega
theorem eParts_le {l : List S63} (hl : l.length ≤ 10) (h : ∀ s ∈ l, OkPart s) : (eParts l).length ≤ 1064 := by
  have := parts_le l h
  unfold eParts
  rw [List.length_append, big_len]
  omega
theorem eType_le (v : Nat) (n : Int) : (eType v n).length ≤ 4 := by
  unfold eType
  rw [List.length_append, big_len]
  split
  · rw [big_len]; omega
  · simp
theorem eCred_le {v : Nat} {c : S36} (h : OkCred c) : (eCred v c).length ≤ 8000 := by
  have h1 := eName_le h.client
  have h2 := eName_le h.server
  have h3 := eParts_le h.la h.pa
  have h4 := eParts_le h.lb h.pb
  have h5 := eType_le v c.f2
  have h6 := h.key
  have h7 := h.tk
  have h8 := h.sc
  unfold eCred
  simp only [List.length_append, big_len, cnt_len, bytesOf_length]
  omega
theorem names_str (xs : List ByteArray) (hx : ∀ s ∈ xs, s.size ≤ 200) (hl : xs.length ≤ 8) : ∀ (d k j : Nat) (out : List Int), xs.length - j = d → j ≤ xs.length → d < k → out.length ≤ 100000 + 204 * j →
    spec_nameBytes.l0 k (strOfNums out) xs (xs.length : Int) (j : Int) = some (strOfNums (out ++ eNames (xs.drop j))) := by
  intro d
  induction d with
  | zero =>
    intro k j out hd hj hk _
    obtain ⟨k, rfl⟩ : ∃ m, k = m + 1 := ⟨k - 1, by omega⟩
    simp only [spec_nameBytes.l0]
    rw [if_neg (by omega), show j = xs.length from by omega, List.drop_length]
    simp [eNames]
  | succ d ih =>
    intro k j out hd hj hk ho
    obtain ⟨k, rfl⟩ : ∃ m, k = m + 1 := ⟨k - 1, by omega⟩
    have hlt : j < xs.length := by omega
    have hw : wrap64 ((j : Int) + 1) = ((j + 1 : Nat) : Int) := by unfold wrap64; omega
    have hrd : rdOf ByteArray.empty xs (j : Int) = xs[j] := by
      unfold rdOf
      rw [Int.toNat_natCast, List.getD_eq_getElem?_getD, List.getElem?_eq_getElem hlt]
      rfl
    have hz := hx xs[j] (List.getElem_mem hlt)
    have hc : (cnt (bytesOf xs[j]) 4).length ≤ 204 := by rw [cnt_len, bytesOf_length]; omega
    simp only [spec_nameBytes.l0]
    rw [if_pos (by omega), if_pos (by omega), if_pos (by omega), hrd, show (4 : Int) = ((4 : Nat) : Int) from rfl, cnt_str _ (by omega) (by omega)]
    simp only [Option.bind_some]
    rw [cat_ok (by omega), hw, strOf_append, ih k (j + 1) _ (by omega) (by omega) (by omega) (by rw [List.length_append]; omega), List.drop_eq_getElem_cons hlt, eNames_cons, List.append_assoc]
theorem name_str {x : S24} (h : OkName x) {k : Nat} (hk : 8 < k) : spec_nameBytes.f k x.f0 x.f1 x.f2 = some (strOfNums (eName x)) := by
  obtain ⟨h0, h1, h2, h3, h4⟩ := h
  unfold spec_nameBytes.f
  rw [show (4 : Int) = ((4 : Nat) : Int) from rfl, big_str (by omega) (by omega), u64_id (by omega) (by omega), big_str (by omega) (by omega), cnt_str _ (by omega) (by omega)]
  simp only [Option.bind_some]
  rw [cat_ok (by simp only [big_len]; omega), strOf_append, cat_ok (by simp only [List.length_append, big_len, cnt_len, bytesOf_length]; omega), strOf_append]
  have := names_str x.f1 h2 h1 x.f1.length k 0 ((big (x.f2 % 4294967296) 4 ++ big (x.f1.length : Int) 4) ++ cnt (bytesOf x.f0) 4) (by omega) (by omega) (by omega) (by simp only [List.length_append, big_len, cnt_len, bytesOf_length]; omega)
  rw [List.drop_zero] at this
  have e0 : ((0 : Nat) : Int) = 0 := rfl
  rw [e0] at this
  rw [this]
  unfold eName
  simp only [List.append_assoc]
theorem partsl_str (xs : List S63) (hx : ∀ s ∈ xs, OkPart s) (hl : xs.length ≤ 10) : ∀ (d k j : Nat) (out : List Int), xs.length - j = d → j ≤ xs.length → d < k → out.length ≤ 4 + 106 * j →
    spec_partsBytes.l0 k (strOfNums out) xs (xs.length : Int) (j : Int) = some (strOfNums (out ++ (xs.drop j).flatMap ePart)) := by
  intro d
  induction d with
  | zero =>
    intro k j out hd hj hk _
    obtain ⟨k, rfl⟩ : ∃ m, k = m + 1 := ⟨k - 1, by omega⟩
    simp only [spec_partsBytes.l0]
    rw [if_neg (by omega), show j = xs.length from by omega, List.drop_length]
    simp
  | succ d ih =>
    intro k j out hd hj hk ho
    obtain ⟨k, rfl⟩ : ∃ m, k = m + 1 := ⟨k - 1, by omega⟩
    have hlt : j < xs.length := by omega
    have hw : wrap64 ((j : Int) + 1) = ((j + 1 : Nat) : Int) := by unfold wrap64; omega
    have hrd : rd_T63 xs (j : Int) = xs[j] := by
      unfold rd_T63
      rw [Int.toNat_natCast, List.getD_eq_getElem?_getD, List.getElem?_eq_getElem hlt]
      rfl
    have hz := hx xs[j] (List.getElem_mem hlt)
    have hp := ePart_le hz
    have h2 := hz.2.2
    have hep : ePart xs[j] = big (xs[j].f0 % 65536) 2 ++ cnt (bytesOf xs[j].f1) 4 := rfl
    have hpl : (big (xs[j].f0 % 65536) 2).length + (cnt (bytesOf xs[j].f1) 4).length ≤ 106 := by rw [← List.length_append]; exact hp
    simp only [spec_partsBytes.l0]
    rw [if_pos (by omega), if_pos (by omega), if_pos (by omega), hrd, u16_id, show (4 : Int) = ((4 : Nat) : Int) from rfl, show (2 : Int) = ((2 : Nat) : Int) from rfl, big_str (by omega) (by omega), cnt_str _ (by omega) (by omega)]
    simp only [Option.bind_some]
    rw [cat_ok (by omega), strOf_append, ← hep, cat_ok (by omega), hw, strOf_append, ih k (j + 1) _ (by omega) (by omega) (by omega) (by rw [List.length_append]; omega), List.drop_eq_getElem_cons hlt, List.flatMap_cons, List.append_assoc]
theorem parts_str {xs : List S63} (hl : xs.length ≤ 10) (hx : ∀ s ∈ xs, OkPart s) {k : Nat} (hk : 10 < k) : spec_partsBytes.f k xs = some (strOfNums (eParts xs)) := by
  unfold spec_partsBytes.f
  rw [u64_id (by omega) (by omega), show (4 : Int) = ((4 : Nat) : Int) from rfl, big_str (by omega) (by omega)]
  simp only [Option.bind_some]
  have := partsl_str xs hx hl xs.length k 0 (big (xs.length : Int) 4) (by omega) (by omega) (by omega) (by rw [big_len]; omega)
  rw [List.drop_zero] at this
  have e0 : ((0 : Nat) : Int) = 0 := rfl
  rw [e0] at this
  rw [this]
  rfl
theorem times_str {t1 t2 t3 t4 : Int} (h1 : OkTime t1) (h2 : OkTime t2) (h3 : OkTime t3) (h4 : OkTime t4) (out : List Int) (ho : out.length ≤ 100000) (k : Nat) (a0 : ByteArray) (a1 : List ByteArray) (a2 : Int) (a3 : ByteArray) (a4 : List ByteArray) (a5 a6 : Int) (a7 : ByteArray) (a8 a9 a10 a11 : Int) (a12 : Bool) (a13 : Int) (a14 a15 : List S63) (a16 a17 : ByteArray) :
    spec_CredBytes.l0 (k + 5) (strOfNums out) [t1, t2, t3, t4] 4 0 a0 a1 a2 a3 a4 a5 a6 a7 a8 a9 a10 a11 a12 a13 a14 a15 a16 a17 =
      spec_CredBytes.j2 k (strOfNums (out ++ (big t1 4 ++ (big t2 4 ++ (big t3 4 ++ big t4 4))))) (if a12 = true then 1 else 0) a0 a1 a2 a3 a4 a5 a6 a7 a8 a9 a10 a11 a12 a13 a14 a15 a16 a17 := by
  obtain ⟨b1, c1⟩ := h1
  obtain ⟨b2, c2⟩ := h2
  obtain ⟨b3, c3⟩ := h3
  obtain ⟨b4, c4⟩ := h4
  have w0 : wrap64 (0 + 1) = 1 := by unfold wrap64; omega
  have w1 : wrap64 (1 + 1) = 2 := by unfold wrap64; omega
  have w2 : wrap64 (2 + 1) = 3 := by unfold wrap64; omega
  have w3 : wrap64 (3 + 1) = 4 := by unfold wrap64; omega
  have r0 : rd [t1, t2, t3, t4] 0 = t1 := rfl
  have r1 : rd [t1, t2, t3, t4] 1 = t2 := rfl
  have r2 : rd [t1, t2, t3, t4] 2 = t3 := rfl
  have r3 : rd [t1, t2, t3, t4] 3 = t4 := rfl
  have hlen : (([t1, t2, t3, t4] : List Int).length : Int) = 4 := rfl
  have k4 : (4 : Int) = ((4 : Nat) : Int) := rfl
  have g1 : spec_big.f t1 4 = some (strOfNums (big t1 4)) := big_str (k := 4) b1 (by omega)
  have g2 : spec_big.f t2 4 = some (strOfNums (big t2 4)) := big_str (k := 4) b2 (by omega)
  have g3 : spec_big.f t3 4 = some (strOfNums (big t3 4)) := big_str (k := 4) b3 (by omega)
  have g4 : spec_big.f t4 4 = some (strOfNums (big t4 4)) := big_str (k := 4) b4 (by omega)
  rw [spec_CredBytes.l0, if_pos (by decide), if_pos (by decide), if_pos (by rw [hlen]; decide), r0, u64_id b1 (by omega), g1, Option.bind_some, cat_ok (by rw [big_len]; omega), strOf_append, w0]
  rw [spec_CredBytes.l0, if_pos (by decide), if_pos (by decide), if_pos (by rw [hlen]; decide), r1, u64_id b2 (by omega), g2, Option.bind_some, cat_ok (by simp only [List.length_append, big_len]; omega), strOf_append, w1]
  rw [spec_CredBytes.l0, if_pos (by decide), if_pos (by decide), if_pos (by rw [hlen]; decide), r2, u64_id b3 (by omega), g3, Option.bind_some, cat_ok (by simp only [List.length_append, big_len]; omega), strOf_append, w2]
  rw [spec_CredBytes.l0, if_pos (by decide), if_pos (by decide), if_pos (by rw [hlen]; decide), r3, u64_id b4 (by omega), g4, Option.bind_some, cat_ok (by simp only [List.length_append, big_len]; omega), strOf_append, w3]
  rw [spec_CredBytes.l0, if_neg (by decide)]
  simp only [List.append_assoc]
  cases a12
  · rw [if_neg (by decide), if_neg (by decide)]
  · rw [if_pos rfl, if_pos rfl]
def eTail (c : S36) : List Int := big (if c.f8 then 1 else 0) 1 ++ (big c.f9 4 ++ (eParts c.f10 ++ (eParts c.f11 ++ (cnt (bytesOf c.f12) 4 ++ cnt (bytesOf c.f13) 4))))
theorem tail_str {c : S36} (h : OkCred c) (out : List Int) (ho : out.length ≤ 100000) {k : Nat} (hk : 11 < k) (a0 : ByteArray) (a1 : List ByteArray) (a2 : Int) (a3 : ByteArray) (a4 : List ByteArray) (a5 a6 : Int) (a7 : ByteArray) (a8 a9 a10 a11 : Int) (a12 : Bool) :
    spec_CredBytes.j2 k (strOfNums out) (if c.f8 = true then 1 else 0) a0 a1 a2 a3 a4 a5 a6 a7 a8 a9 a10 a11 a12 c.f9 c.f10 c.f11 c.f12 c.f13 = some (strOfNums (out ++ eTail c)) := by
  obtain ⟨k, rfl⟩ : ∃ m, k = m + 1 := ⟨k - 1, by omega⟩
  have n1 := eParts_le h.la h.pa
  have n2 := eParts_le h.lb h.pb
  have n3 := h.tk
  have n4 := h.sc
  have g0 : spec_big.f (if c.f8 = true then 1 else 0) 1 = some (strOfNums (big (if c.f8 = true then 1 else 0) 1)) := big_str (k := 1) (by split <;> omega) (by omega)
  have g1 : spec_big.f c.f9 4 = some (strOfNums (big c.f9 4)) := big_str (k := 4) h.flags.1 (by omega)
  have g2 : spec_counted.f c.f12 4 = some (strOfNums (cnt (bytesOf c.f12) 4)) := cnt_str (k := 4) _ (by omega) (by omega)
  have g3 : spec_counted.f c.f13 4 = some (strOfNums (cnt (bytesOf c.f13) 4)) := cnt_str (k := 4) _ (by omega) (by omega)
  rw [spec_CredBytes.j2, g0, Option.bind_some, cat_ok (by rw [big_len]; omega), strOf_append, u64_id h.flags.1 (by have := h.flags.2; omega), g1, Option.bind_some, cat_ok (by simp only [List.length_append, big_len]; omega), strOf_append,
    parts_str h.la h.pa (by omega), Option.bind_some, cat_ok (by simp only [List.length_append, big_len]; omega), strOf_append,
    parts_str h.lb h.pb (by omega), Option.bind_some, cat_ok (by simp only [List.length_append, big_len]; omega), strOf_append,
    g2, Option.bind_some, cat_ok (by simp only [List.length_append, big_len, cnt_len, bytesOf_length]; omega), strOf_append,
    g3, Option.bind_some, cat_ok (by simp only [List.length_append, big_len, cnt_len, bytesOf_length]; omega), strOf_append]
  unfold eTail
  simp only [List.append_assoc]
theorem mid_str {c : S36} (h : OkCred c) (out : List Int) (ho : out.length ≤ 10000) {k : Nat} (hk : 20 < k) (a0 : ByteArray) (a1 : List ByteArray) (a2 : Int) (a3 : ByteArray) (a4 : List ByteArray) (a5 a6 : Int) :
    spec_CredBytes.j0 k (strOfNums out) a0 a1 a2 a3 a4 a5 a6 c.f3 c.f4 c.f5 c.f6 c.f7 c.f8 c.f9 c.f10 c.f11 c.f12 c.f13 = some (strOfNums (out ++ (cnt (bytesOf c.f3) 4 ++ (big c.f4 4 ++ (big c.f5 4 ++ (big c.f6 4 ++ (big c.f7 4 ++ eTail c))))))) := by
  obtain ⟨k, rfl⟩ : ∃ m, k = (m + 5) + 1 := ⟨k - 6, by omega⟩
  have n1 := h.key
  have g0 : spec_counted.f c.f3 4 = some (strOfNums (cnt (bytesOf c.f3) 4)) := cnt_str (k := 4) _ (by omega) (by omega)
  have hl : (([c.f4, c.f5, c.f6, c.f7] : List Int).length : Int) = 4 := rfl
  rw [spec_CredBytes.j0, g0, Option.bind_some, cat_ok (by rw [cnt_len, bytesOf_length]; omega), strOf_append, Option.bind_some, hl, times_str h.t1 h.t2 h.t3 h.t4 _ (by rw [List.length_append, cnt_len, bytesOf_length]; omega),
    tail_str h _ (by simp only [List.length_append, big_len, cnt_len, bytesOf_length]; omega) (by omega)]
  simp only [List.append_assoc]
theorem cred_str {c : S36} (h : OkCred c) (v : Nat) {k : Nat} (hk : 20 < k) : spec_CredBytes.f k c.f0.f0 c.f0.f1 c.f0.f2 c.f1.f0 c.f1.f1 c.f1.f2 c.f2 c.f3 c.f4 c.f5 c.f6 c.f7 c.f8 c.f9 c.f10 c.f11 c.f12 c.f13 (v : Int) = some (strOfNums (eCred v c)) := by
  have n1 := eName_le h.client
  have n2 := eName_le h.server
  have g0 : spec_big.f (c.f2 % 65536) 2 = some (strOfNums (big (c.f2 % 65536) 2)) := big_str (k := 2) (by omega) (by omega)
  unfold spec_CredBytes.f
  rw [name_str h.client (by omega), Option.bind_some, name_str h.server (by omega), Option.bind_some, cat_ok (by omega), strOf_append, u16_id, g0, Option.bind_some, cat_ok (by rw [List.length_append, big_len]; omega), strOf_append]
  unfold eCred eType
  by_cases hv : v = 3
  · subst hv
    rw [if_pos (show ((3 : Nat) : Int) = 3 from rfl), Option.bind_some, cat_ok (by simp only [List.length_append, big_len]; omega), strOf_append, mid_str h _ (by simp only [List.length_append, big_len]; omega) hk, if_pos rfl]
    unfold eTail
    simp only [List.append_assoc]
  · rw [if_neg (by omega), mid_str h _ (by simp only [List.length_append, big_len]; omega) hk, if_neg hv]
    unfold eTail
    simp only [List.append_assoc, List.nil_append]
theorem hd_str : ∀ (offs : List Int) (out : List Int), (∀ n ∈ offs, 0 ≤ n) → out.length + 12 * offs.length ≤ 100000 → spec_CacheBytes.hd (strOfNums out) offs = some (strOfNums (out ++ eOffs offs))
  | [], out, _, _ => by simp [spec_CacheBytes.hd, eOffs]
  | n :: offs, out, h, ho => by
    have g0 : spec_big.f n 8 = some (strOfNums (big n 8)) := big_str (k := 8) (h n (by simp)) (by omega)
    have g1 : spec_counted.f (strOfNums (big n 8)) 2 = some (strOfNums (cnt (big n 8) 2)) := by
      have := cnt_str (k := 2) (strOfNums (big n 8)) (by rw [str_size, big_len]; omega) (by omega)
      rwa [bytes_str (big_ok n 8)] at this
    rw [List.length_cons] at ho
    have e01 : (⟨#[0, 1]⟩ : ByteArray) = strOfNums [0, 1] := rfl
    unfold spec_CacheBytes.hd
    rw [g0, Option.bind_some, g1, Option.bind_some, if_pos (by rw [str_size, str_size, cnt_len, big_len]; omega), e01, strOf_append, strOf_append, hd_str offs _ (fun y hy => h y (by simp [hy])) (by simp only [List.length_append, cnt_len, big_len, List.length_cons, List.length_nil]; omega)]
    simp [eOffs]
theorem cr_str (v : Nat) {k : Nat} (hk : 20 < k) : ∀ (cs : List S36) (out : List Int), (∀ c ∈ cs, OkCred c) → out.length + 8000 * cs.length ≤ 1000000 → spec_CacheBytes.cr k (v : Int) (strOfNums out) cs = some (strOfNums (out ++ cs.flatMap (eCred v)))
  | [], out, _, _ => by simp [spec_CacheBytes.cr]
  | c :: cs, out, h, ho => by
    have hc := h c (by simp)
    have := eCred_le (v := v) hc
    rw [List.length_cons] at ho
    unfold spec_CacheBytes.cr
    rw [cred_str hc v hk, Option.bind_some, cat_ok (by omega), strOf_append, cr_str v hk cs _ (fun y hy => h y (by simp [hy])) (by rw [List.length_append]; omega)]
    simp
theorem eOffs_len : ∀ offs : List Int, (eOffs offs).length = 12 * offs.length
  | [] => rfl
  | n :: offs => by
    have := eOffs_len offs
    have e : eOffs (n :: offs) = 0 :: 1 :: (cnt (big n 8) 2 ++ eOffs offs) := by simp [eOffs]
    rw [e]
    simp only [List.length_cons, List.length_append, cnt_len, big_len]
    omega
/-- The bytes of a cache. -/
theorem cache_str {v : Nat} (hv : v = 3 ∨ v = 4) {offs : List Int} (hof : ∀ n ∈ offs, 0 ≤ n) (hol : offs.length ≤ 100) {cl : S24} (hcl : OkName cl) {cs : List S36} (hcs : ∀ c ∈ cs, OkCred c) (hcn : cs.length ≤ 12) {k : Nat} (hk : 20 < k) :
    spec_CacheBytes.f k (v : Int) offs cl.f0 cl.f1 cl.f2 cs = some (strOfNums (eCache v offs cl cs)) := by
  have n1 := eName_le hcl
  have n2 := eOffs_len offs
  have g0 : spec_big.f (IntKind.u64.wrap (v : Int)) 1 = some (strOfNums [(v : Int)]) := by
    have e : IntKind.u64.wrap (v : Int) = v := u64_id (by omega) (by omega)
    have := big_str (n := (v : Int)) (k := 1) (by omega) (by omega)
    rw [big1, show (v : Int) % 256 = v from by omega] at this
    rw [e]
    exact this
  have e5 : (⟨#[5]⟩ : ByteArray) = strOfNums [5] := rfl
  have e0 : (⟨#[]⟩ : ByteArray) = strOfNums [] := rfl
  have g1 : spec_CacheBytes.st (v : Int) offs (strOfNums [(v : Int)]) = some (strOfNums (eHead v offs)) := by
    unfold spec_CacheBytes.st eHead
    rcases hv with rfl | rfl
    · rw [if_neg (by decide), if_neg (by decide), e5, strOf_append]
      rfl
    · have g2 : spec_counted.f (strOfNums (eOffs offs)) 2 = some (strOfNums (cnt (eOffs offs) 2)) := by
        have ok : ∀ x ∈ eOffs offs, 0 ≤ x ∧ x < 256 := by
          intro x hx
          obtain ⟨n, hn, hx⟩ := List.mem_flatMap.1 hx
          rcases List.mem_cons.1 hx with rfl | hx
          · omega
          rcases List.mem_cons.1 hx with rfl | hx
          · omega
          rcases List.mem_append.1 hx with hx | hx
          · exact big_ok _ _ x hx
          · exact big_ok _ _ x hx
        have := cnt_str (k := 2) (strOfNums (eOffs offs)) (by rw [str_size]; omega) (by omega)
        rwa [bytes_str ok] at this
      rw [if_pos (by decide), if_pos rfl, e0, hd_str offs [] hof (by simp; omega), Option.bind_some, List.nil_append, g2, Option.bind_some, if_pos (by rw [str_size, str_size, cnt_len]; simp; omega), e5, strOf_append, strOf_append]
      rfl
  have n3 : (eHead v offs).length ≤ 1204 := by
    unfold eHead
    split
    · simp only [List.length_cons, cnt_len]; omega
    · simp
  unfold spec_CacheBytes.f
  rw [if_pos (by omega), g0, Option.bind_some, if_pos (by rw [str_size]; simp), g1, Option.bind_some, name_str hcl (by omega), Option.bind_some, cat_ok (by omega), strOf_append, cr_str v hk cs _ hcs (by rw [List.length_append]; omega)]
  unfold eCache
  rw [List.append_assoc]
/-! ### The sizes' tests end -/
def Ends (g : Nat → Option Bool) : Prop := ∃ b K, ∀ k, K ≤ k → g k = some b
theorem fits4l (xs : List ByteArray) (h : xs.length ≤ 2147483647) : ∀ (d j : Nat), xs.length - j = d → j ≤ xs.length → ∃ b, ∀ k, d < k → laws_zzFits4.l0 k xs (xs.length : Int) (j : Int) = some b := by
  intro d
  induction d with
  | zero =>
    intro j hd hj
    refine ⟨true, fun k hk => ?_⟩
    obtain ⟨k, rfl⟩ : ∃ m, k = m + 1 := ⟨k - 1, by omega⟩
    simp only [laws_zzFits4.l0]
    rw [if_neg (by omega)]
  | succ d ih =>
    intro j hd hj
    obtain ⟨b, hb⟩ := ih (j + 1) (by omega) (by omega)
    have hw : wrap64 ((j : Int) + 1) = ((j + 1 : Nat) : Int) := by unfold wrap64; omega
    by_cases hz : ((rdOf ByteArray.empty xs (j : Int)).size : Int) > 2147483647
    · refine ⟨false, fun k hk => ?_⟩
      obtain ⟨k, rfl⟩ : ∃ m, k = m + 1 := ⟨k - 1, by omega⟩
      simp only [laws_zzFits4.l0]
      rw [if_pos (by omega), if_pos (by omega), if_pos (by omega), if_pos hz]
    · refine ⟨b, fun k hk => ?_⟩
      obtain ⟨k, rfl⟩ : ∃ m, k = m + 1 := ⟨k - 1, by omega⟩
      simp only [laws_zzFits4.l0]
      rw [if_pos (by omega), if_pos (by omega), if_pos (by omega), if_neg hz, hw]
      exact hb k (by omega)
theorem fits4 (xs : List ByteArray) : Ends fun k => laws_zzFits4.f k xs := by
  by_cases h : (xs.length : Int) > 2147483647
  · exact ⟨false, 0, fun k _ => by show laws_zzFits4.f k xs = _; unfold laws_zzFits4.f; rw [if_pos h]⟩
  · obtain ⟨b, hb⟩ := fits4l xs (by omega) xs.length 0 (by omega) (by omega)
    exact ⟨b, xs.length + 1, fun k hk => by show laws_zzFits4.f k xs = _; unfold laws_zzFits4.f; rw [if_neg h]; exact hb k (by omega)⟩
theorem fits13 (a : ByteArray) (xs : List ByteArray) (n : Int) : Ends fun k => laws_zzFits13.f k a xs n := by
  obtain ⟨b, K, hb⟩ := fits4 xs
  by_cases h : (a.size : Int) > 2147483647
  · exact ⟨false, 0, fun k _ => by show laws_zzFits13.f k a xs n = _; unfold laws_zzFits13.f; rw [if_pos h]⟩
  · refine ⟨b, K, fun k hk => ?_⟩
    show laws_zzFits13.f k a xs n = _
    unfold laws_zzFits13.f
    have e := hb k hk
    dsimp only at e
    rw [if_neg h, e]
    cases b <;> rfl
theorem fits17 (n : Int) (s : ByteArray) : ∃ b, laws_zzFits17.f n s = some b := by
  unfold laws_zzFits17.f
  split <;> exact ⟨_, rfl⟩
theorem fits16l (xs : List S63) (h : xs.length ≤ 2147483647) : ∀ (d j : Nat), xs.length - j = d → j ≤ xs.length → ∃ b, ∀ k, d < k → laws_zzFits16.l0 k xs (xs.length : Int) (j : Int) = some b := by
  intro d
  induction d with
  | zero =>
    intro j hd hj
    refine ⟨true, fun k hk => ?_⟩
    obtain ⟨k, rfl⟩ : ∃ m, k = m + 1 := ⟨k - 1, by omega⟩
    simp only [laws_zzFits16.l0]
    rw [if_neg (by omega)]
  | succ d ih =>
    intro j hd hj
    obtain ⟨b, hb⟩ := ih (j + 1) (by omega) (by omega)
    have hw : wrap64 ((j : Int) + 1) = ((j + 1 : Nat) : Int) := by unfold wrap64; omega
    obtain ⟨q, hq⟩ := fits17 (rd_T63 xs (j : Int)).f0 (rd_T63 xs (j : Int)).f1
    cases q
    · refine ⟨false, fun k hk => ?_⟩
      obtain ⟨k, rfl⟩ : ∃ m, k = m + 1 := ⟨k - 1, by omega⟩
      simp only [laws_zzFits16.l0]
      rw [if_pos (by omega), if_pos (by omega), if_pos (by omega), hq]
      rfl
    · refine ⟨b, fun k hk => ?_⟩
      obtain ⟨k, rfl⟩ : ∃ m, k = m + 1 := ⟨k - 1, by omega⟩
      simp only [laws_zzFits16.l0]
      rw [if_pos (by omega), if_pos (by omega), if_pos (by omega), hq, Option.bind_some, if_pos rfl, hw]
      exact hb k (by omega)
theorem fits16 (xs : List S63) : Ends fun k => laws_zzFits16.f k xs := by
  by_cases h : (xs.length : Int) > 2147483647
  · exact ⟨false, 0, fun k _ => by show laws_zzFits16.f k xs = _; unfold laws_zzFits16.f; rw [if_pos h]⟩
  · obtain ⟨b, hb⟩ := fits16l xs (by omega) xs.length 0 (by omega) (by omega)
    exact ⟨b, xs.length + 1, fun k hk => by show laws_zzFits16.f k xs = _; unfold laws_zzFits16.f; rw [if_neg h]; exact hb k (by omega)⟩
theorem fits15 (c : S36) : Ends fun k => laws_zzFits15.f k c.f0.f0 c.f0.f1 c.f0.f2 c.f1.f0 c.f1.f1 c.f1.f2 c.f2 c.f3 c.f4 c.f5 c.f6 c.f7 c.f8 c.f9 c.f10 c.f11 c.f12 c.f13 := by
  obtain ⟨b1, K1, h1⟩ := fits13 c.f0.f0 c.f0.f1 c.f0.f2
  obtain ⟨b2, K2, h2⟩ := fits13 c.f1.f0 c.f1.f1 c.f1.f2
  obtain ⟨b3, K3, h3⟩ := fits16 c.f10
  obtain ⟨b4, K4, h4⟩ := fits16 c.f11
  have key : ∃ b, ∀ k, K1 + K2 + K3 + K4 ≤ k → laws_zzFits15.f k c.f0.f0 c.f0.f1 c.f0.f2 c.f1.f0 c.f1.f1 c.f1.f2 c.f2 c.f3 c.f4 c.f5 c.f6 c.f7 c.f8 c.f9 c.f10 c.f11 c.f12 c.f13 = some b := by
    refine ⟨if b1 = true then (if b2 = true then (if (c.f3.size : Int) > 2147483647 then false else (if b3 = true then (if b4 = true then (if (c.f12.size : Int) > 2147483647 then false else (if (c.f13.size : Int) > 2147483647 then false else true)) else false) else false)) else false) else false, fun k hk => ?_⟩
    unfold laws_zzFits15.f
    have e1 := h1 k (by omega)
    have e2 := h2 k (by omega)
    have e3 := h3 k (by omega)
    have e4 := h4 k (by omega)
    dsimp only at e1 e2 e3 e4
    rw [e1, e2, e3, e4]
    simp only [Option.bind_some]
    cases b1 <;> cases b2 <;> cases b3 <;> cases b4 <;> by_cases q1 : (c.f3.size : Int) > 2147483647 <;> by_cases q2 : (c.f12.size : Int) > 2147483647 <;> by_cases q3 : (c.f13.size : Int) > 2147483647 <;> simp only [q1, q2, q3, if_true, if_false, Bool.false_eq_true]
  obtain ⟨b, hb⟩ := key
  exact ⟨b, _, hb⟩
theorem fits14 (l : List S36) : Ends fun k => laws_zzFits14.f k l := by
  have key : ∀ l : List S36, Ends fun k => laws_zzFits14.all k l := by
    intro l
    induction l with
    | nil => exact ⟨true, 0, fun _ _ => rfl⟩
    | cons c l ih =>
      obtain ⟨b, K, hb⟩ := fits15 c
      obtain ⟨d, M, hd⟩ := ih
      cases b
      · refine ⟨false, K, fun k hk => ?_⟩
        have e := hb k hk
        dsimp only at e
        show laws_zzFits14.all k (c :: l) = _
        unfold laws_zzFits14.all
        rw [e]
        rfl
      · refine ⟨d, K + M, fun k hk => ?_⟩
        have e := hb k (by omega)
        dsimp only at e
        show laws_zzFits14.all k (c :: l) = _
        unfold laws_zzFits14.all
        rw [e, Option.bind_some, if_pos rfl]
        exact hd k (by omega)
  by_cases h : (l.length : Int) > 2147483647
  · exact ⟨false, 0, fun k _ => by show laws_zzFits14.f k l = _; unfold laws_zzFits14.f; rw [if_pos h]⟩
  · obtain ⟨b, K, hb⟩ := key l
    exact ⟨b, K, fun k hk => by show laws_zzFits14.f k l = _; unfold laws_zzFits14.f; rw [if_neg h]; exact hb k hk⟩
/-! ### The reader -/
def Bytes (l : List Int) : Prop := ∀ x ∈ l, 0 ≤ x ∧ x < 256
theorem Bytes.app {a b : List Int} (h : Bytes a) (k : Bytes b) : Bytes (a ++ b) := fun x hx => (List.mem_append.1 hx).elim (h x) (k x)
theorem Bytes.take {a : List Int} (h : Bytes a) (n : Nat) : Bytes (a.take n) := fun x hx => h x (List.mem_of_mem_take hx)
theorem Bytes.flat {α : Type} {l : List α} {f : α → List Int} (h : ∀ a ∈ l, Bytes (f a)) : Bytes (l.flatMap f) := fun x hx => by
  obtain ⟨a, ha, hx⟩ := List.mem_flatMap.1 hx
  exact h a ha x hx
theorem bytes_of (s : ByteArray) : Bytes (bytesOf s) := fun x hx => by
  unfold bytesOf at hx
  obtain ⟨b, _, rfl⟩ := List.mem_map.1 hx
  have := b.toNat_lt
  omega
theorem bytes_cnt {l : List Int} (k : Nat) (h : Bytes l) : Bytes (cnt l k) := Bytes.app (big_ok _ _) h
theorem bytes_name (x : S24) : Bytes (eName x) := (Bytes.app (big_ok _ _) (Bytes.app (big_ok _ _) (Bytes.app (bytes_cnt 4 (bytes_of _)) (Bytes.flat fun s _ => bytes_cnt 4 (bytes_of s)))))
theorem bytes_parts (l : List S63) : Bytes (eParts l) := Bytes.app (big_ok _ _) (Bytes.flat fun s _ => Bytes.app (big_ok _ _) (bytes_cnt 4 (bytes_of _)))
theorem bytes_type (v : Nat) (n : Int) : Bytes (eType v n) := Bytes.app (big_ok _ _) (by
  split
  · exact big_ok _ _
  · intro x hx; cases hx)
theorem bytes_cred (v : Nat) (c : S36) : Bytes (eCred v c) :=
  Bytes.app (bytes_name _) (Bytes.app (bytes_name _) (Bytes.app (bytes_type _ _) (Bytes.app (bytes_cnt 4 (bytes_of _)) (Bytes.app (big_ok _ _) (Bytes.app (big_ok _ _) (Bytes.app (big_ok _ _) (Bytes.app (big_ok _ _) (Bytes.app (big_ok _ _) (Bytes.app (big_ok _ _) (Bytes.app (bytes_parts _) (Bytes.app (bytes_parts _) (Bytes.app (bytes_cnt 4 (bytes_of _)) (bytes_cnt 4 (bytes_of _))))))))))))))
theorem bytes_offs (l : List Int) : Bytes (eOffs l) := Bytes.flat fun n _ => fun x hx => by
  rcases List.mem_cons.1 hx with rfl | hx
  · omega
  rcases List.mem_cons.1 hx with rfl | hx
  · omega
  exact bytes_cnt 2 (big_ok _ _) x hx
theorem bytes_head {v : Nat} (hv : v = 3 ∨ v = 4) (offs : List Int) : Bytes (eHead v offs) := fun x hx => by
  rcases List.mem_cons.1 hx with rfl | hx
  · omega
  rcases List.mem_cons.1 hx with rfl | hx
  · omega
  split at hx
  · exact bytes_cnt 2 (bytes_offs _) x hx
  · cases hx
theorem bytes_cache {v : Nat} (hv : v = 3 ∨ v = 4) (offs : List Int) (cl : S24) (l : List S36) : Bytes (eCache v offs cl l) := Bytes.app (bytes_head hv offs) (Bytes.app (bytes_name _) (Bytes.flat fun c _ => bytes_cred v c))
theorem take_str (l : List Int) (n : Nat) : (strOfNums l).extract 0 n = strOfNums (l.take n) := by
  apply ByteArray.ext
  apply Array.ext'
  rw [ByteArray.data_extract, Array.toList_extract]
  simp [strOfNums, List.extract]
theorem read_none {l : List Int} (h : Bytes l) (hl : l.length ≤ 4294967296) (h5 : l ≠ [5]) {v q : Nat} (hh : readHead l = some (v, q)) (hr : rCache v l q = none) : impl_CacheRead.f (strOfNums l) = some (0, ⟨#[]⟩, [], 0, [], false) := by
  unfold impl_CacheRead.f
  rw [if_pos (by rw [str_size]; exact hl), bytes_str h, if_neg h5, hh, Option.bind_some]
  simp only [hr]
theorem read_some {l : List Int} (h : Bytes l) (hl : l.length ≤ 4294967296) (h5 : l ≠ [5]) {v q : Nat} (hh : readHead l = some (v, q)) {a : Prin} {r : List PCred} (hr : rCache v l q = some (a, r)) : impl_CacheRead.f (strOfNums l) = some ((v : Int), a.realm, a.names, a.kind, r.map B.toCred, true) := by
  unfold impl_CacheRead.f
  rw [if_pos (by rw [str_size]; exact hl), bytes_str h, if_neg h5, hh, Option.bind_some]
  simp only [hr]
theorem creds_le (v : Nat) : ∀ cs : List S36, (∀ c ∈ cs, OkCred c) → (cs.flatMap (eCred v)).length ≤ 8000 * cs.length
  | [], _ => by simp
  | c :: cs, h => by
    have h1 := creds_le v cs (fun y hy => h y (by simp [hy]))
    have h2 := eCred_le (v := v) (h c (by simp))
    rw [List.flatMap_cons, List.length_append, List.length_cons]
    omega
theorem head_le (v : Nat) {offs : List Int} (ho : offs.length ≤ 100) : (eHead v offs).length ≤ 1204 := by
  have := eOffs_len offs
  unfold eHead
  split
  · simp only [List.length_cons, cnt_len]; omega
  · simp
theorem cache_le {v : Nat} {offs : List Int} (ho : offs.length ≤ 100) {cl : S24} (hcl : OkName cl) {cs : List S36} (hcs : ∀ c ∈ cs, OkCred c) (hn : cs.length ≤ 12) : (eCache v offs cl cs).length ≤ 1000000 := by
  have h1 := creds_le v cs hcs
  have h2 := eName_le hcl
  have h3 := head_le v ho
  unfold eCache
  rw [List.length_append, List.length_append]
  omega
/-- A cache that is cut within its last credential. -/
theorem cut_read {v : Nat} (hv : v = 3 ∨ v = 4) {cl : S24} (hcl : OkName cl) {cs : List S36} {c : S36} (hcs : ∀ c ∈ cs, OkCred c) (hc : OkCred c) (hn : (cs ++ [c]).length ≤ 12) {n : Nat}
    (h1 : (eCache v [] cl (cs ++ [c])).length < n + (eCred v c).length) (h2 : n < (eCache v [] cl (cs ++ [c])).length) :
    impl_CacheRead.f ((strOfNums (eCache v [] cl (cs ++ [c]))).extract 0 n) = some (0, ⟨#[]⟩, [], 0, [], false) := by
  have hall : ∀ d ∈ cs ++ [c], OkCred d := fun d hd => (List.mem_append.1 hd).elim (hcs d) (fun h => by rcases List.mem_singleton.1 h with rfl; exact hc)
  have hle := cache_le (v := v) (offs := []) (by simp) hcl hall hn
  have hat := head_at v [] (eName cl ++ (cs ++ [c]).flatMap (eCred v))
  have e : eHead v [] ++ (eName cl ++ (cs ++ [c]).flatMap (eCred v)) = eCache v [] cl (cs ++ [c]) := rfl
  have hz : (eCache v [] cl (cs ++ [c])).length = (eHead v []).length + ((eName cl).length + ((cs.flatMap (eCred v)).length + (eCred v c).length)) := by
    unfold eCache
    simp
  have hnm : 8 ≤ (eName cl).length := by
    unfold eName
    simp only [List.length_append, big_len]
    omega
  have hh : ∃ q, q = (eHead v []).length ∧ readHead ((eCache v [] cl (cs ++ [c])).take n) = some (v, q) := by
    rw [← e]
    rcases hv with rfl | rfl
    · exact ⟨2, rfl, cutHead3 [] _ n (by omega)⟩
    · exact ⟨4, by simp [eHead, eOffs, cnt, big2], cutHead4 _ n (by omega)⟩
  obtain ⟨q, rfl, hh⟩ := hh
  rw [e] at hat
  rw [take_str]
  refine read_none ((bytes_cache hv [] cl _).take n) (by rw [List.length_take]; omega) ?_ hh (rCache_cut hat hcl hcs hc h1 h2)
  intro h5
  have := congrArg List.length h5
  rw [List.length_take] at this
  simp at this
  omega
theorem awake : ∃ s, spec_CacheBytes.f 30 4 [0] ⟨#[82]⟩ [⟨#[97]⟩] 1 [] = some s ∧ impl_CacheRead.f s = some (4, ⟨#[82]⟩, [⟨#[97]⟩], 1, [], true) ∧ impl_CacheRead.f ⟨#[5]⟩ = some (0, ⟨#[]⟩, [], 0, [], false) := by
  have hcl : OkName ⟨⟨#[82]⟩, [⟨#[97]⟩], 1⟩ := ⟨by decide, by decide, by decide, by decide, by decide⟩
  have e1 : spec_CacheBytes.f 30 4 [0] ⟨#[82]⟩ [⟨#[97]⟩] 1 [] = some (strOfNums (eCache 4 [0] ⟨⟨#[82]⟩, [⟨#[97]⟩], 1⟩ [])) :=
    cache_str (v := 4) (Or.inr rfl) (offs := [0]) (by simp) (by simp) hcl (cs := []) (by simp) (by simp) (by omega)
  have hhead : eHead 4 [0] = [5, 4, 0, 12, 0, 1, 0, 8, 0, 0, 0, 0, 0, 0, 0, 0] := by decide +kernel
  have hlist : eCache 4 [0] ⟨⟨#[82]⟩, [⟨#[97]⟩], 1⟩ [] = [5, 4, 0, 12, 0, 1, 0, 8, 0, 0, 0, 0, 0, 0, 0, 0, 0, 0, 0, 1, 0, 0, 0, 1, 0, 0, 0, 1, 82, 0, 0, 0, 1, 97] := by decide +kernel
  have hh : readHead (eCache 4 [0] ⟨⟨#[82]⟩, [⟨#[97]⟩], 1⟩ []) = some (4, 16) := by
    rw [hlist]
    decide +kernel
  have hat : At (eCache 4 [0] ⟨⟨#[82]⟩, [⟨#[97]⟩], 1⟩ []) 16 (eName ⟨⟨#[82]⟩, [⟨#[97]⟩], 1⟩ ++ ([] : List S36).flatMap (eCred 4)) := by
    have := head_at 4 [0] (eName ⟨⟨#[82]⟩, [⟨#[97]⟩], 1⟩ ++ ([] : List S36).flatMap (eCred 4))
    rw [show (eHead 4 [0]).length = 16 from by rw [hhead]; rfl] at this
    exact this
  have hr := rCache_at hat hcl (by simp)
  have e2 := read_some (bytes_cache (Or.inr rfl) [0] ⟨⟨#[82]⟩, [⟨#[97]⟩], 1⟩ []) (by rw [hlist]; decide) (by rw [hlist]; decide) hh hr
  have e3 : impl_CacheRead.f ⟨#[5]⟩ = some (0, ⟨#[]⟩, [], 0, [], false) := by
    unfold impl_CacheRead.f
    rw [if_pos (by decide), if_pos (by decide)]
  exact ⟨_, e1, e2, e3⟩
/-! ### What may be asked -/
theorem name_ok {x : S24} (h : spec_CredsRight.name x = true) (hk : (Lit.int .i32 x.f2).wf = true) : OkName x := by
  unfold spec_CredsRight.name at h
  simp only [Bool.and_eq_true, decide_eq_true_eq, List.all_eq_true] at h
  have h2 : -2147483648 ≤ x.f2 ∧ x.f2 < 2147483648 := by
    simp [Lit.wf, IntKind.min, IntKind.max, IntKind.bits, IntKind.signed] at hk
    omega
  exact ⟨h.1, h.2.1, h.2.2, h2.1, h2.2⟩
theorem kind_ok {n : Int} (h : spec_CredsRight.kind n = true) : -32768 ≤ n ∧ n < 32768 := by
  unfold spec_CredsRight.kind at h
  simpa using h
theorem part_ok {p : S63} (h : spec_CredsRight.part p = true) : OkPart p := by
  unfold spec_CredsRight.part at h
  rw [Bool.and_eq_true] at h
  exact ⟨(kind_ok h.1).1, (kind_ok h.1).2, by simpa using h.2⟩
theorem time_ok {n : Int} (h : spec_CredsRight.time n = true) : OkTime n := by
  unfold spec_CredsRight.time at h
  unfold OkTime
  simpa using h
theorem cred_ok {c : S36} (h : spec_CredsRight.cred c = true) (h0 : (Lit.int .i32 c.f0.f2).wf = true) (h1 : (Lit.int .i32 c.f1.f2).wf = true) (h9 : (Lit.int .u32 c.f9).wf = true) : OkCred c := by
  unfold spec_CredsRight.cred spec_CredsRight.pre at h
  simp only [Bool.and_eq_true, decide_eq_true_eq, List.all_eq_true, List.mem_append, List.mem_cons, List.not_mem_nil, or_false] at h
  obtain ⟨⟨k0, k1, k2, k3, k12, k13, k10, k11⟩, kt, kp⟩ := h
  have h2 : 0 ≤ c.f9 ∧ c.f9 < 4294967296 := by
    simp [Lit.wf, IntKind.min, IntKind.max, IntKind.bits, IntKind.signed] at h9
    omega
  exact ⟨name_ok k0 h0, name_ok k1 h1, kind_ok k2, k3, time_ok (kt _ (by simp)), time_ok (kt _ (by simp)), time_ok (kt _ (by simp)), time_ok (kt _ (by simp)), h2, k10, k11, fun p hp => part_ok (kp p (Or.inl hp)), fun p hp => part_ok (kp p (Or.inr hp)), k12, k13⟩
end Go.Proofs.Ytnipcocllhfaoaa.P

/- How the package and the reference write and read a length: the same bytes, and back (plain numbers and lists). -/
import Derived.Test.YthgcpicflmigjaaQ3
import Derived.Test.YthgcpicflmigjaaQ7
namespace Go.Proofs.Ythgcpicflmigjaa.Pure
open Go.RowKit Go.Proofs.Ythgcpicflmigjaa.Q Go.Proofs.YthgcpicflmigjaaW.PrintWords Go.Proofs.YthgcpicflmigjaaW.PrintLast

theorem strOf_append (a b : List Int) : strOfNums (a ++ b) = strOfNums a ++ strOfNums b := by
  apply ByteArray.ext
  simp [strOfNums]
theorem bytesOf_strOf {l : List Int} (h : ∀ x ∈ l, 0 ≤ x ∧ x ≤ 255) : YthgcpicflmigjaaW.PrintWords.bytesOf (strOfNums l) = l := by
  unfold YthgcpicflmigjaaW.PrintWords.bytesOf
  rw [strOfNums_data, List.map_map]
  conv => rhs; rw [← List.map_id l]
  refine List.map_congr_left fun x hx => ?_
  have := h x hx
  simp only [Function.comp, id]
  rw [UInt8.toNat_ofNat_of_lt' (by have : UInt8.size = 256 := rfl; omega)]
  omega
theorem bytesOf_append (a b : ByteArray) : YthgcpicflmigjaaW.PrintWords.bytesOf (a ++ b) = YthgcpicflmigjaaW.PrintWords.bytesOf a ++ YthgcpicflmigjaaW.PrintWords.bytesOf b := by
  unfold YthgcpicflmigjaaW.PrintWords.bytesOf
  simp
theorem bytesOf_in (s : ByteArray) : ∀ x ∈ YthgcpicflmigjaaW.PrintWords.bytesOf s, 0 ≤ x ∧ x ≤ 255 := by
  intro x hx
  unfold YthgcpicflmigjaaW.PrintWords.bytesOf at hx
  obtain ⟨b, _, rfl⟩ := List.mem_map.1 hx
  have := b.toNat_lt
  omega

/-- The bytes of a number, the highest one first, ahead of what there is. -/
def dg : Nat → Int → List Int → List Int
  | 0, _, acc => acc
  | j + 1, m, acc => if m > 0 then dg j (m / 256) (m % 256 :: acc) else acc
theorem dg_zero (j : Nat) (acc : List Int) : dg j 0 acc = acc := by cases j <;> simp [dg]
theorem dg_len : ∀ (j : Nat) (m : Int) (acc : List Int), acc.length ≤ (dg j m acc).length ∧ (dg j m acc).length ≤ acc.length + j
  | 0, _, acc => by simp [dg]
  | j + 1, m, acc => by
    have h := dg_len j (m / 256) (m % 256 :: acc)
    simp only [dg]
    split
    · simp only [List.length_cons] at h; omega
    · omega
theorem dg_in : ∀ (j : Nat) (m : Int) (acc : List Int), (∀ x ∈ acc, 0 ≤ x ∧ x ≤ 255) → ∀ x ∈ dg j m acc, 0 ≤ x ∧ x ≤ 255
  | 0, _, acc, h => by simpa [dg] using h
  | j + 1, m, acc, h => by
    simp only [dg]
    split
    · refine dg_in j _ _ ?_
      intro x hx
      rcases List.mem_cons.1 hx with rfl | hx
      · omega
      · exact h x hx
    · exact h
theorem or128 : ∀ n : Nat, n ≤ 10 → (Go.bits .or .i64 128 (n : Int)) % 256 = 128 + n := by
  intro n hn
  have : n = 0 ∨ n = 1 ∨ n = 2 ∨ n = 3 ∨ n = 4 ∨ n = 5 ∨ n = 6 ∨ n = 7 ∨ n = 8 ∨ n = 9 ∨ n = 10 := by omega
  rcases this with rfl | rfl | rfl | rfl | rfl | rfl | rfl | rfl | rfl | rfl | rfl <;> decide
theorem der_l0 : ∀ (j : Nat) (m : Int) (acc : List Int) (k : Nat), 0 ≤ m → m < 256 ^ j → acc.length + j ≤ 10 → j < k →
    spec_DERLength.l0 k m acc = some (strOfNums [128 + ((dg j m acc).length : Int)] ++ strOfNums (dg j m acc)) := by
  have fin : ∀ (acc : List Int) (k : Nat), acc.length ≤ 10 → spec_DERLength.l0 (k + 1) 0 acc = some (strOfNums [128 + (acc.length : Int)] ++ strOfNums acc) := by
    intro acc k h
    simp only [spec_DERLength.l0, gt_iff_lt, Int.lt_irrefl, if_false, Option.bind_some]
    rw [or128 _ h, if_pos (by rw [strOfNums_size, strOfNums_size]; simp; omega)]
  intro j
  induction j with
  | zero =>
    intro m acc k h0 h1 h2 h3
    obtain ⟨k, rfl⟩ : ∃ q, k = q + 1 := ⟨k - 1, by omega⟩
    obtain rfl : m = 0 := by simp at h1; omega
    simpa [dg] using fin acc k (by omega)
  | succ j ih =>
    intro m acc k h0 h1 h2 h3
    obtain ⟨k, rfl⟩ : ∃ q, k = q + 1 := ⟨k - 1, by omega⟩
    by_cases hm : m > 0
    · have h4 : m / 256 < 256 ^ j := by rw [Int.pow_succ] at h1; omega
      have h5 := ih (m / 256) (m % 256 :: acc) k (by omega) h4 (by simp only [List.length_cons]; omega) (by omega)
      simp only [spec_DERLength.l0, dg]
      rw [if_pos hm, if_pos hm]
      simp only [Option.bind_some]
      rw [if_pos (by simp; omega)]
      exact h5
    · obtain rfl : m = 0 := by omega
      rw [dg_zero]
      exact fin acc k (by omega)
theorem cnt128 (n : Int) (h0 : 0 ≤ n) (h : n ≤ 20) : wrap64 (128 + n) % 256 = 128 + n := by
  unfold wrap64
  rw [Int.emod_eq_of_lt (by omega) (by omega)]
  omega
set_option maxHeartbeats 1000000 in
/-- One round of MarshalLengthBytes: p is the power of 256 that has been reached. -/
theorem mar_l0 : ∀ (j : Nat) (p m : Int) (acc : List Int) (k : Nat), 0 < p → 0 < m → m < 256 ^ j → p * 256 ^ j ≤ 4294967296 → acc.length + j ≤ 10 → j ≤ k →
    asn1tools_MarshalLengthBytes.l0 k (p * m) acc p 1 = some ((128 + ((dg j m acc).length : Int)) :: dg j m acc) := by
  intro j
  induction j with
  | zero => intro p m acc k hp hm h1; simp at h1; omega
  | succ j ih =>
    intro p m acc k hp hm h1 h2 h3 h4
    obtain ⟨k, rfl⟩ : ∃ q, k = q + 1 := ⟨k - 1, by omega⟩
    have hpw := pow256_pos j
    rw [Int.pow_succ] at h1 h2
    have h5 : p * 256 ≤ 4294967296 := by
      have : p * 256 * 1 ≤ p * 256 * 256 ^ j := Int.mul_le_mul_of_nonneg_left (by omega) (by omega)
      rw [Int.mul_comm (256 ^ j) 256, ← Int.mul_assoc] at h2
      omega
    have h6 : p * m < 4294967296 := by
      have : p * m < p * (256 ^ j * 256) := Int.mul_lt_mul_of_pos_left h1 hp
      omega
    have h7 : 0 < p * m := Int.mul_pos hp hm
    have w1 : wrap64 (p * 256) = p * 256 := by unfold wrap64; omega
    have t1 : Int.tmod (p * m) (p * 256) = p * (m % 256) := by
      rw [Int.tmod_eq_emod_of_nonneg (by omega), Int.mul_emod_mul_of_pos _ _ hp]
    have t2 : Int.tdiv (p * (m % 256)) p = m % 256 := by
      rw [Int.mul_comm, Int.mul_tdiv_cancel _ (by omega)]
    have t3 : p * m - p * (m % 256) = p * 256 * (m / 256) := by
      have := Int.emod_add_mul_ediv m 256
      rw [Int.mul_assoc, ← Int.mul_sub]
      congr 1; omega
    have w2 : wrap64 (m % 256) % 256 = m % 256 := by unfold wrap64; omega
    have h8 : p * 256 * (m / 256) ≤ p * m := by
      rw [← t3]
      have : 0 ≤ p * (m % 256) := Int.mul_nonneg (by omega) (by omega)
      omega
    have h9 : 0 ≤ p * 256 * (m / 256) := Int.mul_nonneg (by omega) (by omega)
    have w3 : wrap64 (p * 256 * (m / 256)) = p * 256 * (m / 256) := by unfold wrap64; omega
    simp only [asn1tools_MarshalLengthBytes.l0, w1, t1, t2, t3, w2, w3]
    rw [if_pos (by decide), if_neg (by omega), if_neg (by omega)]
    simp only [Option.bind_some]
    rw [if_pos (by simp; omega)]
    by_cases hm2 : m / 256 = 0
    · have hd : dg (j + 1) m acc = m % 256 :: acc := by
        simp only [dg]
        rw [if_pos hm, hm2, dg_zero]
      have w4 : wrap64 (128 + ((m % 256 :: acc).length : Int)) % 256 = 128 + ((m % 256 :: acc).length : Int) := by
        refine cnt128 _ (by omega) ?_
        simp only [List.length_cons]; omega
      rw [hm2, Int.mul_zero, if_pos (by omega), hd]
      simp only [List.cons_append, List.nil_append]
      rw [w4, if_pos (by simp; omega)]
    · have h10 : 0 < m / 256 := by omega
      have h11 : 0 < p * 256 * (m / 256) := Int.mul_pos (by omega) h10
      have h12 := ih (p * 256) (m / 256) (m % 256 :: acc) k (by omega) h10 (by omega) (by rw [Int.mul_assoc, Int.mul_comm 256]; exact h2) (by simp only [List.length_cons]; omega) (by omega)
      rw [if_neg (by omega)]
      simp only [List.cons_append, List.nil_append]
      rw [h12]
      simp only [dg]
      rw [if_pos hm]
/-- The bytes of a length: one below 128, else their number and they. -/
def lenBytes (n : Int) : List Int := if n < 128 then [n] else (128 + ((dg 4 n []).length : Int)) :: dg 4 n []
theorem lengthBytes_is {n : Int} (h0 : 0 ≤ n) (h : n < 2147483648) (k : Nat) (hk : 5 ≤ k) : asn1tools_MarshalLengthBytes.f k n = some (lenBytes n) := by
  unfold asn1tools_MarshalLengthBytes.f lenBytes
  by_cases h1 : n ≤ 127
  · rw [if_pos h1, if_pos (by omega), show n % 256 = n from by omega]
  · rw [if_neg h1, if_neg (by omega)]
    have := mar_l0 4 1 n [] k (by omega) (by omega) (by omega) (by omega) (by simp) (by omega)
    rwa [Int.one_mul] at this
theorem derLength_is {n : Int} (h0 : 0 ≤ n) (h : n < 2147483648) (k : Nat) (hk : 5 ≤ k) : spec_DERLength.f k n = some (strOfNums (lenBytes n)) := by
  unfold spec_DERLength.f lenBytes
  by_cases h1 : n < 128
  · rw [if_pos h1, if_pos h1, show n % 256 = n from by omega]
  · rw [if_neg h1, if_neg h1]
    rw [der_l0 4 n [] k h0 (by omega) (by simp) (by omega), ← strOf_append]
    rfl
theorem lenBytes_in {n : Int} (h0 : 0 ≤ n) : ∀ x ∈ lenBytes n, 0 ≤ x ∧ x ≤ 255 := by
  intro x hx
  unfold lenBytes at hx
  split at hx
  · obtain rfl := List.mem_singleton.1 hx; omega
  · have h := dg_len 4 n []
    simp only [List.length_nil] at h
    rcases List.mem_cons.1 hx with rfl | hx
    · omega
    · exact dg_in 4 n [] (by simp) x hx
theorem beVal_append_one (l : List Int) (x : Int) (acc : List Int) : beVal (l ++ x :: acc) = beVal l * 256 ^ (acc.length + 1) + beVal (x :: acc) := by
  induction l with
  | nil => simp [beVal]
  | cons y l ih =>
    simp only [List.cons_append, beVal, ih, List.length_append, List.length_cons]
    rw [Int.add_mul, Int.mul_assoc, ← Int.pow_add, Int.add_assoc]
theorem beVal_dg : ∀ (j : Nat) (m : Int) (acc : List Int), 0 ≤ m → m < 256 ^ j → beVal (dg j m acc) = m * 256 ^ acc.length + beVal acc
  | 0, m, acc, h0, h1 => by
    obtain rfl : m = 0 := by simp at h1; omega
    simp [dg]
  | j + 1, m, acc, h0, h1 => by
    simp only [dg]
    split
    · have h4 : m / 256 < 256 ^ j := by rw [Int.pow_succ] at h1; omega
      rw [beVal_dg j (m / 256) (m % 256 :: acc) (by omega) h4]
      simp only [beVal, List.length_cons]
      rw [Int.pow_succ, ← Int.add_assoc]
      congr 1
      rw [Int.mul_comm (256 ^ acc.length) 256, ← Int.mul_assoc, ← Int.add_mul]
      congr 1; omega
    · obtain rfl : m = 0 := by omega
      simp
end Go.Proofs.Ythgcpicflmigjaa.Pure

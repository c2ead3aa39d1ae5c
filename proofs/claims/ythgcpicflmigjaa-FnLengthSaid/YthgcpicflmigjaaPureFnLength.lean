/- A length from 0 to 2^31 - 1 is written by the package as by the reference, and read behind a tag of one byte, whatever follows (up to 100 bytes), with the number of its bytes: for every input of the law. -/
import Derived.Test.YthgcpicflmigjaaLen
import Derived.Test.YthgcpicflmigjaaQ10
namespace Go.Proofs.Ythgcpicflmigjaa.Pure
open Go.RowKit Go.Proofs.Ythgcpicflmigjaa.Q Go.Proofs.YthgcpicflmigjaaW.PrintWords Go.Proofs.YthgcpicflmigjaaW.PrintLast

theorem lengthBytes_300 (k : Nat) (hk : 5 ≤ k) : impl_LengthBytes.f k 300 = some (strOfNums (lenBytes 300)) := by
  unfold impl_LengthBytes.f
  rw [lengthBytes_is (by omega) (by omega) k hk]
  rfl
theorem awake (k : Nat) (hk : 5 ≤ k) : laws_lengthAwake.f k = some true := by
  have h1 : impl_LengthOf.f (⟨#[48, 130, 1, 44]⟩ : ByteArray) = some (300, false) := by decide +kernel
  have h2 : (strOfNums (lenBytes 300)).toList = ([130, 1, 44] : List UInt8) := by decide +kernel
  unfold laws_lengthAwake.f
  rw [h1, lengthBytes_300 k hk]
  simp only [Option.bind_some]
  rw [if_pos h2]
  rfl
theorem rd_one (x y : Int) (l : List Int) : rd (x :: y :: l) 1 = y := rfl
theorem getLength_is {n t : Int} (h0 : 0 ≤ n) (h : n < 2147483648) (ht : 0 ≤ t ∧ t ≤ 255) (l : List Int) (hl : ∀ x ∈ l, 0 ≤ x ∧ x ≤ 255) :
    asn1tools_GetLengthFromASN.f (t :: (lenBytes n ++ l)) = some n := by
  have hb : bytesIn (t :: (lenBytes n ++ l)) = true := bytesIn_of (by
    intro x hx
    rcases List.mem_cons.1 hx with rfl | hx
    · exact ht
    · rcases List.mem_append.1 hx with hx | hx
      · exact lenBytes_in h0 x hx
      · exact hl x hx)
  unfold asn1tools_GetLengthFromASN.f
  rw [if_pos hb]
  unfold lenBytes
  by_cases h1 : n < 128
  · rw [if_pos h1]
    simp only [List.cons_append, List.nil_append]
    rw [if_pos (by simp), rd_one, if_pos (by omega)]
  · rw [if_neg h1]
    have hd := dg_len 4 n []
    simp only [List.length_nil] at hd
    have hv := beVal_dg 4 n [] h0 (by omega)
    generalize dg 4 n [] = d at *
    have hd0 : 0 < d.length := by
      rcases Nat.eq_zero_or_pos d.length with h | h
      · obtain rfl := List.eq_nil_of_length_eq_zero h
        simp [beVal] at hv
        omega
      · exact h
    simp only [List.cons_append]
    rw [if_pos (by simp), rd_one, if_neg (by omega), if_pos (by simp only [List.length_cons, List.length_append]; omega)]
    rw [show ((128 + (d.length : Int)) - 126).toNat = d.length + 2 from by omega]
    simp only [List.take_succ_cons, List.drop_succ_cons, List.drop_zero, List.take_left']
    rw [hv]
    simp [beVal]
theorem dg_pos {n : Int} (h0 : 0 ≤ n) (h : n < 2147483648) (h1 : ¬ n < 128) : 0 < (dg 4 n []).length := by
  have hv := beVal_dg 4 n [] h0 (by omega)
  rcases Nat.eq_zero_or_pos (dg 4 n []).length with h | h
  · rw [List.eq_nil_of_length_eq_zero h] at hv
    simp [beVal] at hv
    omega
  · exact h
theorem cnt_wraps (d : Int) (h0 : 0 < d) (h : d ≤ 4) : wrap64 (128 + d) = 128 + d ∧ wrap64 (wrap64 (1 + (128 + d)) - 128) = d + 1 := by
  unfold wrap64; omega
theorem getCount_is {n t : Int} (h0 : 0 ≤ n) (h : n < 2147483648) (l : List Int) :
    asn1tools_GetNumberBytesInLengthHeader.f (t :: (lenBytes n ++ l)) = some ((lenBytes n).length : Int) := by
  unfold asn1tools_GetNumberBytesInLengthHeader.f lenBytes
  by_cases h1 : n < 128
  · rw [if_pos h1]
    simp only [List.cons_append, List.nil_append]
    have w : wrap64 n = n := by unfold wrap64; omega
    rw [if_pos (by simp only [List.length_cons]; omega), rd_one, w, if_pos (by omega)]
    rfl
  · rw [if_neg h1]
    have hd := dg_len 4 n []
    simp only [List.length_nil] at hd
    have hp := dg_pos h0 h h1
    generalize dg 4 n [] = d at *
    simp only [List.cons_append]
    obtain ⟨w1, w2⟩ := cnt_wraps (d.length : Int) (by omega) (by omega)
    rw [if_pos (by simp only [List.length_cons]; omega), rd_one, w1, if_neg (by omega), w2]
    rfl
theorem FnLength : laws_FnLength.Pure := by
  intro n t s hn ht hs
  have hn' : 0 ≤ n ∧ n ≤ 4294967295 := by simpa [Lit.wf, IntKind.min, IntKind.max, IntKind.signed, IntKind.bits] using hn
  have ht' : 0 ≤ t ∧ t ≤ 255 := by simpa [Lit.wf, IntKind.min, IntKind.max, IntKind.signed, IntKind.bits] using ht
  refine ⟨6, ?_⟩
  have hA : laws_FnLength.j0 6 n t s true = some true := by
    simp only [laws_FnLength.j0]
    rw [if_pos trivial, awake 5 (by omega)]
    rfl
  unfold laws_FnLength.f
  by_cases h1 : (s.size : Int) > 2147483647
  · rw [if_pos h1]
  rw [if_neg h1]
  by_cases h2 : n ≥ 2147483648
  · rw [if_pos h2]; exact hA
  rw [if_neg h2]
  by_cases h3 : (s.size : Int) > 100
  · rw [if_pos h3]; exact hA
  rw [if_neg h3]
  by_cases h4 : ((Go.bits .and .u8 t 31) == 31) = true
  · rw [h4]; exact hA
  rw [Bool.not_eq_true] at h4
  rw [h4]
  have w : wrap64 n = n := by unfold wrap64; omega
  have hlt : n < 2147483648 := by omega
  have hlb := lenBytes_in hn'.1
  have hlen : (lenBytes n).length ≤ 5 := by
    unfold lenBytes
    split
    · simp
    · have := dg_len 4 n []; simp only [List.length_nil] at this; simp only [List.length_cons]; omega
  have hbytes : YthgcpicflmigjaaW.PrintWords.bytesOf ((strOfNums [t] ++ strOfNums (lenBytes n)) ++ s) = t :: (lenBytes n ++ YthgcpicflmigjaaW.PrintWords.bytesOf s) := by
    rw [bytesOf_append, bytesOf_append, bytesOf_strOf hlb, bytesOf_strOf (by intro x hx; obtain rfl := List.mem_singleton.1 hx; exact ht')]
    simp
  have hsz : ((strOfNums [t] ++ strOfNums (lenBytes n)) ++ s).size = 1 + (lenBytes n).length + s.size := by
    rw [ByteArray.size_append, ByteArray.size_append, strOfNums_size, strOfNums_size]; rfl
  have hA1 : impl_LengthOf.f ((strOfNums [t] ++ strOfNums (lenBytes n)) ++ s) = some (n, false) := by
    unfold impl_LengthOf.f
    rw [if_pos (by omega), hbytes, getLength_is hn'.1 hlt ht' _ (bytesOf_in s)]
    rfl
  have hA2 : impl_LengthCount.f ((strOfNums [t] ++ strOfNums (lenBytes n)) ++ s) = some (((lenBytes n).length : Int), false) := by
    unfold impl_LengthCount.f
    rw [if_pos (by omega), hbytes, getCount_is hn'.1 hlt]
    rfl
  have hA3 : impl_LengthBytes.f 5 n = some (strOfNums (lenBytes n)) := by
    unfold impl_LengthBytes.f
    rw [lengthBytes_is hn'.1 hlt 5 (by omega)]
    rfl
  simp only [laws_FnLength.j0]
  rw [if_neg (by decide), w, derLength_is hn'.1 hlt 5 (by omega)]
  simp only [Option.bind_some]
  rw [if_pos (by rw [strOfNums_size, strOfNums_size]; simp; omega), if_pos (by rw [ByteArray.size_append, strOfNums_size, strOfNums_size]; simp; omega), hA1]
  simp only [Option.bind_some]
  rw [hA2]
  simp only [Option.bind_some]
  rw [hA3]
  simp only [Option.bind_some]
  rw [if_pos trivial, if_neg (by decide), if_neg (by decide), if_pos trivial, if_pos (by rw [strOfNums_size]), awake 5 (by omega)]
  rfl
end Go.Proofs.Ythgcpicflmigjaa.Pure

/- Bytes (up to 1000) within an application tag (0 to 1000) are, by the package as by the reference, the tag, their length and themselves: for every input of the law. -/
import Derived.Test.YthgcpicflmigjaaLen
import Derived.Test.YthgcpicflmigjaaQ8
namespace Go.Proofs.Ythgcpicflmigjaa.AppTag
open Go.RowKit Go.Proofs.Ythgcpicflmigjaa.Q Go.Proofs.YthgcpicflmigjaaW.PrintWords Go.Proofs.YthgcpicflmigjaaW.PrintLast Go.Proofs.Ythgcpicflmigjaa.Pure

theorem awake (k : Nat) (hk : 5 ≤ k) : laws_lengthAwake.f k = some true := by
  have h1 : impl_LengthOf.f (⟨#[48, 130, 1, 44]⟩ : ByteArray) = some (300, false) := by decide +kernel
  have h2 : (strOfNums (lenBytes 300)).toList = ([130, 1, 44] : List UInt8) := by decide +kernel
  have h3 : impl_LengthBytes.f k 300 = some (strOfNums (lenBytes 300)) := by
    unfold impl_LengthBytes.f
    rw [lengthBytes_is (by omega) (by omega) k hk]
    rfl
  unfold laws_lengthAwake.f
  rw [h1, h3]
  simp only [Option.bind_some]
  rw [if_pos h2]
  rfl
theorem strOf_bytesOf (s : ByteArray) : strOfNums (YthgcpicflmigjaaW.PrintWords.bytesOf s) = s := by
  apply ByteArray.ext
  unfold strOfNums YthgcpicflmigjaaW.PrintWords.bytesOf
  rw [List.map_map]
  have : ((fun n : Int => UInt8.ofNat n.toNat) ∘ fun b : UInt8 => (b.toNat : Int)) = id := by
    funext b
    simp
  rw [this, List.map_id]
theorem and127_ : ∀ n : Nat, n < 1001 → Go.bits .and .i64 (n : Int) 127 = ((n % 128 : Nat) : Int) := by decide +kernel
theorem or96u8_ : ∀ n : Nat, n < 31 → Go.bits .or .u8 96 (n : Int) = ((96 + n : Nat) : Int) := by decide +kernel
theorem or96_ : ∀ n : Nat, n < 31 → Go.bits .or .i64 96 (n : Int) % 256 = ((96 + n : Nat) : Int) := by decide +kernel
theorem or128u8_ : ∀ n : Nat, n < 128 → Go.bits .or .u8 (n : Int) 128 = ((n + 128 : Nat) : Int) := by decide +kernel
theorem or128u8r_ : ∀ n : Nat, n < 10 → Go.bits .or .u8 128 (n : Int) = ((n + 128 : Nat) : Int) := by decide +kernel
theorem and127 {n : Int} (h0 : 0 ≤ n) (h : n ≤ 1000) : Go.bits .and .i64 n 127 = n % 128 := by
  obtain ⟨m, rfl⟩ := Int.eq_ofNat_of_zero_le h0
  rw [and127_ m (by omega)]
  omega
theorem or96u8 {n : Int} (h0 : 0 ≤ n) (h : n < 31) : Go.bits .or .u8 96 n = 96 + n := by
  obtain ⟨m, rfl⟩ := Int.eq_ofNat_of_zero_le h0
  rw [or96u8_ m (by omega)]
  omega
theorem or96 {n : Int} (h0 : 0 ≤ n) (h : n < 31) : Go.bits .or .i64 96 n % 256 = 96 + n := by
  obtain ⟨m, rfl⟩ := Int.eq_ofNat_of_zero_le h0
  rw [or96_ m (by omega)]
  omega
theorem or128u8 {n : Int} (h0 : 0 ≤ n) (h : n < 128) : Go.bits .or .u8 n 128 = n + 128 := by
  obtain ⟨m, rfl⟩ := Int.eq_ofNat_of_zero_le h0
  rw [or128u8_ m (by omega)]
  omega
theorem or128u8r {n : Int} (h0 : 0 ≤ n) (h : n < 10) : Go.bits .or .u8 128 n = n + 128 := by
  obtain ⟨m, rfl⟩ := Int.eq_ofNat_of_zero_le h0
  rw [or128u8r_ m (by omega)]
  omega
/-- The bytes of a tag. -/
def tagBytes (n : Int) : List Int := if n < 31 then [96 + n] else if n < 128 then [127, n] else [127, n / 128 + 128, n % 128]
set_option maxHeartbeats 1000000 in
theorem mar_l2 (x5 : List Int) (a b : Int) (c : Bool) (l : List Int) (hx : x5.length ≤ 10) (hl : l.length ≤ 1000) : ∀ (j : Nat) (m : Int) (acc : List Int) (k : Nat), 0 ≤ m → m < 256 ^ j → acc.length + j ≤ 9 → j < k →
    zzasn1_Marshal.l2 k x5 m acc a b c l = some (x5 ++ ((128 + ((dg j m acc).length : Int)) :: dg j m acc) ++ l, none) := by
  have fin : ∀ (acc : List Int) (k : Nat), acc.length ≤ 9 → zzasn1_Marshal.l2 (k + 1) x5 0 acc a b c l = some (x5 ++ ((128 + (acc.length : Int)) :: acc) ++ l, none) := by
    intro acc k h
    simp only [zzasn1_Marshal.l2]
    rw [if_neg (by omega), if_pos (by omega)]
    simp only [Option.bind_some]
    rw [if_pos (by simp; omega), if_pos (by simp; omega), show (acc.length : Int) % 256 = acc.length from by omega, or128u8r (by omega) (by omega), Int.add_comm]
    simp
  intro j
  induction j with
  | zero =>
    intro m acc k h0 h1 h2 h3
    obtain ⟨k, rfl⟩ : ∃ q, k = q + 1 := ⟨k - 1, by omega⟩
    obtain rfl : m = 0 := by simp at h1; omega
    simpa [dg] using fin acc k (by omega)
  | succ j ih =>
    intro m acc k h0 h1 h2 h3
    obtain ⟨k, rfl⟩ : ∃ q, k = q + 1 := ⟨k - 1, by omega⟩
    by_cases hm : m > 0
    · have h4 : m / 256 < 256 ^ j := by rw [Int.pow_succ] at h1; omega
      have h5 := ih (m / 256) (m % 256 :: acc) k (by omega) h4 (by simp only [List.length_cons]; omega) (by omega)
      simp only [zzasn1_Marshal.l2, dg]
      rw [if_pos hm, if_pos hm]
      simp only [Option.bind_some]
      rw [if_pos (by simp; omega)]
      exact h5
    · obtain rfl : m = 0 := by omega
      rw [dg_zero]
      exact fin acc k (by omega)
theorem mar_j3 (x5 : List Int) (a b : Int) (c : Bool) (l : List Int) (hx : x5.length ≤ 10) (hl : l.length ≤ 1000) (k : Nat) (hk : 6 ≤ k) :
    zzasn1_Marshal.j3 k x5 a b c l = some (x5 ++ lenBytes (l.length : Int) ++ l, none) := by
  obtain ⟨k, rfl⟩ : ∃ q, k = q + 1 := ⟨k - 1, by omega⟩
  simp only [zzasn1_Marshal.j3]
  unfold lenBytes
  by_cases h : (l.length : Int) < 128
  · rw [if_pos h, if_pos h, if_pos (by omega)]
    simp only [Option.bind_some]
    rw [if_pos (by simp; omega), show (l.length : Int) % 256 = l.length from by omega]
  · rw [if_neg h, if_neg h]
    exact mar_l2 x5 a b c l hx hl 4 _ [] k (by omega) (by omega) (by simp) (by omega)
theorem mar_is {n : Int} (h0 : 0 ≤ n) (h : n ≤ 1000) (l : List Int) (hl : l.length ≤ 1000) (k : Nat) (hk : 20 ≤ k) :
    zzasn1_Marshal.f k 1 n true l = some (tagBytes n ++ lenBytes (l.length : Int) ++ l, none) := by
  unfold zzasn1_Marshal.f
  rw [if_pos rfl, show Go.bits .or .u8 (wrap64 (1 * 64) % 256) 32 = 96 from by decide +kernel]
  obtain ⟨k, rfl⟩ : ∃ q, k = q + 1 := ⟨k - 1, by omega⟩
  simp only [zzasn1_Marshal.j0]
  unfold tagBytes
  by_cases h1 : n < 31
  · rw [if_pos h1, if_pos h1, if_pos (by simp), show n % 256 = n from by omega, or96u8 h0 h1]
    exact mar_j3 [96 + n] _ _ _ l (by simp) hl k (by omega)
  · rw [if_neg h1, if_neg h1, if_pos (by simp), show Go.bits .or .u8 96 31 = 127 from by decide +kernel]
    obtain ⟨k, rfl⟩ : ∃ q, k = q + 1 := ⟨k - 1, by omega⟩
    simp only [zzasn1_Marshal.l0, Option.bind_some]
    rw [and127 h0 h, show n % 128 % 256 = n % 128 from by omega, if_pos (by simp)]
    obtain ⟨k, rfl⟩ : ∃ q, k = q + 1 := ⟨k - 1, by omega⟩
    by_cases h2 : n < 128
    · rw [if_pos h2, if_pos (by omega)]
      simp only [zzasn1_Marshal.l1, List.append_nil, List.length_singleton]
      rw [if_neg (by unfold wrap64; omega), if_pos (by simp), show n % 128 = n from by omega]
      exact mar_j3 [127, n] _ _ _ l (by simp) hl k (by omega)
    · rw [if_neg h2, if_neg (by omega)]
      simp only [zzasn1_Marshal.l0, Option.bind_some]
      rw [and127 (by omega) (by omega), show n / 128 % 128 % 256 = n / 128 from by omega, if_pos (by simp), if_pos (by omega)]
      obtain ⟨k, rfl⟩ : ∃ q, k = q + 1 := ⟨k - 1, by omega⟩
      simp only [zzasn1_Marshal.l1, List.append_nil, List.cons_append, List.nil_append, List.length_cons, List.length_nil]
      rw [if_pos (by unfold wrap64; omega), if_pos (by omega), if_pos (by omega)]
      obtain ⟨k, rfl⟩ : ∃ q, k = q + 1 := ⟨k - 1, by omega⟩
      rw [show rd [n / 128, n % 128] 0 = n / 128 from rfl, or128u8 (by omega) (by omega)]
      have w1 : ¬ wrap64 (0 + 1) < wrap64 (((([n / 128, n % 128].set (Int.toNat 0) (n / 128 + 128)).length : Nat) : Int) - 1) := by
        rw [List.length_set]; show ¬ wrap64 (0 + 1) < wrap64 (2 - 1); unfold wrap64; omega
      simp only [zzasn1_Marshal.l1]
      rw [if_neg w1, if_pos (by simp), show ([127] : List Int) ++ ([n / 128, n % 128].set (Int.toNat 0) (n / 128 + 128)) = [127, n / 128 + 128, n % 128] from rfl]
      have hj := mar_j3 [127, n / 128 + 128, n % 128] 1 n true l (by simp) hl k (by omega)
      rw [hj]; simp only [List.cons_append, List.nil_append]
theorem lenBytes_len (n : Int) : (lenBytes n).length ≤ 5 := by
  unfold lenBytes
  split
  · simp
  · have := dg_len 4 n []; simp only [List.length_nil] at this; simp only [List.length_cons]; omega
theorem app_is {n : Int} (h0 : 0 ≤ n) (h : n ≤ 1000) (s : ByteArray) (hs : s.size ≤ 1000) (k : Nat) (hk : 20 ≤ k) :
    spec_AppTagged.f k s n = some (strOfNums (tagBytes n) ++ strOfNums (lenBytes (s.size : Int)) ++ s) := by
  have hL := lenBytes_len (s.size : Int)
  have fin : ∀ hd : List Int, hd.length ≤ 10 → (strOfNums hd).size + (strOfNums (lenBytes (s.size : Int))).size ≤ 9223372036854775807 ∧ (strOfNums hd ++ strOfNums (lenBytes (s.size : Int))).size + s.size ≤ 9223372036854775807 := by
    intro hd h
    rw [ByteArray.size_append, strOfNums_size, strOfNums_size]
    omega
  unfold spec_AppTagged.f tagBytes
  simp only [Option.bind_some]
  by_cases h1 : n < 31
  · rw [if_neg (by omega), if_pos h1, derLength_is (by omega) (by omega) k (by omega)]
    simp only [Option.bind_some]
    rw [or96 h0 h1, if_pos (fin _ (by simp)).1, if_pos (fin _ (by simp)).2]
  · rw [if_pos (by omega), if_neg h1]
    obtain ⟨k, rfl⟩ : ∃ q, k = q + 1 := ⟨k - 1, by omega⟩
    simp only [spec_AppTagged.l0, Option.bind_some]
    rw [if_neg (by simp), and127 h0 h, show n % 128 % 256 = n % 128 from by omega, if_pos (by simp)]
    by_cases h2 : n < 128
    · rw [if_pos h2, if_pos h2, if_pos (by simp), derLength_is (by omega) (by omega) k (by omega)]
      simp only [Option.bind_some]
      rw [show n % 128 = n from by omega]
      simp only [List.append_nil, List.cons_append, List.nil_append]
      rw [if_pos (fin _ (by simp)).1, if_pos (fin _ (by simp)).2]
    · rw [if_neg h2, if_neg h2]
      obtain ⟨k, rfl⟩ : ∃ q, k = q + 1 := ⟨k - 1, by omega⟩
      simp only [spec_AppTagged.l0, Option.bind_some, List.append_nil]
      rw [if_pos (by simp), and127 (by omega) (by omega), show n / 128 % 128 % 256 = n / 128 from by omega, or128u8 (by omega) (by omega), if_pos (by simp), if_pos (by omega), if_pos (by simp), derLength_is (by omega) (by omega) k (by omega)]
      simp only [Option.bind_some, List.cons_append, List.nil_append]
      rw [if_pos (fin _ (by simp)).1, if_pos (fin _ (by simp)).2]
theorem FnAppTag' : laws_FnAppTag.Pure := by
  intro s n hs hn
  have hn' : 0 ≤ n ∧ n ≤ 65535 := by simpa [Lit.wf, IntKind.min, IntKind.max, IntKind.signed, IntKind.bits] using hn
  refine ⟨31, ?_⟩
  have hA : laws_FnAppTag.j0 31 s n true = some true := by
    simp only [laws_FnAppTag.j0]
    rw [if_pos trivial, awake 30 (by omega)]
    rfl
  unfold laws_FnAppTag.f
  by_cases h1 : (s.size : Int) > 2147483647
  · rw [if_pos h1]
  rw [if_neg h1]
  by_cases h2 : (s.size : Int) > 1000
  · rw [if_pos h2]; exact hA
  rw [if_neg h2]
  by_cases h3 : n > 1000
  · rw [decide_eq_true h3]; exact hA
  rw [decide_eq_false h3]
  have w : wrap64 n = n := by unfold wrap64; omega
  have hl : (YthgcpicflmigjaaW.PrintWords.bytesOf s).length = s.size := bytesOf_length s
  have h4 : impl_AppTag.f 30 s n = some (strOfNums (tagBytes n) ++ strOfNums (lenBytes (s.size : Int)) ++ s) := by
    unfold impl_AppTag.f asn1tools_AddASNAppTag.f
    rw [if_pos (by omega), mar_is hn'.1 (by omega) _ (by omega) 30 (by omega)]
    simp only [Option.bind_some]
    rw [hl, strOf_append, strOf_append, strOf_bytesOf]
  simp only [laws_FnAppTag.j0]
  rw [if_neg (by decide), w, h4, app_is hn'.1 (by omega) s (by omega) 30 (by omega)]
  simp only [Option.bind_some]
  rw [if_pos trivial, awake 30 (by omega)]
  rfl
end Go.Proofs.Ythgcpicflmigjaa.AppTag
namespace Go.Proofs.Ythgcpicflmigjaa.Pure
theorem FnAppTag : Go.Proofs.Ythgcpicflmigjaa.Q.laws_FnAppTag.Pure := AppTag.FnAppTag'
end Go.Proofs.Ythgcpicflmigjaa.Pure

/- Flags are 32 bits, the flag 0 the highest one of the first byte; those that are set, one by one or together, are, until they are unset, and no other ones: for every input of the law. -/
import Derived.Test.YthgcpicflmigjaaF7
namespace Go.Proofs.Ythgcpicflmigjaa.Pure
open Go.RowKit Go.Proofs.Ythgcpicflmigjaa.F Go.Proofs.YthgcpicflmigjaaW.PrintWords

theorem awakeF (k : Nat) (hk : 40 ≤ k) : laws_plainAwake.f k = some true :=
  at_rounds (fun k => laws_plainAwake.mono k) hk (by decide +kernel)
theorem wrap_succ {i n : Int} (h0 : 0 ≤ i) (h : i < n) (hn : n ≤ 9223372036854775807) : wrap64 (i + 1) = i + 1 := by
  unfold wrap64
  omega
theorem rd_mem {l : List Int} {i : Int} (h0 : 0 ≤ i) (h : i < l.length) : rd l i ∈ l := by
  have h' : i.toNat < l.length := by omega
  rw [rd, List.getD_eq_getElem?_getD, List.getElem?_eq_getElem h']
  exact List.getElem_mem h'
theorem drop_rd {l : List Int} {i : Int} (h0 : 0 ≤ i) (h : i < l.length) : l.drop i.toNat = rd l i :: l.drop (i + 1).toNat := by
  have h' : i.toNat < l.length := by omega
  rw [List.drop_eq_getElem_cons h', rd, List.getD_eq_getElem?_getD, List.getElem?_eq_getElem h']
  rw [show (i + 1).toNat = i.toNat + 1 from by omega]
  rfl
theorem right_l0 (l : List Int) (hn : (l.length : Int) ≤ 9223372036854775807) : ∀ (d k : Nat) (i : Int), 0 ≤ i → i ≤ l.length → (l.length : Int) - i = d → d < k →
    spec_FlagsRight.l0 k l l (l.length : Int) i = some (in32 (l.drop i.toNat) && decide ((l.length : Int) ≤ 100)) := by
  intro d
  induction d with
  | zero =>
    intro k i h0 h1 hd hk
    obtain ⟨k, rfl⟩ : ∃ m, k = m + 1 := ⟨k - 1, by omega⟩
    simp only [spec_FlagsRight.l0]
    rw [if_neg (by omega), List.drop_eq_nil_of_le (by omega)]
    simp [in32]
  | succ d ih =>
    intro k i h0 h1 hd hk
    obtain ⟨k, rfl⟩ : ∃ m, k = m + 1 := ⟨k - 1, by omega⟩
    have hlt : i < (l.length : Int) := by omega
    simp only [spec_FlagsRight.l0]
    rw [if_pos hlt, if_pos h0, if_pos hlt, drop_rd h0 hlt]
    by_cases c1 : rd l i < 0
    · rw [if_pos c1]
      have : ¬ 0 ≤ rd l i := by omega
      simp [in32, this]
    rw [if_neg c1]
    by_cases c2 : rd l i > 31
    · rw [if_pos c2]
      have : ¬ rd l i ≤ 31 := by omega
      simp [in32, this]
    rw [if_neg c2, wrap_succ h0 hlt hn, ih k (i + 1) (by omega) (by omega) (by omega) (by omega)]
    have h3 : 0 ≤ rd l i := by omega
    have h4 : rd l i ≤ 31 := by omega
    simp [in32, h3, h4]
theorem right_is (l : List Int) (hn : (l.length : Int) ≤ 9223372036854775807) (k : Nat) (hk : l.length < k) : spec_FlagsRight.f k l = some (in32 l && decide ((l.length : Int) ≤ 100)) := by
  unfold spec_FlagsRight.f
  rw [right_l0 l hn l.length k 0 (by omega) (by omega) (by omega) hk]
  rfl
theorem bit_same_ : ∀ n : Nat, n < 8 → (2 : Int) ^ (7 - (n : Int)).toNat % 256 = 128 / 2 ^ (n : Int).toNat := by decide +kernel
theorem bit_same (i : Int) : bitOf i = sBit i := by
  unfold bitOf sBit
  obtain ⟨n, hn⟩ := Int.eq_ofNat_of_zero_le (show 0 ≤ i % 8 from by omega)
  rw [hn]
  exact bit_same_ n (by omega)
theorem set_same : setB = sSet := by
  funext B i
  unfold setB sSet
  rw [bit_same]
theorem unset_same : unsetB = sUnset := by
  funext B i
  unfold unsetB sUnset
  rw [bit_same]
def Good (B : List Int) : Prop := B.length = 4 ∧ ∀ x ∈ B, 0 ≤ x ∧ x ≤ 255
theorem Good.set {B : List Int} (h : Good B) (j : Nat) {v : Int} (hv : 0 ≤ v ∧ v ≤ 255) : Good (B.set j v) := by
  refine ⟨by simpa using h.1, fun x hx => ?_⟩
  rcases List.mem_or_eq_of_mem_set hx with h1 | rfl
  · exact h.2 x h1
  · exact hv
theorem good_fold (f : List Int → Int → List Int) (hf : ∀ B i, Good B → Good (f B i)) : ∀ (l : List Int) (B : List Int), Good B → Good (l.foldl f B)
  | [], _, h => h
  | x :: l, B, h => good_fold f hf l (f B x) (hf B x h)
theorem good_flagB (l0 l1 : List Int) : Good (flagB l0 l1) := by
  unfold flagB
  refine good_fold _ (fun B i h => h.set _ (bits_u8 _ _ _)) _ _ (good_fold _ (fun B i h => h.set _ (bits_u8 _ _ _)) _ _ ⟨rfl, by simp⟩)
theorem is_same_ : ∀ b : Nat, b < 256 → ∀ p : Nat, p < 8 → (Go.bits .and .u8 (shr .u8 (b : Int) (7 - (p : Int))) 1 == 1) = (Go.bits .and .u8 (b : Int) (2 ^ (7 - (p : Int)).toNat % 256) != 0) := by decide +kernel
theorem bt_strOf {l : List Int} (h : ∀ x ∈ l, 0 ≤ x ∧ x ≤ 255) {i : Int} (h0 : 0 ≤ i) (h1 : i < l.length) : bt (strOfNums l) i = l.getD i.toNat 0 := by
  have hi : i.toNat < l.length := by omega
  have hs : i.toNat < (strOfNums l).size := by rw [strOfNums_size]; exact hi
  unfold bt
  rw [dif_pos hs]
  have hm := h l[i.toNat] (List.getElem_mem hi)
  have hg : (strOfNums l)[i.toNat] = UInt8.ofNat (l[i.toNat]).toNat := by
    simp [strOfNums, ByteArray.getElem_eq_getElem_data]
  rw [hg, UInt8.toNat_ofNat_of_lt' (by have : UInt8.size = 256 := rfl; omega), List.getD_eq_getElem?_getD, List.getElem?_eq_getElem hi]
  simp
  omega
theorem flagSet_is {B : List Int} (hB : Good B) {i : Int} (h0 : 0 ≤ i) (h1 : i ≤ 31) : spec_FlagSet.f (strOfNums B) i = some (isB B i) := by
  have w1 : wrap64 (Int.tdiv i 8) = i / 8 := by
    rw [Int.tdiv_eq_ediv_of_nonneg h0]; unfold wrap64; omega
  have w2 : wrap64 (7 - Int.tmod i 8) = 7 - i % 8 := by
    rw [Int.tmod_eq_emod_of_nonneg h0]; unfold wrap64; omega
  unfold spec_FlagSet.f
  rw [w1, w2, if_pos (by omega), if_pos (by rw [strOfNums_size, hB.1]; omega), if_pos (by omega), bt_strOf hB.2 (by omega) (by rw [hB.1]; omega)]
  unfold isB bitOf
  have hi : (i / 8).toNat < B.length := by rw [hB.1]; omega
  have hm := hB.2 B[(i / 8).toNat] (List.getElem_mem hi)
  rw [List.getD_eq_getElem?_getD, List.getElem?_eq_getElem hi]
  simp only [Option.getD_some]
  obtain ⟨b, hb⟩ := Int.eq_ofNat_of_zero_le hm.1
  obtain ⟨p, hp⟩ := Int.eq_ofNat_of_zero_le (show 0 ≤ i % 8 from by omega)
  rw [hb, hp, is_same_ b (by omega) p (by omega)]
theorem flags_l0 (B : List Int) (hB : Good B) (l : List Int) (hl : ∀ x ∈ l, 0 ≤ x ∧ x ≤ 31) (hn : l.length ≤ 1000) : ∀ (d k : Nat) (i : Int), 0 ≤ i → i ≤ l.length → (l.length : Int) - i = d → d + 50 < k →
    laws_FnFlags.l0 k (strOfNums B) (l.map (isB B)) l (l.length : Int) i = some true := by
  intro d
  induction d with
  | zero =>
    intro k i h0 h1 hd hk
    obtain ⟨k, rfl⟩ : ∃ m, k = m + 1 := ⟨k - 1, by omega⟩
    simp only [laws_FnFlags.l0]
    rw [if_neg (by omega), awakeF k (by omega)]
    rfl
  | succ d ih =>
    intro k i h0 h1 hd hk
    obtain ⟨k, rfl⟩ : ∃ m, k = m + 1 := ⟨k - 1, by omega⟩
    have hlt : i < (l.length : Int) := by omega
    have hm := hl _ (rd_mem h0 hlt)
    have he : rdOf false (l.map (isB B)) i = isB B (rd l i) := by
      have h' : i.toNat < l.length := by omega
      simp [rdOf, rd, List.getD_eq_getElem?_getD, List.getElem?_eq_getElem h']
    simp only [laws_FnFlags.l0]
    rw [if_pos hlt, if_pos h0, if_pos hlt, if_pos (by rw [List.length_map]; exact hlt), flagSet_is hB hm.1 hm.2, he]
    simp only [Option.bind_some]
    rw [if_neg (by simp), wrap_succ h0 hlt (by omega)]
    exact ih k (i + 1) (by omega) (by omega) (by omega) (by omega)
theorem FnFlags : laws_FnFlags.Pure := by
  intro l0 l1 l2 one h0 _ _ h1 _ _ h2 _ _
  have n0 : (l0.length : Int) ≤ 9223372036854775807 := by unfold maxLen at h0; omega
  have n1 : (l1.length : Int) ≤ 9223372036854775807 := by unfold maxLen at h1; omega
  have n2 : (l2.length : Int) ≤ 9223372036854775807 := by unfold maxLen at h2; omega
  obtain ⟨k, hk⟩ : ∃ k, k = l0.length + l1.length + l2.length + 100 := ⟨_, rfl⟩
  refine ⟨k + 3, ?_⟩
  have hT : laws_FnFlags.j0 (k + 3) l0 l1 l2 one true = some true := by simp [laws_FnFlags.j0]
  have hA : laws_FnFlags.j1 (k + 2) l0 l1 l2 one true = some true := by
    simp only [laws_FnFlags.j1]
    rw [if_pos trivial, awakeF (k + 1) (by omega)]
    rfl
  unfold laws_FnFlags.f
  by_cases c0 : (l0.length : Int) > 2147483647
  · rw [if_pos c0]; exact hT
  rw [if_neg c0]
  by_cases c1 : (l1.length : Int) > 2147483647
  · rw [if_pos c1]; exact hT
  rw [if_neg c1]
  by_cases c2 : (l2.length : Int) > 2147483647
  · rw [decide_eq_true c2]; exact hT
  rw [decide_eq_false c2]
  simp only [laws_FnFlags.j0]
  rw [if_neg (by decide), right_is l0 n0 (k + 2) (by omega)]
  simp only [Option.bind_some]
  by_cases c3 : (in32 l0 && decide ((l0.length : Int) ≤ 100)) = true
  case neg => rw [if_neg c3]; exact hA
  rw [if_pos c3, right_is l1 n1 (k + 2) (by omega)]
  simp only [Option.bind_some]
  by_cases c4 : (in32 l1 && decide ((l1.length : Int) ≤ 100)) = true
  case neg => rw [if_neg c4]; exact hA
  rw [if_pos c4, right_is l2 n2 (k + 2) (by omega)]
  simp only [Option.bind_some]
  by_cases c5 : (in32 l2 && decide ((l2.length : Int) ≤ 100)) = true
  case neg => rw [Bool.not_eq_true] at c5; rw [c5]; exact hA
  rw [c5]
  obtain ⟨i0, _⟩ := Bool.and_eq_true_iff.1 c3
  obtain ⟨i1, _⟩ := Bool.and_eq_true_iff.1 c4
  obtain ⟨i2, j2⟩ := Bool.and_eq_true_iff.1 c5
  have j2' : (l2.length : Int) ≤ 100 := of_decide_eq_true j2
  have hF : impl_Flags.f l0 l1 one l2 = some (strOfNums (flagB l0 l1), 32, l2.map (isB (flagB l0 l1))) := by
    unfold impl_Flags.f
    rw [if_pos ⟨i0, i1, i2, by omega⟩]
  have hS : spec_FlagBytes.f l0 l1 = some (strOfNums (flagB l0 l1)) := by
    unfold spec_FlagBytes.f flagB
    rw [if_pos ⟨i0, i1⟩, set_same, unset_same]
  simp only [laws_FnFlags.j1, Bool.not_true]
  rw [if_neg (by decide), hF]
  simp only [Option.bind_some]
  rw [if_pos trivial, hS]
  simp only [Option.bind_some]
  rw [if_pos trivial, List.length_map]
  simp only [bne_self_eq_false, laws_FnFlags.j2]
  rw [if_neg (by decide)]
  exact flags_l0 _ (good_flagB l0 l1) l2 (in32_mem i2) (by omega) l2.length k 0 (by omega) (by omega) (by omega) (by omega)
end Go.Proofs.Ythgcpicflmigjaa.Pure

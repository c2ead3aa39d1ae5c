/- A cache that is written is read as what was written; under what each theorem states. -/
import Derived.Test.YtnipcocllhfaoaaP2
import Derived.Test.YtnipcocllhfaoaaA10
namespace Go.Proofs.Ytnipcocllhfaoaa.P
open Go.RowKit Go.Proofs.YtnipcocllhfaoaaW.PrintWords Go.Proofs.Ytnipcocllhfaoaa.B
open Go.Proofs.Ytnipcocllhfaoaa.A
set_option linter.unusedVariables false
set_option linter.unusedSimpArgs false
theorem flag_step (x b : Int) (h0 : 0 ≤ x) (h1 : x < 16777216) (h2 : 0 ≤ b) (h3 : b < 256) : flagStep x b = x * 256 + b := by
  unfold flagStep
  rw [show x * 256 % 4294967296 = x * 256 from by omega, show b % 4294967296 = b from by omega, u32_or (x * 256) b (by omega) (by omega) h2 (by omega)]
  obtain ⟨y, rfl⟩ := Int.eq_ofNat_of_zero_le h0
  obtain ⟨c, rfl⟩ := Int.eq_ofNat_of_zero_le h2
  simp only [Int.toNat_natCast]
  rw [show (((y : Int) * 256).toNat) = y * 2 ^ 8 from by omega, Nat.or_comm, B.nat_join c y 8 (by omega)]
  omega
theorem flags_back {n : Int} (h0 : 0 ≤ n) (h1 : n < 4294967296) : flagsOf (big n 4) = n := by
  rw [big4]
  unfold flagsOf
  simp only [List.foldl_cons, List.foldl_nil]
  obtain ⟨a, ha⟩ : ∃ a, a = n / 16777216 % 256 := ⟨_, rfl⟩
  obtain ⟨b, hb⟩ : ∃ b, b = n / 65536 % 256 := ⟨_, rfl⟩
  obtain ⟨c, hc⟩ : ∃ c, c = n / 256 % 256 := ⟨_, rfl⟩
  obtain ⟨d, hd⟩ : ∃ d, d = n % 256 := ⟨_, rfl⟩
  rw [← ha, ← hb, ← hc, ← hd]
  have e1 := flag_step 0 a (by omega) (by omega) (by omega) (by omega)
  have e2 := flag_step (0 * 256 + a) b (by omega) (by omega) (by omega) (by omega)
  have e3 := flag_step ((0 * 256 + a) * 256 + b) c (by omega) (by omega) (by omega) (by omega)
  have e4 := flag_step (((0 * 256 + a) * 256 + b) * 256 + c) d (by omega) (by omega) (by omega) (by omega)
  rw [e1, e2, e3, e4]
  omega
theorem part_back (l : List S63) : ((l.map part).map toPart).map laws_ofCred.to = l := by
  rw [List.map_map, List.map_map]
  conv => rhs; rw [← List.map_id l]
  apply List.map_congr_left
  intro p _
  show laws_ofCred.to (toPart (part p)) = id p
  unfold part toPart laws_ofCred.to
  rw [strOf_bytesOf]
  rfl
theorem cred_back {c : S36} (h : OkCred c) : laws_ofCred.of (toCred (cred c)) = c := by
  have e1 := flags_back h.flags.1 h.flags.2
  have e2 := part_back c.f10
  have e3 := part_back c.f11
  obtain ⟨⟨r0, n0, k0⟩, ⟨r1, n1, k1⟩, kt, key, t1, t2, t3, t4, ik, fl, ad, au, tk, sc⟩ := c
  dsimp only at e1 e2 e3
  unfold laws_ofCred.of toCred cred prin
  dsimp only
  rw [e1, e2, e3, strOf_bytesOf, strOf_bytesOf, strOf_bytesOf]
  cases ik <;> rfl
theorem rFields_at {l r : List Int} : ∀ (offs : List Int) (n p : Nat) (h : Int), At l p (eOffs offs ++ r) → 4 ≤ p → h = (p : Int) - 4 + 12 * offs.length → offs.length < n → rFields l h n p = some (p + 12 * offs.length)
  | [], n, p, h, ha, hp, hh, hn => by
    obtain ⟨m, rfl⟩ : ∃ m, n = m + 1 := ⟨n - 1, by simp at hn; omega⟩
    simp only [rFields]
    rw [if_neg (by simp at hh; omega)]
    rfl
  | a :: offs, n, p, h, ha, hp, hh, hn => by
    obtain ⟨m, rfl⟩ : ∃ m, n = m + 1 := ⟨n - 1, by omega⟩
    rw [List.length_cons] at hh hn
    have e : eOffs (a :: offs) ++ r = (0 :: 1 :: cnt (big a 8) 2) ++ (eOffs offs ++ r) := by simp [eOffs]
    have hl12 : (0 :: 1 :: cnt (big a 8) 2 : List Int).length = 12 := by simp only [List.length_cons, cnt_len, big_len]
    have ha2 : At l p ((0 :: 1 :: cnt (big a 8) 2) ++ (eOffs offs ++ r)) := e ▸ ha
    have hn2 := ha2.app
    rw [hl12] at hn2
    have hlen := ha2.len
    rw [List.length_append, hl12] at hlen
    have hc : (0 :: 1 :: cnt (big a 8) 2 : List Int) = 0 :: 1 :: 0 :: 8 :: big a 8 := by
      unfold cnt
      rw [big_len, big2]
      rfl
    rw [hc] at ha2
    have g0 := ha2.get0
    have g1 := ha2.get 1
    have g2 := ha2.get 2
    have g3 := ha2.get 3
    simp at g0 g1 g2 g3
    have u1 : u16 l p = 1 := by
      unfold u16
      rw [List.getD_eq_getElem?_getD, List.getD_eq_getElem?_getD, g0, g1]
      rfl
    have u2 : u16 l (p + 2) = 8 := by
      unfold u16
      rw [List.getD_eq_getElem?_getD, List.getD_eq_getElem?_getD, g2, show p + 2 + 1 = p + 3 from rfl, g3]
      rfl
    simp only [rFields]
    rw [if_pos (by omega), if_pos ⟨by omega, u1, u2⟩, rFields_at offs m (p + 12) h hn2 (by omega) (by omega) (by omega), List.length_cons]
    congr 1
    omega
theorem readHead_at {v : Nat} (hv : v = 3 ∨ v = 4) {offs : List Int} (ho : offs.length ≤ 3) (r : List Int) : readHead (eHead v offs ++ r) = some (v, (eHead v offs).length) := by
  rcases hv with rfl | rfl
  · unfold readHead eHead
    simp
  · have hl := eOffs_len offs
    have hlen : (eHead 4 offs).length = 4 + 12 * offs.length := by
      unfold eHead
      rw [if_pos rfl]
      simp only [List.length_cons, cnt_len]
      omega
    have e : eHead 4 offs ++ r = 5 :: 4 :: ((12 * offs.length : Nat) : Int) / 256 % 256 :: ((12 * offs.length : Nat) : Int) % 256 :: (eOffs offs ++ r) := by
      unfold eHead cnt
      rw [if_pos rfl, hl, big2]
      rfl
    have h4 : offs.length = 0 ∨ offs.length = 1 ∨ offs.length = 2 ∨ offs.length = 3 := by omega
    have h1 : ((12 * offs.length : Nat) : Int) / 256 % 256 = 0 := by rcases h4 with h | h | h | h <;> rw [h] <;> decide
    have h2 : ((12 * offs.length : Nat) : Int) % 256 = 12 * (offs.length : Int) := by rcases h4 with h | h | h | h <;> rw [h] <;> decide
    rw [h1, h2] at e
    have ha : At (eHead 4 offs ++ r) 4 (eOffs offs ++ r) := by
      rw [e]
      exact ⟨by simp, rfl⟩
    have hu : u16 (eHead 4 offs ++ r) 2 = 12 * (offs.length : Int) := by
      rw [e]
      unfold u16
      simp
    have hz : 4 + 12 * offs.length ≤ (eHead 4 offs ++ r).length := by rw [List.length_append, hlen]; omega
    have hf := rFields_at offs (eHead 4 offs ++ r).length 4 (12 * (offs.length : Int)) ha (by omega) (by omega) (by omega)
    have hh : rHeader (eHead 4 offs ++ r) 2 = some (4 + 12 * offs.length) := by
      unfold rHeader
      rw [if_pos (by omega), hu]
      exact hf
    unfold readHead
    rw [hh, hlen]
    have d0 : (eHead 4 offs ++ r).getD 0 0 = 5 := by rw [e]; rfl
    have d1 : (eHead 4 offs ++ r).getD 1 0 = 4 := by rw [e]; rfl
    rw [if_pos ⟨d0, by omega⟩, d1, if_neg (by decide), if_pos rfl]
    rfl
theorem read_full {v : Nat} (hv : v = 3 ∨ v = 4) {offs : List Int} (hol : offs.length ≤ 3) {cl : S24} (hcl : OkName cl) {cs : List S36} (hcs : ∀ c ∈ cs, OkCred c) (hn : cs.length ≤ 12) :
    impl_CacheRead.f (strOfNums (eCache v offs cl cs)) = some ((v : Int), cl.f0, cl.f1, cl.f2, cs.map (fun c => toCred (cred c)), true) := by
  have hle := cache_le (v := v) (offs := offs) (by omega) hcl hcs hn
  have hat := head_at v offs (eName cl ++ cs.flatMap (eCred v))
  have hh := readHead_at hv hol (eName cl ++ cs.flatMap (eCred v))
  have e : eHead v offs ++ (eName cl ++ cs.flatMap (eCred v)) = eCache v offs cl cs := rfl
  rw [e] at hat hh
  have h5 : eCache v offs cl cs ≠ [5] := by
    intro h5
    have := congrArg List.length h5
    unfold eCache eHead at this
    simp at this
  have := read_some (bytes_cache hv offs cl cs) (by omega) h5 hh (rCache_at hat hcl hcs)
  rw [this]
  simp only [prin, List.map_map]
  rfl
theorem u64s_ok {l : List Int} (h : ∀ y : Int, y ∈ l → (Lit.int .u64 y).wf = true) : ∀ n ∈ l, 0 ≤ n := fun n hn => by
  have := h n hn
  simp [Lit.wf, IntKind.min, IntKind.max, IntKind.bits, IntKind.signed] at this
  omega
theorem small_parts {l : List S36} (h : ∀ d ∈ l, OkCred d) : ∀ x ∈ l.map (fun c => toCred (cred c)), x.f10.length ≤ 1000000 ∧ x.f11.length ≤ 1000000 := fun x hx => by
  obtain ⟨c, hc, rfl⟩ := List.mem_map.1 hx
  have h1 := (h c hc).la
  have h2 := (h c hc).lb
  unfold toCred cred
  dsimp only
  rw [List.length_map, List.length_map, List.length_map, List.length_map]
  omega
theorem creds_back {l : List S36} (h : ∀ d ∈ l, OkCred d) : (l.map (fun c => toCred (cred c))).map laws_ofCred.of = l := by
  rw [List.map_map]
  conv => rhs; rw [← List.map_id l]
  exact List.map_congr_left fun c hc => cred_back (h c hc)
end Go.Proofs.Ytnipcocllhfaoaa.P

/- What a cache's writer writes is read as what was written, and what is cut within the last credential is refused: plain lists; under what each theorem states. -/
import Derived.Test.YtnipcocllhfaoaaB11
import Derived.Test.YtnipcocllhfaoaaA0
namespace Go.Proofs.Ytnipcocllhfaoaa.P
open Go.RowKit Go.Proofs.YtnipcocllhfaoaaW.PrintWords Go.Proofs.Ytnipcocllhfaoaa.B
open Go.Proofs.Ytnipcocllhfaoaa.A (S24 S36 S63)
set_option linter.unusedVariables false
set_option linter.unusedSimpArgs false

/-! ### Writers -/
def big (a0 : Int) (n : Nat) : List Int := (List.range n).map fun i => a0 / 2 ^ (8 * (n - 1 - i)) % 256
theorem big_len (a : Int) (n : Nat) : (big a n).length = n := by simp [big]
theorem big_ok (a : Int) (n : Nat) : ∀ x ∈ big a n, 0 ≤ x ∧ x < 256 := by
  intro x hx
  obtain ⟨i, _, rfl⟩ := List.mem_map.1 hx
  omega
theorem big1 (a : Int) : big a 1 = [a % 256] := by simp [big, List.range_succ]
theorem big2 (a : Int) : big a 2 = [a / 256 % 256, a % 256] := by simp [big, List.range_succ]
theorem big4 (a : Int) : big a 4 = [a / 16777216 % 256, a / 65536 % 256, a / 256 % 256, a % 256] := by simp [big, List.range_succ]
def cnt (l : List Int) (k : Nat) : List Int := big l.length k ++ l
theorem cnt_len (l : List Int) (k : Nat) : (cnt l k).length = k + l.length := by simp [cnt, big_len]
def eNames (l : List ByteArray) : List Int := l.flatMap fun s => cnt (bytesOf s) 4
def eName (x : S24) : List Int := big (x.f2 % 4294967296) 4 ++ (big x.f1.length 4 ++ (cnt (bytesOf x.f0) 4 ++ eNames x.f1))
def ePart (p : S63) : List Int := big (p.f0 % 65536) 2 ++ cnt (bytesOf p.f1) 4
def eParts (l : List S63) : List Int := big l.length 4 ++ l.flatMap ePart
def eType (v : Nat) (n : Int) : List Int := big (n % 65536) 2 ++ if v = 3 then big (n % 65536) 2 else []
def eCred (v : Nat) (c : S36) : List Int := eName c.f0 ++ (eName c.f1 ++ (eType v c.f2 ++ (cnt (bytesOf c.f3) 4 ++ (big c.f4 4 ++ (big c.f5 4 ++ (big c.f6 4 ++ (big c.f7 4 ++ (big (if c.f8 then 1 else 0) 1 ++ (big c.f9 4 ++ (eParts c.f10 ++ (eParts c.f11 ++ (cnt (bytesOf c.f12) 4 ++ cnt (bytesOf c.f13) 4))))))))))))
def eOffs (l : List Int) : List Int := l.flatMap fun n => 0 :: 1 :: cnt (big n 8) 2
def eHead (v : Nat) (offs : List Int) : List Int := 5 :: (v : Int) :: if v = 4 then cnt (eOffs offs) 2 else []
def eCache (v : Nat) (offs : List Int) (cl : S24) (l : List S36) : List Int := eHead v offs ++ (eName cl ++ l.flatMap (eCred v))

/-! ### Reading on from a place -/
structure At (l : List Int) (p : Nat) (xs : List Int) : Prop where
  le : p ≤ l.length
  eq : l.drop p = xs
theorem At.app {l : List Int} {p : Nat} {a b : List Int} (h : At l p (a ++ b)) : At l (p + a.length) b := by
  have hl := congrArg List.length h.eq
  rw [List.length_drop, List.length_append] at hl
  have := h.le
  refine ⟨by omega, ?_⟩
  rw [← List.drop_drop, h.eq, List.drop_left]
theorem At.len {l : List Int} {p : Nat} {a : List Int} (h : At l p a) : l.length = p + a.length := by
  have hl := congrArg List.length h.eq
  rw [List.length_drop] at hl
  have := h.le
  omega
theorem At.get {l : List Int} {p : Nat} {a : List Int} (h : At l p a) (i : Nat) : l.getD (p + i) 0 = a.getD i 0 := by
  rw [← h.eq, List.getD_eq_getElem?_getD, List.getD_eq_getElem?_getD, List.getElem?_drop]
theorem At.get0 {l : List Int} {p : Nat} {a : List Int} (h : At l p a) : l.getD p 0 = a.getD 0 0 := h.get 0
theorem wrap32_id {n : Int} (h0 : -2147483648 ≤ n) (h1 : n < 2147483648) : wrap32 (n % 4294967296) = n := by unfold wrap32; omega
theorem wrap16_id {n : Int} (h0 : -32768 ≤ n) (h1 : n < 32768) : IntKind.i16.wrap (n % 65536) = n := by
  simp [IntKind.wrap, IntKind.bits, IntKind.signed]
  split <;> omega
theorem r32_big {l r : List Int} {p : Nat} {n : Int} (h : At l p (big n 4 ++ r)) (h0 : 0 ≤ n) (h1 : n < 4294967296) : r32 l p = some (wrap32 n, p + 4) := by
  have hl := h.len
  have g0 := h.get0
  have g1 := h.get 1
  have g2 := h.get 2
  have g3 := h.get 3
  rw [List.length_append, big_len] at hl
  rw [big4] at g0 g1 g2 g3
  simp at g0 g1 g2 g3
  unfold r32 u32
  rw [if_pos (by omega)]
  rw [List.getD_eq_getElem?_getD, List.getD_eq_getElem?_getD, List.getD_eq_getElem?_getD, List.getD_eq_getElem?_getD, g0, g1, g2, g3]
  congr 3
  omega
theorem r16_big {l r : List Int} {p : Nat} {n : Int} (h : At l p (big n 2 ++ r)) (h0 : 0 ≤ n) (h1 : n < 65536) : r16 l p = some (IntKind.i16.wrap n, p + 2) := by
  have hl := h.len
  have g0 := h.get0
  have g1 := h.get 1
  rw [List.length_append, big_len] at hl
  rw [big2] at g0 g1
  simp at g0 g1
  unfold r16 u16
  rw [if_pos (by omega)]
  rw [List.getD_eq_getElem?_getD, List.getD_eq_getElem?_getD, g0, g1]
  congr 3
  omega
theorem r8_big {l r : List Int} {p : Nat} {n : Int} (h : At l p (big n 1 ++ r)) (h0 : 0 ≤ n) (h1 : n < 128) : r8 l p = some (n, p + 1) := by
  have hl := h.len
  have g0 := h.get0
  rw [List.length_append, big_len] at hl
  rw [big1] at g0
  simp at g0
  unfold r8
  rw [if_pos (by omega)]
  rw [List.getD_eq_getElem?_getD, g0]
  congr 2
  simp [IntKind.wrap, IntKind.bits, IntKind.signed]
  split <;> omega
theorem rBytes_at {l a r : List Int} {p : Nat} {s : Int} (h : At l p (a ++ r)) (hs : s = a.length) : rBytes l p s = some (a, p + a.length) := by
  have hl := h.len
  rw [List.length_append] at hl
  have hn : s.toNat = a.length := by omega
  have hc : 0 ≤ s ∧ (p : Int) + s ≤ l.length := by omega
  have he : (l.drop p).take a.length = a := by rw [h.eq, List.take_left]
  unfold rBytes
  rw [if_pos hc, hn, he]
theorem rData_cnt {l a r : List Int} {p : Nat} (h : At l p (cnt a 4 ++ r)) (ha : a.length < 2147483648) : rData l p = some (a, p + (cnt a 4).length) := by
  unfold cnt at h
  rw [List.append_assoc] at h
  have h2 := h.app
  rw [big_len] at h2
  have e1 : r32 l p = some ((a.length : Int), p + 4) := by
    have := r32_big h (by omega) (by omega)
    rwa [show wrap32 (a.length : Int) = a.length from by unfold wrap32; omega] at this
  have e2 : rBytes l (p + 4) (a.length : Int) = some (a, p + 4 + a.length) := rBytes_at h2 rfl
  have e3 : p + (cnt a 4).length = p + 4 + a.length := by rw [cnt_len]; omega
  rw [e3]
  unfold rData
  rw [e1]
  exact e2
theorem r32_len {l r : List Int} {p n : Nat} (h : At l p (big n 4 ++ r)) (hn : n < 2147483648) : r32 l p = some ((n : Int), p + 4) := by
  have := r32_big h (by omega) (by omega)
  rwa [show wrap32 (n : Int) = n from by unfold wrap32; omega] at this
theorem strOf_bytesOf (s : ByteArray) : strOfNums (bytesOf s) = s := by
  unfold strOfNums bytesOf
  rw [List.map_map]
  have : ((fun n : Int => UInt8.ofNat n.toNat) ∘ fun b : UInt8 => (b.toNat : Int)) = id := by
    funext b
    simp
  rw [this, List.map_id]
/-! ### What may be written -/
def OkName (x : S24) : Prop := x.f0.size ≤ 200 ∧ x.f1.length ≤ 8 ∧ (∀ s ∈ x.f1, s.size ≤ 200) ∧ -2147483648 ≤ x.f2 ∧ x.f2 < 2147483648
def OkPart (p : S63) : Prop := -32768 ≤ p.f0 ∧ p.f0 < 32768 ∧ p.f1.size ≤ 100
def OkTime (t : Int) : Prop := 0 ≤ t ∧ t < 2147483648
structure OkCred (c : S36) : Prop where
  client : OkName c.f0
  server : OkName c.f1
  kind : -32768 ≤ c.f2 ∧ c.f2 < 32768
  key : c.f3.size ≤ 500
  t1 : OkTime c.f4
  t2 : OkTime c.f5
  t3 : OkTime c.f6
  t4 : OkTime c.f7
  flags : 0 ≤ c.f9 ∧ c.f9 < 4294967296
  la : c.f10.length ≤ 10
  lb : c.f11.length ≤ 10
  pa : ∀ p ∈ c.f10, OkPart p
  pb : ∀ p ∈ c.f11, OkPart p
  tk : c.f12.size ≤ 500
  sc : c.f13.size ≤ 500
/-! ### What is read -/
theorem rNames_at {l r : List Int} : ∀ (xs : List ByteArray) (p : Nat), At l p (eNames xs ++ r) → (∀ s ∈ xs, s.size ≤ 200) → rNames l xs.length p = some (xs, p + (eNames xs).length)
  | [], p, h, _ => rfl
  | s :: xs, p, h, hs => by
    have hh : At l p (cnt (bytesOf s) 4 ++ (eNames xs ++ r)) := by simpa [eNames] using h
    have hz := hs s (by simp)
    have h2 := hh.app
    have e1 := rData_cnt hh (by rw [bytesOf_length]; omega)
    have e2 := rNames_at xs _ h2 (fun y hy => hs y (by simp [hy]))
    have e3 : (eNames (s :: xs)).length = (cnt (bytesOf s) 4).length + (eNames xs).length := by simp [eNames]
    show ((rData l p).bind fun x => (rNames l xs.length x.2).bind fun y => some (strOfNums x.1 :: y.1, y.2)) = _
    rw [e1, e3]
    simp only [Option.bind_some]
    rw [e2]
    simp only [Option.bind_some]
    rw [strOf_bytesOf, Nat.add_assoc]
def prin (x : S24) : Prin := ⟨x.f0, x.f2, x.f1⟩
theorem rPrin_at {l r : List Int} {p : Nat} (x : S24) (h : At l p (eName x ++ r)) (hx : OkName x) : rPrin l p = some (prin x, p + (eName x).length) := by
  obtain ⟨h0, h1, h2, h3, h4⟩ := hx
  unfold eName at h
  simp only [List.append_assoc] at h
  have a1 := h.app
  rw [big_len] at a1
  have a2 := a1.app
  rw [big_len] at a2
  have a3 := a2.app
  have e0 := r32_big h (by omega) (by omega)
  rw [wrap32_id h3 h4] at e0
  have e1 := r32_len a1 (by omega)
  have e2 := rData_cnt a2 (by rw [bytesOf_length]; omega)
  have e3 := rNames_at x.f1 _ a3 h2
  have el : p + (eName x).length = p + 4 + 4 + (cnt (bytesOf x.f0) 4).length + (eNames x.f1).length := by
    unfold eName
    simp only [List.length_append, big_len]
    omega
  rw [el]
  unfold rPrin
  rw [e0]
  simp only [Option.bind_some]
  rw [e1]
  simp only [Option.bind_some]
  rw [e2]
  simp only [Option.bind_some, Int.toNat_natCast]
  rw [e3]
  simp only [Option.bind_some]
  rw [strOf_bytesOf]
  rfl
def part (p : S63) : Int × List Int := (p.f0, bytesOf p.f1)
theorem rPart_at {l r : List Int} {p : Nat} (x : S63) (h : At l p (ePart x ++ r)) (hx : OkPart x) : rPart l p = some (part x, p + (ePart x).length) := by
  obtain ⟨h0, h1, h2⟩ := hx
  unfold ePart at h
  rw [List.append_assoc] at h
  have a1 := h.app
  rw [big_len] at a1
  have e0 := r16_big h (by omega) (by omega)
  rw [wrap16_id h0 h1] at e0
  have e1 := rData_cnt a1 (by rw [bytesOf_length]; omega)
  have el : p + (ePart x).length = p + 2 + (cnt (bytesOf x.f1) 4).length := by
    unfold ePart
    rw [List.length_append, big_len]
    omega
  rw [el]
  unfold rPart
  rw [e0]
  simp only [Option.bind_some]
  rw [e1]
  rfl
theorem rPartList_at {l r : List Int} : ∀ (xs : List S63) (p : Nat), At l p (xs.flatMap ePart ++ r) → (∀ s ∈ xs, OkPart s) → rPartList l xs.length p = some (xs.map part, p + (xs.flatMap ePart).length)
  | [], p, h, _ => rfl
  | s :: xs, p, h, hs => by
    have hh : At l p (ePart s ++ (xs.flatMap ePart ++ r)) := by simpa using h
    have h2 := hh.app
    have e1 := rPart_at s hh (hs s (by simp))
    have e2 := rPartList_at xs _ h2 (fun y hy => hs y (by simp [hy]))
    have e3 : ((s :: xs).flatMap ePart).length = (ePart s).length + (xs.flatMap ePart).length := by simp
    show ((rPart l p).bind fun x => (rPartList l xs.length x.2).bind fun y => some (x.1 :: y.1, y.2)) = _
    rw [e1, e3]
    simp only [Option.bind_some]
    rw [e2]
    simp only [Option.bind_some]
    rw [Nat.add_assoc]
    rfl
theorem rParts_at {l r : List Int} {p : Nat} (xs : List S63) (h : At l p (eParts xs ++ r)) (hn : xs.length ≤ 10) (hx : ∀ s ∈ xs, OkPart s) : rParts l p = some (xs.map part, p + (eParts xs).length) := by
  unfold eParts at h
  rw [List.append_assoc] at h
  have a1 := h.app
  rw [big_len] at a1
  have e0 := r32_len h (by omega)
  have e1 := rPartList_at xs _ a1 hx
  have el : p + (eParts xs).length = p + 4 + (xs.flatMap ePart).length := by
    unfold eParts
    rw [List.length_append, big_len]
    omega
  rw [el]
  unfold rParts
  rw [e0]
  simp only [Option.bind_some, Int.toNat_natCast]
  rw [if_pos (by omega), e1]
theorem rType_at {l r : List Int} {p v : Nat} {n : Int} (h : At l p (eType v n ++ r)) (h0 : -32768 ≤ n) (h1 : n < 32768) : rType v l p = some (n, p + (eType v n).length) := by
  unfold eType at h
  rw [List.append_assoc] at h
  have a1 := h.app
  rw [big_len] at a1
  have e0 := r16_big h (by omega) (by omega)
  rw [wrap16_id h0 h1] at e0
  unfold rType eType
  rw [e0]
  simp only [Option.bind_some]
  by_cases hv : v = 3
  · rw [if_pos hv] at a1 ⊢
    have e1 := r16_big a1 (by omega) (by omega)
    rw [wrap16_id h0 h1] at e1
    rw [e1, if_pos hv, List.length_append, big_len, Nat.add_assoc]
  · rw [if_neg hv, if_neg hv, List.append_nil, big_len]
theorem r32_time {l r : List Int} {p : Nat} {n : Int} (h : At l p (big n 4 ++ r)) (hn : OkTime n) : r32 l p = some (n, p + 4) := by
  obtain ⟨h0, h1⟩ := hn
  have := r32_big h (by omega) (by omega)
  rwa [show wrap32 n = n from by unfold wrap32; omega] at this
def cred (c : S36) : PCred := ⟨prin c.f0, prin c.f1, c.f2, bytesOf c.f3, c.f4, c.f5, c.f6, c.f7, if c.f8 then 1 else 0, big c.f9 4, c.f10.map part, c.f11.map part, bytesOf c.f12, bytesOf c.f13⟩
theorem rCred_at {l r : List Int} {p v : Nat} (c : S36) (h : At l p (eCred v c ++ r)) (hc : OkCred c) : rCred v l p = some (cred c, p + (eCred v c).length) := by
  unfold eCred at h
  simp only [List.append_assoc] at h
  have a1 := h.app
  have a2 := a1.app
  have a3 := a2.app
  have a4 := a3.app
  have a5 := a4.app
  have a6 := a5.app
  have a7 := a6.app
  have a8 := a7.app
  have a9 := a8.app
  have a10 := a9.app
  have a11 := a10.app
  have a12 := a11.app
  have a13 := a12.app
  have e0 := rPrin_at c.f0 h hc.client
  have e1 := rPrin_at c.f1 a1 hc.server
  have e2 := rType_at a2 hc.kind.1 hc.kind.2
  have e3 := rData_cnt a3 (by rw [bytesOf_length]; have := hc.key; omega)
  have e4 := r32_time a4 hc.t1
  have e5 := r32_time a5 hc.t2
  have e6 := r32_time a6 hc.t3
  have e7 := r32_time a7 hc.t4
  have e8 := r8_big a8 (by split <;> omega) (by split <;> omega)
  have e9 := rBytes_at (s := 4) a9 (by rw [big_len]; rfl)
  have e10 := rParts_at c.f10 a10 hc.la hc.pa
  have e11 := rParts_at c.f11 a11 hc.lb hc.pb
  have e12 := rData_cnt a12 (by rw [bytesOf_length]; have := hc.tk; omega)
  have e13 := rData_cnt a13 (by rw [bytesOf_length]; have := hc.sc; omega)
  simp only [big_len] at e4 e5 e6 e7 e8 e9 e10 e11 e12 e13
  unfold rCred
  rw [e0]
  simp only [Option.bind_some]
  rw [e1]
  simp only [Option.bind_some]
  rw [e2]
  simp only [Option.bind_some]
  rw [e3]
  simp only [Option.bind_some]
  rw [e4]
  simp only [Option.bind_some]
  rw [e5]
  simp only [Option.bind_some]
  rw [e6]
  simp only [Option.bind_some]
  rw [e7]
  simp only [Option.bind_some]
  rw [e8]
  simp only [Option.bind_some]
  rw [e9]
  simp only [Option.bind_some]
  rw [e10]
  simp only [Option.bind_some]
  rw [e11]
  simp only [Option.bind_some]
  rw [e12]
  simp only [Option.bind_some]
  rw [e13]
  simp only [Option.bind_some]
  have el : p + (eCred v c).length = p + (eName c.f0).length + (eName c.f1).length + (eType v c.f2).length + (cnt (bytesOf c.f3) 4).length + 4 + 4 + 4 + 4 + 1 + 4 + (eParts c.f10).length + (eParts c.f11).length + (cnt (bytesOf c.f12) 4).length + (cnt (bytesOf c.f13) 4).length := by
    unfold eCred
    simp only [List.length_append, big_len]
    omega
  rw [el]
  rfl
theorem eCred_pos (v : Nat) (c : S36) : 4 < (eCred v c).length := by
  unfold eCred eName
  simp only [List.length_append, big_len]
  omega
theorem rCreds_at {l : List Int} {v : Nat} : ∀ (cs : List S36) (n p : Nat), At l p (cs.flatMap (eCred v)) → (∀ c ∈ cs, OkCred c) → cs.length < n → rCreds v l n p = some (cs.map cred)
  | [], n, p, h, _, hn => by
    obtain ⟨m, rfl⟩ : ∃ m, n = m + 1 := ⟨n - 1, by simp at hn; omega⟩
    have := h.len
    simp at this
    simp only [rCreds]
    rw [if_neg (by omega)]
    rfl
  | c :: cs, n, p, h, hc, hn => by
    obtain ⟨m, rfl⟩ : ∃ m, n = m + 1 := ⟨n - 1, by omega⟩
    have hh : At l p (eCred v c ++ cs.flatMap (eCred v)) := by simpa using h
    have hlen := hh.len
    rw [List.length_append] at hlen
    have hp := eCred_pos v c
    have e1 := rCred_at c hh (hc c (by simp))
    have e2 := rCreds_at cs m _ hh.app (fun y hy => hc y (by simp [hy])) (by simp at hn; omega)
    simp only [rCreds]
    rw [if_pos (by omega), e1]
    simp only [Option.bind_some]
    rw [e2]
    rfl
theorem creds_len (v : Nat) : ∀ cs : List S36, cs.length ≤ (cs.flatMap (eCred v)).length
  | [] => by simp
  | c :: cs => by
    have := creds_len v cs
    have := eCred_pos v c
    simp only [List.flatMap_cons, List.length_append, List.length_cons]
    omega
theorem rCache_at {l : List Int} {v q : Nat} {cl : S24} {cs : List S36} (h : At l q (eName cl ++ cs.flatMap (eCred v))) (hcl : OkName cl) (hc : ∀ c ∈ cs, OkCred c) : rCache v l q = some (prin cl, cs.map cred) := by
  have e0 := rPrin_at cl h hcl
  have hl := h.app.len
  have := creds_len v cs
  have e1 := rCreds_at cs (l.length + 1) _ h.app hc (by omega)
  unfold rCache
  rw [e0]
  simp only [Option.bind_some]
  rw [e1]
  rfl
/-- What a reader tells of more bytes it tells of fewer, if all it reads is there; else it tells nothing. -/
def Tight {α : Type} (r : List Int → Option (α × Nat)) (p : Nat) : Prop :=
  ∀ l a p', r l = some (a, p') → p ≤ p' ∧ ∀ n, (p' ≤ n → r (l.take n) = some (a, p')) ∧ (p ≤ n → n < p' → r (l.take n) = none)
theorem Tight.pure {α : Type} (a : α) (p : Nat) : Tight (fun _ => some (a, p)) p := by
  intro l b p' h
  obtain ⟨rfl, rfl⟩ := Prod.mk.inj (Option.some.inj h)
  exact ⟨Nat.le_refl _, fun n => ⟨fun _ => rfl, fun _ _ => by omega⟩⟩
theorem Tight.bind {α β : Type} {f : List Int → Option (α × Nat)} {g : α × Nat → List Int → Option (β × Nat)} {p : Nat} (hf : Tight f p) (hg : ∀ x : α × Nat, p ≤ x.2 → Tight (g x) x.2) : Tight (fun l => (f l).bind fun x => g x l) p := by
  intro l b p' h
  obtain ⟨⟨a, q⟩, h1, h2⟩ := Option.bind_eq_some_iff.1 h
  obtain ⟨k1, k2⟩ := hf l a q h1
  obtain ⟨k3, k4⟩ := hg (a, q) k1 l b p' h2
  refine ⟨Nat.le_trans k1 k3, fun n => ⟨fun hn => ?_, fun h0 hn => ?_⟩⟩
  · show ((f (l.take n)).bind fun x => g x (l.take n)) = some (b, p')
    rw [(k2 n).1 (Nat.le_trans k3 hn), Option.bind_some]
    exact (k4 n).1 hn
  · show ((f (l.take n)).bind fun x => g x (l.take n)) = none
    by_cases hq : n < q
    · rw [(k2 n).2 h0 hq, Option.bind_none]
    · rw [(k2 n).1 (by omega), Option.bind_some]
      exact (k4 n).2 (by omega) hn
theorem getD_take (l : List Int) (n i : Nat) (h : i < n) : (l.take n).getD i 0 = l.getD i 0 := by
  rw [List.getD_eq_getElem?_getD, List.getD_eq_getElem?_getD, List.getElem?_take_of_lt h]
theorem tight_r8 (p : Nat) : Tight (fun l => r8 l p) p := by
  intro l a p' h
  unfold r8 at h
  dsimp only at h
  split at h
  · rename_i hp
    obtain ⟨rfl, rfl⟩ := Prod.mk.inj (Option.some.inj h)
    refine ⟨by omega, fun n => ⟨fun hn => ?_, fun h0 hn => ?_⟩⟩
    · show r8 (l.take n) p = _
      unfold r8
      rw [if_pos (by rw [List.length_take]; omega), getD_take _ _ _ (by omega)]
    · show r8 (l.take n) p = _
      unfold r8
      rw [if_neg (by rw [List.length_take]; omega)]
  · cases h
theorem tight_r16 (p : Nat) : Tight (fun l => r16 l p) p := by
  intro l a p' h
  unfold r16 at h
  dsimp only at h
  split at h
  · rename_i hp
    obtain ⟨rfl, rfl⟩ := Prod.mk.inj (Option.some.inj h)
    refine ⟨by omega, fun n => ⟨fun hn => ?_, fun h0 hn => ?_⟩⟩
    · show r16 (l.take n) p = _
      unfold r16 u16
      rw [if_pos (by rw [List.length_take]; omega), getD_take _ _ _ (by omega), getD_take _ _ _ (by omega)]
    · show r16 (l.take n) p = _
      unfold r16
      rw [if_neg (by rw [List.length_take]; omega)]
  · cases h
theorem tight_r32 (p : Nat) : Tight (fun l => r32 l p) p := by
  intro l a p' h
  unfold r32 at h
  dsimp only at h
  split at h
  · rename_i hp
    obtain ⟨rfl, rfl⟩ := Prod.mk.inj (Option.some.inj h)
    refine ⟨by omega, fun n => ⟨fun hn => ?_, fun h0 hn => ?_⟩⟩
    · show r32 (l.take n) p = _
      unfold r32 u32
      rw [if_pos (by rw [List.length_take]; omega), getD_take _ _ _ (by omega), getD_take _ _ _ (by omega), getD_take _ _ _ (by omega), getD_take _ _ _ (by omega)]
    · show r32 (l.take n) p = _
      unfold r32
      rw [if_neg (by rw [List.length_take]; omega)]
  · cases h
theorem tight_rBytes (p : Nat) (s : Int) : Tight (fun l => rBytes l p s) p := by
  intro l a p' h
  unfold rBytes at h
  dsimp only at h
  split at h
  · rename_i hp
    obtain ⟨rfl, rfl⟩ := Prod.mk.inj (Option.some.inj h)
    refine ⟨by omega, fun n => ⟨fun hn => ?_, fun h0 hn => ?_⟩⟩
    · show rBytes (l.take n) p s = _
      have hc : 0 ≤ s ∧ (p : Int) + s ≤ (l.take n).length := by rw [List.length_take]; omega
      have he : ((l.take n).drop p).take s.toNat = (l.drop p).take s.toNat := by
        rw [List.drop_take, List.take_take, Nat.min_eq_left (by omega)]
      unfold rBytes
      rw [if_pos hc, he]
    · show rBytes (l.take n) p s = _
      have hc : ¬ (0 ≤ s ∧ (p : Int) + s ≤ (l.take n).length) := by rw [List.length_take]; omega
      unfold rBytes
      rw [if_neg hc]
  · cases h
theorem tight_rData (p : Nat) : Tight (fun l => rData l p) p := Tight.bind (tight_r32 p) fun x _ => tight_rBytes x.2 x.1
theorem tight_rPart (p : Nat) : Tight (fun l => rPart l p) p := Tight.bind (tight_r16 p) fun x _ => Tight.bind (tight_rData x.2) fun y _ => Tight.pure _ _
theorem tight_rPartList : ∀ (n p : Nat), Tight (fun l => rPartList l n p) p
  | 0, p => Tight.pure _ _
  | n + 1, p => Tight.bind (tight_rPart p) fun x _ => Tight.bind (tight_rPartList n x.2) fun y _ => Tight.pure _ _
theorem tight_rParts (p : Nat) : Tight (fun l => rParts l p) p := Tight.bind (tight_r32 p) fun x _ => by
  by_cases h : 0 ≤ x.1
  · simp only [h, if_true]
    exact tight_rPartList _ _
  · simp only [h, if_false]
    intro l a p' h
    cases h
theorem tight_rNames : ∀ (n p : Nat), Tight (fun l => rNames l n p) p
  | 0, p => Tight.pure _ _
  | n + 1, p => Tight.bind (tight_rData p) fun x _ => Tight.bind (tight_rNames n x.2) fun y _ => Tight.pure _ _
theorem tight_rPrin (p : Nat) : Tight (fun l => rPrin l p) p :=
  Tight.bind (tight_r32 p) fun k _ => Tight.bind (tight_r32 k.2) fun n _ => Tight.bind (tight_rData n.2) fun r _ => Tight.bind (tight_rNames _ r.2) fun m _ => Tight.pure _ _
theorem tight_rType (v p : Nat) : Tight (fun l => rType v l p) p := Tight.bind (tight_r16 p) fun k _ => by
  by_cases h : v = 3
  · simp only [h, if_true]
    exact tight_r16 _
  · simp only [h, if_false]
    exact Tight.pure _ _
theorem tight_rCred (v p : Nat) : Tight (fun l => rCred v l p) p :=
  Tight.bind (tight_rPrin p) fun c _ => Tight.bind (tight_rPrin c.2) fun s _ => Tight.bind (tight_rType v s.2) fun kt _ => Tight.bind (tight_rData kt.2) fun key _ => Tight.bind (tight_r32 key.2) fun t1 _ => Tight.bind (tight_r32 t1.2) fun t2 _ =>
  Tight.bind (tight_r32 t2.2) fun t3 _ => Tight.bind (tight_r32 t3.2) fun t4 _ => Tight.bind (tight_r8 t4.2) fun ik _ => Tight.bind (tight_rBytes ik.2 4) fun fl _ => Tight.bind (tight_rParts fl.2) fun ad _ => Tight.bind (tight_rParts ad.2) fun au _ =>
  Tight.bind (tight_rData au.2) fun tk _ => Tight.bind (tight_rData tk.2) fun sc _ => Tight.pure _ _
theorem cut_creds {l : List Int} {v n : Nat} (c : S36) (hc : OkCred c) : ∀ (cs : List S36) (m p : Nat), At l p (cs.flatMap (eCred v) ++ eCred v c) → (∀ c ∈ cs, OkCred c) → p + (cs.flatMap (eCred v)).length < n → n < l.length → rCreds v (l.take n) m p = none
  | [], m, p, h, _, h1, h2 => by
    have hh : At l p (eCred v c ++ []) := by simpa using h
    have hl := hh.len
    rw [List.append_nil] at hl
    have e := rCred_at c hh hc
    have hn := ((tight_rCred v p l _ _ e).2 n).2 (by simp at h1; omega) (by omega)
    cases m with
    | zero => rfl
    | succ m =>
      simp only [rCreds]
      rw [if_pos (by rw [List.length_take]; simp at h1; omega)]
      have hn' : rCred v (l.take n) p = none := hn
      rw [hn', Option.bind_none]
  | d :: cs, m, p, h, hd, h1, h2 => by
    have hh : At l p (eCred v d ++ (cs.flatMap (eCred v) ++ eCred v c)) := by simpa using h
    have hl := hh.len
    have e := rCred_at d hh (hd d (by simp))
    have hlen : ((d :: cs).flatMap (eCred v)).length = (eCred v d).length + (cs.flatMap (eCred v)).length := by simp
    have hp := eCred_pos v d
    have hn := ((tight_rCred v p l _ _ e).2 n).1 (by omega)
    cases m with
    | zero => rfl
    | succ m =>
      simp only [rCreds]
      rw [if_pos (by rw [List.length_take]; omega)]
      have hn' : rCred v (l.take n) p = some (cred d, p + (eCred v d).length) := hn
      rw [hn', Option.bind_some]
      rw [cut_creds c hc cs m _ hh.app (fun y hy => hd y (by simp [hy])) (by omega) h2, Option.bind_none]
theorem rCache_cut {l : List Int} {v q n : Nat} {cl : S24} {cs : List S36} {c : S36} (h : At l q (eName cl ++ (cs ++ [c]).flatMap (eCred v))) (hcl : OkName cl) (hcs : ∀ c ∈ cs, OkCred c) (hc : OkCred c)
    (h1 : l.length < n + (eCred v c).length) (h2 : n < l.length) : rCache v (l.take n) q = none := by
  have hh : At l (q + (eName cl).length) (cs.flatMap (eCred v) ++ eCred v c) := by
    have := h.app
    simpa using this
  have hl := hh.len
  rw [List.length_append] at hl
  have e := rPrin_at cl h hcl
  have hn : rPrin (l.take n) q = some (prin cl, q + (eName cl).length) := ((tight_rPrin q l _ _ e).2 n).1 (by omega)
  unfold rCache
  rw [hn, Option.bind_some]
  rw [cut_creds c hc cs _ _ hh hcs (by omega) h2, Option.bind_none]
/-! ### The header -/
def version (a : Int) : Nat := if a % 2 = 0 then 3 else 4
theorem head_at (v : Nat) (offs : List Int) (r : List Int) : At (eHead v offs ++ r) (eHead v offs).length r := ⟨by simp, List.drop_left⟩
theorem readHead3 (r : List Int) : readHead (eHead 3 [] ++ r) = some (3, 2) := by
  unfold readHead eHead
  simp
theorem cutHead3 (offs r : List Int) (n : Nat) (hn : 2 ≤ n) : readHead ((eHead 3 offs ++ r).take n) = some (3, 2) := by
  obtain ⟨m, rfl⟩ : ∃ m, n = m + 2 := ⟨n - 2, by omega⟩
  unfold readHead eHead
  simp
theorem cutHead4 (r : List Int) (n : Nat) (hn : 4 ≤ n) : readHead ((eHead 4 [] ++ r).take n) = some (4, 4) := by
  obtain ⟨m, rfl⟩ : ∃ m, n = m + 4 := ⟨n - 4, by omega⟩
  have e : (eHead 4 [] ++ r).take (m + 4) = 5 :: 4 :: 0 :: 0 :: r.take m := by
    unfold eHead cnt eOffs
    rw [big2]
    simp
  rw [e]
  unfold readHead rHeader
  simp [u16, rFields]
end Go.Proofs.Ytnipcocllhfaoaa.P

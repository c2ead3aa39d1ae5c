/- Go functions of this seat come to the answers of the Lean functions that stand here ('.calls'), under what each theorem states and nothing else. Written by pw.py, a program of this session, with texts of its own. -/
import Derived.Test.YthgcpicflmigjaaQ0
namespace Go.Proofs.Ythgcpicflmigjaa.Q
open Go.RowKit Go.Proofs.YthgcpicflmigjaaW.PrintWords Go.Proofs.YthgcpicflmigjaaW.PrintLast Go.Proofs.YthgcpicflmigjaaW.PrintMore
attribute [local go_sem] max2_int min2_int max_two min_two max_three min_three max_four min_four   -- for this text's walks alone
set_option linter.unusedVariables false
set_option linter.unusedSimpArgs false
set_option maxRecDepth 100000

/-! ### asn1tools_GetLengthFromASN: function 40 -/
-- EXT rounds=0 making=0
/-- The number that bytes tell, the highest one first. -/
def beVal : List Int → Int
  | [] => 0
  | x :: l => x * 256 ^ l.length + beVal l
def bytesIn (l : List Int) : Bool := l.all fun x => decide (0 ≤ x) && decide (x ≤ 255)
def asn1tools_GetLengthFromASN.f (l0 : List Int) : Option Int :=
  if bytesIn l0 = true then
    if 2 ≤ l0.length then
      if rd l0 1 ≤ 127 then some (rd l0 1)
      else if rd l0 1 ≤ 134 ∧ 2 + (rd l0 1 - 128) ≤ (l0.length : Int) then some (beVal ((l0.take (rd l0 1 - 126).toNat).drop 2))
      else none
    else none
  else none
theorem bytesIn_mem {l : List Int} (h : bytesIn l = true) : ∀ x ∈ l, 0 ≤ x ∧ x ≤ 255 := fun x hx => by
  have := List.all_eq_true.1 h x hx
  simpa using this
theorem bytesIn_of {l : List Int} (h : ∀ x ∈ l, 0 ≤ x ∧ x ≤ 255) : bytesIn l = true := List.all_eq_true.2 fun x hx => by simpa using h x hx
theorem pow256_pos (n : Nat) : (0 : Int) < 256 ^ n := by
  induction n with
  | zero => simp
  | succ n ih => rw [Int.pow_succ]; omega
theorem pow256_le {n m : Nat} (h : n ≤ m) : (256 : Int) ^ n ≤ 256 ^ m := by
  obtain ⟨d, rfl⟩ : ∃ d, m = n + d := ⟨m - n, by omega⟩
  clear h
  induction d with
  | zero => simp
  | succ d ih => rw [← Nat.add_assoc, Int.pow_succ]; have := pow256_pos (n + d); omega
theorem beVal_range {l : List Int} (h : ∀ x ∈ l, 0 ≤ x ∧ x ≤ 255) : 0 ≤ beVal l ∧ beVal l < 256 ^ l.length := by
  induction l with
  | nil => simp [beVal]
  | cons x l ih =>
    have h1 := ih fun y hy => h y (List.mem_cons_of_mem _ hy)
    have h2 := h x List.mem_cons_self
    have hp := pow256_pos l.length
    have h3 : 0 ≤ x * 256 ^ l.length := Int.mul_nonneg h2.1 (by omega)
    have h4 : x * 256 ^ l.length ≤ 255 * 256 ^ l.length := Int.mul_le_mul_of_nonneg_right h2.2 (by omega)
    simp only [beVal, List.length_cons]
    rw [Int.pow_succ]
    omega
theorem rd_drop {lb : List Int} {x : Int} (h0 : 0 ≤ x) (h1 : x < lb.length) : lb.drop x.toNat = rd lb x :: lb.drop (x + 1).toNat := by
  have h : x.toNat < lb.length := by omega
  rw [List.drop_eq_getElem_cons h, rd, List.getD_eq_getElem?_getD, List.getElem?_eq_getElem h]
  rw [show (x + 1).toNat = x.toNat + 1 from by omega]
  rfl
theorem beVal_step {lb : List Int} {x : Int} (hb : ∀ y ∈ lb, 0 ≤ y ∧ y ≤ 255) (hl : lb.length ≤ 6) (h0 : 0 ≤ x) (h1 : x < lb.length) :
    wrap64 (beVal (lb.drop (x + 1).toNat) + wrap64 (rd lb x * 256 ^ ((lb.length : Int) - 1 - x).toNat)) = beVal (lb.drop x.toNat) := by
  have hr := beVal_range (l := lb.drop x.toNat) fun y hy => hb y (List.mem_of_mem_drop hy)
  have hr2 := beVal_range (l := lb.drop (x + 1).toNat) fun y hy => hb y (List.mem_of_mem_drop hy)
  have hp : (256 : Int) ^ (lb.drop x.toNat).length ≤ 256 ^ 6 := pow256_le (by rw [List.length_drop]; omega)
  rw [rd_drop h0 h1] at hr hp ⊢
  have he : ((lb.length : Int) - 1 - x).toNat = (lb.drop (x + 1).toNat).length := by rw [List.length_drop]; omega
  rw [he]
  have hm := hb (rd lb x) (by have h := rd_drop h0 h1; exact List.mem_of_mem_drop (h ▸ List.mem_cons_self))
  have h3 : 0 ≤ rd lb x * 256 ^ (lb.drop (x + 1).toNat).length := Int.mul_nonneg hm.1 (by have := pow256_pos (lb.drop (x + 1).toNat).length; omega)
  simp only [beVal] at hr ⊢
  generalize rd lb x * 256 ^ (lb.drop (x + 1).toNat).length = q at *
  generalize beVal (lb.drop (x + 1).toNat) = v at *
  have hq : (256 : Int) ^ 6 = 281474976710656 := by decide
  rw [hq] at hp
  have h5 := hr.2
  generalize (256 : Int) ^ (rd lb x :: lb.drop (x + 1).toNat).length = z at *
  have e1 : wrap64 q = q := by unfold wrap64; omega
  rw [e1]
  rw [Int.add_comm]
  unfold wrap64; omega
theorem base_step {n : Nat} {x : Int} (hl : n ≤ 6) (h0 : 0 ≤ x) (h1 : x < n) :
    wrap64 (256 ^ ((n : Int) - 1 - x).toNat * 256) = 256 ^ ((n : Int) - 1 - (x - 1)).toNat := by
  rw [show ((n : Int) - 1 - (x - 1)).toNat = ((n : Int) - 1 - x).toNat + 1 from by omega, Int.pow_succ]
  have hp : (256 : Int) ^ ((n : Int) - 1 - x).toNat ≤ 256 ^ 6 := pow256_le (by omega)
  have h2 := pow256_pos ((n : Int) - 1 - x).toNat
  have hq : (256 : Int) ^ 6 = 281474976710656 := by decide
  rw [hq] at hp
  unfold wrap64; omega
set_option maxHeartbeats 800000 in
theorem asn1tools_GetLengthFromASN.calls (A0 : Option Addr) (c0 : Nat) (l0 : List Int) (r : Int) (w : World) (hr0 : Kd.C (Kd.int .u8) w A0 l0.length l0) (hc0 : l0.length ≤ c0) (h : asn1tools_GetLengthFromASN.f l0 = some r) :
    Calls Try.prog 40 #[.slice A0 l0.length c0] w fun e w' => e = .returned (.int .i64 r) ∧ Drawn0 w w' := by
  unfold asn1tools_GetLengthFromASN.f at h
  by_cases hb : bytesIn l0 = true
  case neg => rw [if_neg hb] at h; cases h
  rw [if_pos hb] at h
  by_cases h2 : 2 ≤ l0.length
  case neg => rw [if_neg h2] at h; cases h
  rw [if_pos h2] at h
  have HR0 := Aside0.mk hr0
  obtain ⟨ad, rfl, hx1⟩ := Kd.at_int hr0 1 (by omega) (by omega)
  have hq : (1 : Nat) < l0.length := by omega
  have hbd : 0 ≤ rd l0 1 ∧ rd l0 1 ≤ 255 := by
    have := List.all_eq_true.1 hb (rd l0 1) (by unfold rd; rw [List.getD_eq_getElem?_getD, List.getElem?_eq_getElem (by simpa using hq)]; exact List.getElem_mem _)
    simpa using this
  obtain ⟨hb0, hb1⟩ := hbd
  have hx : w.cell? ⟨ad.block, ad.off + 1, none⟩ = some (.int .u8 (rd l0 1)) := by have h' := hx1; simpa [Addr.add] using h'
  have HB := Aside0.mk hb
  clear hb hr0
  by_cases h7 : rd l0 1 ≤ 127
  · rw [if_pos h7] at h
    obtain rfl := Option.some.inj h
    clear h
    go_enter Try.func40, Try.ntmps40
    go_wp2
    go_ret
    exact ⟨rfl, Drawn0.refl _⟩
  · rw [if_neg h7] at h
    by_cases h8 : rd l0 1 ≤ 134 ∧ 2 + (rd l0 1 - 128) ≤ (l0.length : Int)
    case neg => rw [if_neg h8] at h; cases h
    rw [if_pos h8] at h
    obtain ⟨h9, h10⟩ := h8
    obtain rfl := Option.some.inj h
    obtain ⟨i0, hi0, _, hsz, _⟩ := info_parts info5
    obtain ⟨A6, hcut, hA6, hC6⟩ := print_mid_of (P := Try.prog) (Value.int .u8) 0 25 5 .i64 .i64 Try.underlying25 hi0 hsz (some ad) c0 l0 2 (rd l0 1 - 126) (by omega) (by omega) (by omega) hc0
    have HRl := Aside0.mk (Kd.C_of_reads (h1 := fun _ => rfl) (hA6 _ (Kd.reads_of_C HR0.out)))
    have hll : (List.drop (Int.toNat 2) (List.take (rd l0 1 - 126).toNat l0)).length = (rd l0 1 - 128).toNat := by
      rw [List.length_drop, List.length_take]; omega
    clear h hA6 hi0 hsz h10 hx1
    generalize hlb : List.drop (Int.toNat 2) (List.take (rd l0 1 - 126).toNat l0) = lb at *
    have hby : ∀ x ∈ lb, 0 ≤ x ∧ x ≤ 255 := fun x hx => bytesIn_mem HB.out x (List.mem_of_mem_take (List.mem_of_mem_drop (hlb ▸ hx)))
    have HBy := Aside0.mk hby
    have HL := Aside0.mk hlb
    have hl6 : lb.length ≤ 6 := by omega
    have HLL := Aside0.mk hll
    have hcut' : ∀ W : World, (Instr.slice 25 (.slice (some ad) l0.length c0) (some (.int .i64 2)) (some (.int .i64 (2 + rd l0 1 - 128))) none).run Try.prog W = .ok (.slice A6 lb.length (c0 - 2)) W := by
      intro W; rw [show (2 + rd l0 1 - 128 : Int) = rd l0 1 - 126 from by omega]; exact hcut W
    clear hcut hlb hby hll
    go_enter Try.func40, Try.ntmps40
    go_wp2
    go_loop [4, 5, 6] (fun b l i => ∃ x : Int, -1 ≤ x ∧ x < lb.length ∧ i = .int .i64 x ∧ b = .int .i64 (256 ^ ((lb.length : Int) - 1 - x).toNat) ∧ l = .int .i64 (beVal (lb.drop (x + 1).toNat))) (fun _ _ i => (intOf i + 1).toNat)
    case atStart =>
      refine ⟨(lb.length : Int) - 1, by omega, by omega, rfl, ?_, ?_⟩
      · rw [show ((lb.length : Int) - 1 - (lb.length - 1)).toNat = 0 from by omega]; rfl
      · rw [List.drop_eq_nil_of_le (by omega)]; rfl
    case round =>
      obtain ⟨x, hx0, hx1, rfl, rfl, rfl⟩ := hrel
      by_cases hx2 : 0 ≤ x
      · obtain ⟨ad2, rfl, hc2⟩ := Kd.at_int HRl.out x hx2 hx1
        obtain ⟨hy0, hy1⟩ := HBy.out (rd lb x) (by have h := rd_drop hx2 hx1; exact List.mem_of_mem_drop (h ▸ List.mem_cons_self))
        have HS := Aside0.mk (beVal_step HBy.out hl6 hx2 hx1)
        have HS2 := Aside0.mk (base_step hl6 hx2 hx1)
        generalize beVal (lb.drop (x + 1).toNat) = v1 at *
        generalize hb1 : (256 : Int) ^ ((lb.length : Int) - 1 - x).toNat = b1 at *
        clear hb1
        go_wp2
        go_round
        case rel => exact ⟨x - 1, by omega, by omega, rfl, by rw [← HS2.out], by rw [show x - 1 + 1 = x from by omega, ← HS.out]⟩
        case measure => simp [intOf]; omega
      · obtain rfl : x = -1 := by omega
        go_wp2
        go_ret
        exact ⟨by show Ending.returned (.int .i64 (beVal lb)) = _; rw [← HL.out]; rfl, Drawn0.refl _⟩

end Go.Proofs.Ythgcpicflmigjaa.Q

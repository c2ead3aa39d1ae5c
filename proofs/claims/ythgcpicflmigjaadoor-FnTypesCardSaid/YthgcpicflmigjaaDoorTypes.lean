/- The names of encryption types: what each function that the law calls gives back, and the law's walk: where the listed map reads as the row lists it. -/
import Derived.Test.YthgcpicflmigjaaDoorTie
import Derived.ProofKit
import Derived.WalkKit
import Derived.WalkSpells
import Derived.LaidMore
import Derived.WideKeyMaps2
import Derived.StringKeys
namespace Go.Proofs.YthgcpicflmigjaaDoor
open Go.RowKit

/-- The number that stands behind a name in the listed map, 0 where there is none. -/
noncomputable def num (l : List UInt8) : Int := match (Rows.laid_pub_portress_pub_gokrb5_iana_etypeID_ETypesByName (H := Unit)).atKey (.string l) (.lit (.int .i32 0)) with
  | .lit (.int _ n) => n
  | _ => 0
def numbers : List Int := [17, 18, 19, 20, 16, 23]
def supAt (n : Int) : List Int → Int
  | [] => 0
  | x :: r => if n = x then n else supAt n r
def sup (n : Int) : Int := if n = 0 then 0 else supAt n numbers
theorem supAt_or (n : Int) : ∀ l, supAt n l = 0 ∨ supAt n l = n
  | [] => .inl rfl
  | x :: r => by
    rw [supAt]
    by_cases h : n = x
    · rw [if_pos h]; exact .inr rfl
    · rw [if_neg h]; exact supAt_or n r
theorem sup_or (n : Int) : sup n = 0 ∨ sup n = n := by
  unfold sup
  by_cases h : n = 0
  · rw [if_pos h]; exact .inl rfl
  · rw [if_neg h]; exact supAt_or n _

/-- The map lies there, and each look-up gives the listed number. -/
def TabAt (w : World) : Prop := ∃ bm es clock, w.cell? ⟨0, 0, none⟩ = some (.map (some bm)) ∧ w.heap[bm]? = some (.map es clock) ∧
  ∀ W : World, W.heap[bm]? = some (.map es clock) → ∀ s : ByteArray, s.size ≤ maxLen → (Instr.lookup 27 (.map (some bm)) (.string s) false).run Tryd.prog W = .ok (.int .i32 (num s.data.toList)) W
theorem TabAt.below {w w' : World} (h : TabAt w) (hb : Below w.heap.size w w') : TabAt w' := by
  obtain ⟨bm, es, clock, h0, h1, h2⟩ := h
  refine ⟨bm, es, clock, (hb.cell (World.block_lt_of_cell? w _ h0)).trans h0, (hb.block bm ?_).trans h1, h2⟩
  exact (Array.getElem?_eq_some_iff.1 h1).1

theorem byName (s : ByteArray) (w : World) (hT : TabAt w) (hs : s.size ≤ maxLen) :
    Calls Tryd.prog 5 #[.string s] w fun e w' => e = .returned (.int .i32 (num s.data.toList)) ∧ w' = w := by
  obtain ⟨bm, es, clock, h0, h1, h2⟩ := hT
  have hrun := h2 w h1 s hs
  clear h2 h1
  go_enter Tryd.func5, Tryd.ntmps5
  go_wp2
  go_ret
  exact ⟨rfl, rfl⟩
set_option maxHeartbeats 800000 in
theorem supported (s : ByteArray) (w : World) (hT : TabAt w) (hs : s.size ≤ maxLen) :
    Calls Tryd.prog 8 #[.string s] w fun e w' => e = .returned (.int .i32 (sup (num s.data.toList))) ∧ Below w.heap.size w w' := by
  obtain ⟨bm, es, clock, h0, h1, h2⟩ := hT
  have hbm : bm < w.heap.size := (Array.getElem?_eq_some_iff.1 h1).1
  have hz : 0 < w.heap.size := World.block_lt_of_cell? w _ h0
  have hrun := fun (o : Obj) => h2 (w.alloc o) (((Below.refl w.heap.size w).alloc (Nat.le_refl _) o).block bm hbm |>.trans h1) s hs
  have hcell := fun (o : Obj) => (((Below.refl w.heap.size w).alloc (Nat.le_refl _) o).cell (p := ⟨0, 0, none⟩) hz).trans h0
  clear h2 h1
  obtain ⟨n, hn⟩ : ∃ n, n = num s.data.toList := ⟨_, rfl⟩
  rw [← hn] at hrun ⊢
  clear hn
  by_cases hn0 : n = 0
  · subst hn0
    go_enter Tryd.func8, Tryd.ntmps8
    go_wp2
    go_ret
    exact ⟨rfl, (Below.refl w.heap.size w).alloc (Nat.le_refl _) _⟩
  have hsup : sup n = supAt n numbers := by unfold sup; rw [if_neg hn0]
  rw [hsup]
  have hne : (n == 0) = false := by simpa using hn0
  clear hn0 hsup
  go_enter Tryd.func8, Tryd.ntmps8
  go_wp2
  clear hrun hcell hne h0
  obtain ⟨w1, hw1, hB, hat⟩ : ∃ w1, w1 = (w.alloc (Obj.cells #[.int .i32 17, .int .i32 18, .int .i32 19, .int .i32 20, .int .i32 16, .int .i32 23] 21)) ∧ Below w.heap.size w w1 ∧
      ∀ j : Nat, j < 6 → w1.cell? ⟨w.heap.size, j, none⟩ = some (.int .i32 (numbers.getD j 0)) := by
    refine ⟨_, rfl, (Below.refl w.heap.size w).alloc (Nat.le_refl _) _, fun j hj => ?_⟩
    match j, hj with
    | 0, _ => simp [go_sem, numbers]
    | 1, _ => simp [go_sem, numbers]
    | 2, _ => simp [go_sem, numbers]
    | 3, _ => simp [go_sem, numbers]
    | 4, _ => simp [go_sem, numbers]
    | 5, _ => simp [go_sem, numbers]
  rw [← hw1]
  clear hw1
  have HAT : Hid (∀ j : Nat, j < 6 → w1.cell? ⟨w.heap.size, j, none⟩ = some (.int .i32 (numbers.getD j 0))) := hat
  clear hat
  go_loop [16] (fun v => ∃ k : Nat, k ≤ 6 ∧ v = .int .i64 k ∧ supAt n (numbers.drop k) = supAt n numbers) (fun i => 6 - (intOf i).toNat)
  case atStart => exact ⟨0, by omega, rfl, rfl⟩
  case round =>
    obtain ⟨k, hk, rfl, hd⟩ := hrel
    by_cases hlt : k < 6
    · have hc := HAT.out k hlt
      have hdr : numbers.drop k = numbers.getD k 0 :: numbers.drop (k + 1) := by
        match k, hlt with
        | 0, _ => rfl
        | 1, _ => rfl
        | 2, _ => rfl
        | 3, _ => rfl
        | 4, _ => rfl
        | 5, _ => rfl
      rw [hdr, supAt] at hd
      have hl1 : decide ((k : Int) < 6) = true := decide_eq_true (by omega)
      generalize numbers.getD k 0 = x at hc hd
      clear hdr
      by_cases hx : n = x
      · rw [if_pos hx] at hd
        have hx1 : (n == x) = true := by simpa using hx
        have HD : Hid (n = supAt n numbers) := hd
        clear hx hd
        go_wp2
        go_ret
        exact ⟨congrArg (fun z => Ending.returned (Value.int .i32 z)) HD.out, hB⟩
      · rw [if_neg hx] at hd
        have hx1 : (n == x) = false := by simpa using hx
        clear hx
        go_wp2
        go_round
        · exact ⟨k + 1, by omega, by go_num, hd⟩
        · show 6 - ((k : Int) + 1).toNat < 6 - ((k : Int)).toNat
          omega
    · obtain rfl : k = 6 := by omega
      go_wp2
      go_ret
      exact ⟨by rw [← hd]; rfl, hB⟩
theorem bySupported (s : ByteArray) (w : World) (hT : TabAt w) (hs : s.size ≤ maxLen) :
    Calls Tryd.prog 7 #[.string s] w fun e w' => e = .returned (.int .i32 (sup (num s.data.toList))) ∧ Below w.heap.size w w' := by
  go_enter Tryd.func7, Tryd.ntmps7
  go_wp2_with (go_at_call 8; refine (supported s _ hT hs).mono ?_; rintro e w' ⟨rfl, hB⟩)
  go_ret
  exact ⟨rfl, hB⟩
/-- What the other table says of a name: a number and whether there is one: where there is one, it is the listed map's. -/
def Told (s : ByteArray) (w : World) (e : Ending) (w' : World) : Prop := ∃ (n : Int) (is : Bool), e = .returned (.tuple #[.int .i32 n, .bool is]) ∧ (is = true → num s.data.toList = n) ∧ w' = w
set_option maxHeartbeats 1600000 in
theorem typeNumber (s : ByteArray) (w : World) : Calls Tryd.prog 6 #[.string s] w (Told s w) := by
  go_enter Tryd.func6, Tryd.ntmps6
  go_wp2
  all_goals first
    | (rename_i h; go_ret2; refine ⟨_, _, rfl, fun _ => ?_, rfl⟩; rw [← ByteArray.toList_eq, eq_of_beq h]; decide +kernel)
    | (go_ret2; exact ⟨_, _, rfl, (fun h => by cases h), rfl⟩)
theorem awake (w : World) (hT : TabAt w) : Calls Tryd.prog 4 #[] w fun e w' => e = .returned (.bool true) ∧ Below w.heap.size w w' := by
  have hn : num (⟨#[97, 101, 115, 50, 53, 54, 45, 99, 116, 115, 45, 104, 109, 97, 99, 45, 115, 104, 97, 49, 45, 57, 54]⟩ : ByteArray).data.toList = 18 := by decide +kernel
  have hs : sup 18 = 18 := by decide +kernel
  have h1 := byName ⟨#[97, 101, 115, 50, 53, 54, 45, 99, 116, 115, 45, 104, 109, 97, 99, 45, 115, 104, 97, 49, 45, 57, 54]⟩ w hT (by decide +kernel)
  have h2 := bySupported ⟨#[97, 101, 115, 50, 53, 54, 45, 99, 116, 115, 45, 104, 109, 97, 99, 45, 115, 104, 97, 49, 45, 57, 54]⟩ w hT (by decide +kernel)
  rw [hn] at h1 h2
  rw [hs] at h2
  go_enter Tryd.func4, Tryd.ntmps4
  go_wp2_with (first | (go_at_call 5; refine h1.mono ?_; rintro e w' ⟨rfl, rfl⟩) | (go_at_call 7; refine h2.mono ?_; rintro e w' ⟨rfl, hB⟩))
  go_ret
  exact ⟨rfl, hB⟩
set_option maxHeartbeats 1600000 in
theorem law_any (s : ByteArray) (w : World) (hT : TabAt w) (hs : s.size ≤ 140737488351232) : Calls Tryd.prog 3 #[.string s] w fun e w' => e = .returned (.bool true) ∧ Below w.heap.size w w' := by
  have hm : s.size ≤ maxLen := by unfold maxLen; omega
  obtain ⟨n, hn⟩ : ∃ n, n = num s.data.toList := ⟨_, rfl⟩
  have h1 := byName s w hT hm
  have h2 := typeNumber s w
  have h3 := bySupported s w hT hm
  unfold Told at h2
  have hsup := sup_or (num s.data.toList)
  rw [← hn] at h1 h2 h3 hsup
  clear hn
  have HT : Hid (TabAt w) := hT
  clear hT
  generalize sup n = m at h3 hsup
  by_cases c1 : (s.size : Int) > 2147483647
  · go_enter Tryd.func3, Tryd.ntmps3
    go_wp2
    go_ret
    exact ⟨rfl, Below.refl _ _⟩
  by_cases c2 : (s.size : Int) > 100
  · go_enter Tryd.func3, Tryd.ntmps3
    go_wp2_with (go_at_call 4; refine (awake _ HT.out).mono ?_; rintro e w' ⟨rfl, hB⟩)
    go_ret
    exact ⟨rfl, hB⟩
  go_enter Tryd.func3, Tryd.ntmps3
  go_wp2_with (first
    | (go_at_call 5; refine h1.mono ?_; rintro e w' ⟨rfl, rfl⟩)
    | (go_at_call 6; refine h2.mono ?_; rintro e w' ⟨t, is, rfl, htold, rfl⟩; cases is)
    | (go_at_call 7; refine h3.mono ?_; rintro e w' ⟨rfl, hB⟩)
    | (go_at_call 4; refine (awake _ (HT.out.below hB)).mono ?_; rintro e w'' ⟨rfl, hB2⟩))
  all_goals first
    | (go_ret; exact ⟨rfl, hB.trans (hB2.mono hB.size)⟩)
    | (exfalso; have := htold rfl; simp_all; done)
    | (exfalso; simp_all; done)
    | (exfalso; clear h1 h2 h3; omega)
end Go.Proofs.YthgcpicflmigjaaDoor

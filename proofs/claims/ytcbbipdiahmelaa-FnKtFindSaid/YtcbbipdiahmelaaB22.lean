/- A key is looked for; under what each theorem states. Written by a program of this session. -/
import Derived.Test.YtcbbipdiahmelaaB21
import Derived.Test.YtcbbipdiahmelaaB9
import Derived.Test.YtcbbipdiahmelaaB13
namespace Go.Proofs.Ytcbbipdiahmelaa.B
open Go.RowKit Go.Proofs.YtcbbipdiahmelaaW.PrintWords Go.Proofs.YtcbbipdiahmelaaW.PrintLast
open Go.Proofs.Ytcbbipdiahmelaa.A (S25 S91 k91)
set_option linter.unusedVariables false
set_option linter.unusedSimpArgs false
set_option maxRecDepth 100000
/-- The entries that are asked for. -/
def hit (names : List ByteArray) (realm : ByteArray) (v kt : Int) (e : S25) : Bool := decide (e.f0 = realm) && (decide (e.f1 = names) && (decide (e.f6 = kt) && (decide (v = 0) || decide (e.f5 = v))))
def newer (m : S25 → Bool) : Option S25 → S25 → Option S25
  | none, e => if m e = true then some e else none
  | some b, e => if m e = true ∧ b.f3 < e.f3 then some e else some b
/-- What is held of the entry that is the newest one so far. -/
def Cur (w0 : World) (kt0 : Int) (A0 : Option Addr) (n0 : Nat) (tm : Int) (sb : Bool) (kv : Int) : Option S25 → Prop
  | none => n0 = 0 ∧ sb = false
  | some b => kt0 = b.f6 ∧ n0 = b.f7.size ∧ (Kd.int .u8).C w0 A0 n0 (bytesOf b.f7) ∧ tm = b.f3 ∧ sb = true ∧ kv = b.f5
theorem four (w : World) (cs : Array Value) : ∃ w1, w1 = ((((w.alloc (.cells cs 69)).alloc (.cells #[.int .i32 0, .slice none 0 0] 65)).alloc (.cells #[.int .i32 0, .slice none 0 0] 65)).alloc (.cells #[.int .i64 0, .bool false] 89)) ∧ Box w1 w.heap.size 69 cs ∧ Box w1 (w.heap.size + 1) 65 #[.int .i32 0, .slice none 0 0] ∧ Box w1 (w.heap.size + 1 + 1) 65 #[.int .i32 0, .slice none 0 0] ∧ Box w1 (w.heap.size + 1 + 1 + 1) 89 #[.int .i64 0, .bool false] ∧ Below w.heap.size w w1 := by
  refine ⟨_, rfl, (((Box.new _ _ _).alloc _).alloc _).alloc _, ((Box.next _ _ _ _).alloc _).alloc _, ?_, ?_, below_alloc (below_alloc (below_alloc (below_alloc (Below.refl _ _) _) _) _) _⟩
  · have h := Box.next (w.alloc (.cells cs 69)) (.cells #[.int .i32 0, .slice none 0 0] 65) #[.int .i32 0, .slice none 0 0] 65
    rw [show (w.alloc (.cells cs 69)).heap.size = w.heap.size + 1 from by simp] at h
    exact h.alloc _
  · have h := Box.next ((w.alloc (.cells cs 69)).alloc (.cells #[.int .i32 0, .slice none 0 0] 65)) (.cells #[.int .i32 0, .slice none 0 0] 65) #[.int .i64 0, .bool false] 89
    rw [show ((w.alloc (.cells cs 69)).alloc (.cells #[.int .i32 0, .slice none 0 0] 65)).heap.size = w.heap.size + 1 + 1 from by simp] at h
    exact h
/-- What the search holds. -/
structure Lk (w0 w : World) (h1 h2 h3 : Nat) (A1 : Option Addr) (n1 c1 : Nat) (kt0 : Int) (A0 : Option Addr) (n0 c0 : Nat) (tm : Int) (sb : Bool) : Prop where
  b0 : Box w w0.heap.size 69 #[.int .i32 0, .slice A1 n1 c1]
  b1 : Box w h1 65 #[.int .i32 0, .slice none 0 0]
  b2 : Box w h2 65 #[.int .i32 kt0, .slice A0 n0 c0]
  b3 : Box w h3 89 #[.int .i64 tm, .bool sb]
  low : Below w0.heap.size w0 w
theorem Lk.below {w0 w w' : World} {h1 h2 h3 n1 c1 n0 c0 : Nat} {A1 A0 : Option Addr} {kt0 tm : Int} {sb : Bool} (h : Lk w0 w h1 h2 h3 A1 n1 c1 kt0 A0 n0 c0 tm sb) (hb : Below w.heap.size w w') : Lk w0 w' h1 h2 h3 A1 n1 c1 kt0 A0 n0 c0 tm sb :=
  ⟨h.b0.below hb, h.b1.below hb, h.b2.below hb, h.b3.below hb, below_step h.low hb⟩
/-- What is told of it. -/
def Told (w0 : World) (kt0 : Int) (A0 : Option Addr) (n0 : Nat) (v0 : Int) (er : Value) : Option S25 → Prop
  | none => ∃ p, er = .iface 109 (.pointer (some p))
  | some b => er = .nilIface ∧ kt0 = b.f6 ∧ n0 = b.f7.size ∧ (Kd.int .u8).C w0 A0 n0 (bytesOf b.f7) ∧ v0 = b.f5
theorem hit_iff {names : List ByteArray} {realm : ByteArray} {v kt : Int} {e : S25} : hit names realm v kt e = true ↔ e.f0 = realm ∧ e.f1 = names ∧ e.f6 = kt ∧ (e.f5 = v ∨ v = 0) := by
  unfold hit
  simp only [Bool.and_eq_true, Bool.or_eq_true, decide_eq_true_eq]
  exact ⟨fun ⟨a, b, c, d⟩ => ⟨a, b, c, d.symm⟩, fun ⟨a, b, c, d⟩ => ⟨a, b, c, d.symm⟩⟩
theorem fold_take {m : S25 → Bool} {es : List S25} {j : Nat} {e : S25} (h : es[j]? = some e) : (es.take (j + 1)).foldl (newer m) none = newer m ((es.take j).foldl (newer m) none) e := by
  rw [List.take_add_one, h, List.foldl_append]; rfl
theorem Cur.skip {w0 : World} {kt0 : Int} {A0 : Option Addr} {n0 : Nat} {tm : Int} {sb : Bool} {kv : Int} {m : S25 → Bool} {e : S25} : ∀ {o : Option S25}, Cur w0 kt0 A0 n0 tm sb kv o → ¬ (m e = true ∧ unixOf tm sb < unixOf e.f3 true) → 0 ≤ e.f3 → newer m o e = o
  | none, hc, hn, ht => by
    obtain ⟨_, rfl⟩ := hc
    simp only [newer]
    rw [if_neg]
    intro h
    exact hn ⟨h, by simp [unixOf]; omega⟩
  | some b, hc, hn, ht => by
    obtain ⟨_, _, _, rfl, rfl, _⟩ := hc
    simp only [newer]
    rw [if_neg]
    intro h
    exact hn ⟨h.1, by simpa [unixOf] using h.2⟩
theorem Cur.take {w0 : World} {kt0 : Int} {A0 : Option Addr} {n0 : Nat} {tm : Int} {sb : Bool} {kv : Int} {m : S25 → Bool} {e : S25} : ∀ {o : Option S25}, Cur w0 kt0 A0 n0 tm sb kv o → m e = true → unixOf tm sb < unixOf e.f3 true → newer m o e = some e
  | none, hc, hm, ht => by simp only [newer]; rw [if_pos hm]
  | some b, hc, hm, ht => by
    obtain ⟨_, _, _, rfl, rfl, _⟩ := hc
    simp only [newer]
    rw [if_pos ⟨hm, by simpa [unixOf] using ht⟩]
theorem info65 : (Try.prog.info? 65).map (·.size) = some 2 := by kernel_rfl
section
variable {w0 w : World} {h1 h2 h3 n1 c1 n0 c0 : Nat} {A1 A0 : Option Addr} {kt0 tm : Int} {sb : Bool}
theorem Lk.set2 (h : Lk w0 w h1 h2 h3 A1 n1 c1 kt0 A0 n0 c0 tm sb) (hl : w0.heap.size ≤ h2) (hne : h1 ≠ h2) (k : Int) (A : Option Addr) (n c : Nat) : Lk w0 ((w.setCell ⟨h2, 0, none⟩ (.int .i32 k)).setCell ⟨h2, 1, none⟩ (.slice A n c)) h1 h2 h3 A1 n1 c1 k A n c tm sb :=
  ⟨(h.b0.far (h.b0.ne h.b2 (by decide)) 0 _).far (h.b0.ne h.b2 (by decide)) 1 _, (h.b1.far hne 0 _).far hne 1 _, (h.b2.puts 0 (.int .i32 k) rfl).puts (cs' := #[.int .i32 k, .slice A n c]) 1 (.slice A n c) rfl, (h.b3.far (h.b3.ne h.b2 (by decide)) 0 _).far (h.b3.ne h.b2 (by decide)) 1 _, low_set (low_set h.low hl 0 _) hl 1 _⟩
theorem Lk.set3 (h : Lk w0 w h1 h2 h3 A1 n1 c1 kt0 A0 n0 c0 tm sb) (hl : w0.heap.size ≤ h3) (t : Int) (s : Bool) : Lk w0 ((w.setCell ⟨h3, 0, none⟩ (.int .i64 t)).setCell ⟨h3, 1, none⟩ (.bool s)) h1 h2 h3 A1 n1 c1 kt0 A0 n0 c0 t s :=
  ⟨(h.b0.far (h.b0.ne h.b3 (by decide)) 0 _).far (h.b0.ne h.b3 (by decide)) 1 _, (h.b1.far (h.b1.ne h.b3 (by decide)) 0 _).far (h.b1.ne h.b3 (by decide)) 1 _, (h.b2.far (h.b2.ne h.b3 (by decide)) 0 _).far (h.b2.ne h.b3 (by decide)) 1 _, (h.b3.puts 0 (.int .i64 t) rfl).puts (cs' := #[.int .i64 t, .bool s]) 1 (.bool s) rfl, low_set (low_set h.low hl 0 _) hl 1 _⟩
end
theorem newer_mem {m : S25 → Bool} {b : S25} : ∀ {l : List S25} {o : Option S25}, l.foldl (newer m) o = some b → b ∈ l ∨ o = some b
  | [], _, h => .inr h
  | a :: r, o, h => by
    rcases newer_mem (l := r) h with h1 | h1
    · exact .inl (List.mem_cons_of_mem _ h1)
    · cases o with
      | none =>
        simp only [newer] at h1
        by_cases hm : m a = true
        · rw [if_pos hm] at h1; injection h1 with h1; exact .inl (by rw [← h1]; exact List.mem_cons_self ..)
        · rw [if_neg hm] at h1; cases h1
      | some c =>
        simp only [newer] at h1
        by_cases hm : m a = true ∧ c.f3 < a.f3
        · rw [if_pos hm] at h1; injection h1 with h1; exact .inl (by rw [← h1]; exact List.mem_cons_self ..)
        · rw [if_neg hm] at h1; exact .inr h1
set_option maxHeartbeats 8000000 in
theorem getKey_any (gt base : Nat) (A A1 : Option Addr) (c c1 : Nat) (es : List S25) (names : List ByteArray) (realm : ByteArray) (v kt : Int) (w : World) (ht : Box w gt 74 #[.int .u8 2, .slice A es.length c]) (hR : k91.R 91 w base (fun _ => True) (.slice A es.length c) (es.map pe)) (hok : ∀ e ∈ es, OkE e) (hlen : es.length ≤ 1000) (hn : Kd.string.C w A1 names.length names) (hv : 0 ≤ v ∧ v < 65536) (hkt : -2147483648 ≤ kt ∧ kt < 2147483648) (hkey : ∀ e ∈ es, e.f7.size ≠ 0) :
    Calls Try.prog 32 #[.pointer (some ⟨gt, 0, none⟩), .agg #[.int .i32 0, .slice A1 names.length c1], .string realm, .int .i64 v, .int .i32 kt] w fun x w' => (∃ kt0 A0 n0 c0 v0 er, x = .returned (.tuple #[.agg #[.int .i32 kt0, .slice A0 n0 c0], .int .i64 v0, er]) ∧ Told w kt0 A0 n0 v0 er (es.foldl (newer (hit names realm v kt)) none)) ∧ Below w.heap.size w w' := by
  obtain ⟨o, ho⟩ : ∃ o, es.foldl (newer (hit names realm v kt)) none = o := ⟨_, rfl⟩
  rw [ho]
  have HO := Aside0.mk ho
  clear ho
  have HT := Aside0.mk ht
  have HR := Aside0.mk hR
  have HOK := Aside0.mk hok
  have HLEN := Aside0.mk hlen
  have HN := Aside0.mk hn
  have HV := Aside0.mk hv
  have HKT := Aside0.mk hkt
  have HKEY := Aside0.mk hkey
  have hu74 := Try.underlying74
  have hu91 := Try.underlying91
  have hu69 := Try.underlying69
  have hu65 := Try.underlying65
  have hu87 := Try.underlying87
  have hu89 := Try.underlying89
  clear ht hR hok hlen hn hv hkt hkey
  go_enter Try.func32, Try.ntmps32
  go_upto_region 4 with fail
  obtain ⟨w1, hw1, x0, x1, x2, x3, xl⟩ := four w #[.int .i32 0, .slice A1 names.length c1]
  rw [← hw1]
  have nH : w.heap.size < w.heap.size + 1 ∧ w.heap.size + 1 < w.heap.size + 1 + 1 ∧ w.heap.size + 1 + 1 < w.heap.size + 1 + 1 + 1 := by omega
  clear hw1
  generalize w.heap.size + 1 + 1 + 1 = h3 at *
  generalize w.heap.size + 1 + 1 = h2 at *
  generalize w.heap.size + 1 = h1 at *
  have NH := Aside0.mk nH
  have L1 := Aside0.mk (show Lk w w1 h1 h2 h3 A1 names.length c1 0 none 0 0 0 false from ⟨x0, x1, x2, x3, xl⟩)
  have d1 := (show Box w1 gt 74 _ from HT.out.low xl HT.out.lt).cell 1 (.slice A es.length c) rfl
  clear nH x0 x1 x2 x3 xl
  go_wp2_with fail
  go_loopw [15, 26] (fun va i wr => ∃ (j : Nat) (kt0 : Int) (A0 : Option Addr) (n0 c0 : Nat) (tm : Int) (sb : Bool) (kv : Int), j ≤ es.length ∧ va = .int .i64 kv ∧ i = .int .i64 j ∧ Aside0 (Lk w wr h1 h2 h3 A1 names.length c1 kt0 A0 n0 c0 tm sb) ∧ Aside0 (Cur w kt0 A0 n0 tm sb kv ((es.take j).foldl (newer (hit names realm v kt)) none))) (fun _ i _ => es.length - (intOf i).toNat)
  case atStart => exact ⟨0, _, _, _, _, _, _, _, Nat.zero_le _, rfl, rfl, L1, ⟨⟨rfl, rfl⟩⟩⟩
  clear L1 d1
  obtain ⟨j, kt0, A0, n0, c0, tm, sb, kv, hj, rfl, rfl, LJ, CJ⟩ := hrel
  by_cases hlt : j < es.length
  case neg =>
    obtain rfl : j = es.length := by omega
    have cj := CJ.out
    rw [List.take_length, HO.out] at cj
    have hmem := fun b (h : o = some b) => (newer_mem (HO.out.trans h)).resolve_right (by intro h; cases h)
    have k0 := LJ.out.b2.cell 0 (.int .i32 kt0) rfl
    have k1 := LJ.out.b2.cell 1 (.slice A0 n0 c0) rfl
    have hnl : ¬ ((es.length : Int) < (es.length : Int)) := by omega
    clear CJ HO
    cases o with
    | none =>
      obtain ⟨rfl, rfl⟩ := cj
      clear hmem
      go_upto_region 21 with fail
      obtain ⟨wx, hwx⟩ : ∃ z, z = wr.drew := ⟨_, rfl⟩
      have LX := Aside0.mk (LJ.out.below (show Below wr.heap.size wr wx from hwx ▸ below_drew (Below.refl _ _)))
      have hi65 := info65
      clear k0 k1 LJ
      refine start_ (n := 5) (S := fun w' => w'.cell? ⟨h2, 0, none⟩ = some (.int .i32 kt0) ∧ w'.cell? ⟨h2, 1, none⟩ = some (.slice A0 0 c0)) (ds := []) #[false, false, false, false, false] (by kernel_rfl) rfl rfl ⟨(hwx ▸ (show _ from (Box.cell LX.out.b2 0 (.int .i32 kt0) rfl))), (hwx ▸ (show _ from (Box.cell LX.out.b2 1 (.slice A0 0 c0) rfl)))⟩ (fun hHeld => ?_)
      rw [← hwx] at hHeld ⊢
      clear hwx
      refine take_ (i := 0) (N := some 99) (v := ?_) (a' := ?_) #[true, false, false, false, false] rfl rfl (by kernel_rfl) (fun _ _ _ h => h) (Or.inl ⟨by rfl, ?_⟩) hHeld ?_ ?_
      rotate_left
      · rintro w' ⟨s0, s1⟩
        go_simp
        with_reducible rfl
      rotate_left
      · simp only [Act.put, List.setIfInBounds_toArray, List.set_cons_zero, List.set_cons_succ, i64_w, i32_w]
        rfl
      refine one_ (i := 1) (N := some 100) #[true, true, false, false, false] rfl rfl (by kernel_rfl) (by decide) (fun K hK => ?_)
      refine goes_ Try.func35 (by kernel_rfl) rfl #[.string ⟨#[109, 97, 116, 99, 104, 105, 110, 103, 32, 107, 101, 121, 32, 110, 111, 116, 32, 102, 111, 117, 110, 100, 32, 105, 110, 32, 107, 101, 121, 116, 97, 98, 46, 32, 76, 111, 111, 107, 105, 110, 103, 32, 102, 111, 114, 32, 114, 101, 97, 108, 109, 32, 107, 118, 110, 111, 32, 101, 116, 121, 112, 101]⟩] (by rfl) rfl rfl (by simp only [List.map_toArray, List.map_cons, List.map_nil]; rfl) ?_
      with_reducible refine (error_any _ wx).mono ?_
      rintro e_ w6 ⟨pe_, rfl, hb_⟩
      refine ⟨_, rfl, ?_⟩
      have L6 := Aside0.mk (LX.out.below hb_)
      clear hb_ LX
      refine hK.out _ _ ⟨(Box.cell L6.out.b2 0 (.int .i32 kt0) rfl), (Box.cell L6.out.b2 1 (.slice A0 0 c0) rfl)⟩ (fun hHeld => ?_)
      clear hK K
      refine norm_ (a' := ?_) ?_ ?_
      rotate_left
      · show Act.put _ (some 100) _ = _
        simp only [Act.put, List.setIfInBounds_toArray, List.set_cons_zero, List.set_cons_succ, i64_w, i32_w]
        rfl
      refine one_ (i := 2) (N := none) #[true, true, true, false, false] rfl rfl (by kernel_rfl) (by decide) (fun K hK => ?_)
      have c0_ := L6.out.b1.cell 0 (.int .i32 0) rfl
      have c1_ := L6.out.b1.cell 1 (.slice none 0 0) rfl
      have f0_ := L6.out.b1.free 0
      have f1_ := L6.out.b1.free 1
      refine skip_ (w1 := ?_) (by rfl) rfl ?_ ?_
      rotate_left
      · go_simp
        rfl
      clear c0_ c1_ f0_ f1_
      have M0 := Aside0.mk ((L6.out.b1.puts 0 (.int .i32 kt0) rfl).puts (cs' := #[.int .i32 kt0, .slice A0 0 c0]) 1 (.slice A0 0 c0) rfl)
      have M2 := Aside0.mk ((L6.out.b2.far (show h2 ≠ h1 from by have := NH.out; omega) 0 (.int .i32 kt0)).far (show h2 ≠ h1 from by have := NH.out; omega) 1 (.slice A0 0 c0))
      have ML := Aside0.mk (low_set (low_set L6.out.low (show w.heap.size ≤ h1 from by have := NH.out; omega) 0 (.int .i32 kt0)) (show w.heap.size ≤ h1 from by have := NH.out; omega) 1 (.slice A0 0 c0))
      clear L6
      refine hK.out _ _ ⟨(Box.cell M2.out 0 _ rfl), (Box.cell M2.out 1 _ rfl)⟩ (fun hHeld => ?_)
      clear hK K
      refine pure_ (i := 3) (N := some 11) (v := ?_) (a' := ?_) #[true, true, true, true, false] rfl rfl (by kernel_rfl) (fun _ _ _ h => h) (Or.inl ⟨by rfl, ?_⟩) ?_ ?_
      rotate_left
      · intro w'
        go_simp
        with_reducible rfl
      rotate_left
      · simp only [Act.put, List.setIfInBounds_toArray, List.set_cons_zero, List.set_cons_succ, i64_w, i32_w]
        rfl
      refine pure_ (i := 4) (N := some 12) (v := ?_) (a' := ?_) #[true, true, true, true, true] rfl rfl (by kernel_rfl) (fun _ _ _ h => h) (Or.inl ⟨by rfl, ?_⟩) ?_ ?_
      rotate_left
      · intro w'
        go_simp
        with_reducible rfl
      rotate_left
      · simp only [Act.put, List.setIfInBounds_toArray, List.set_cons_zero, List.set_cons_succ, i64_w, i32_w]
        rfl
      refine done_ (by kernel_rfl) ?_
      
      clear hHeld
      have e0 := M0.out.cell 0 (.int .i32 kt0) rfl
      have e1 := M0.out.cell 1 (.slice A0 0 c0) rfl
      go_wp2_with fail
      refine bodyPost_ret (v := .tuple #[.agg #[.int .i32 kt0, .slice A0 0 c0], .int .i64 0, .iface 109 (.pointer (some pe_))]) (by simp [results, Try.results32, go_sem, e0, e1, hu65]) rfl ⟨⟨kt0, A0, 0, c0, 0, _, rfl, ⟨pe_, rfl⟩⟩, ML.out⟩
    | some b =>
      obtain ⟨rfl, rfl, hC, rfl, rfl, rfl⟩ := cj
      have HC := Aside0.mk hC
      have hz := HKEY.out b (hmem b rfl)
      have hz1 : ¬ ((b.f7.size : Int) < 1) := by omega
      have hz2 : ¬ (b.f7.size < 1) := by omega
      clear hC hmem hz
      have c0_ := LJ.out.b1.cell 0 (.int .i32 0) rfl
      have c1_ := LJ.out.b1.cell 1 (.slice none 0 0) rfl
      have f0_ := LJ.out.b1.free 0
      have f1_ := LJ.out.b1.free 1
      have hi65 := info65
      go_wp2_with fail
      clear k0 k1 c0_ c1_ f0_ f1_
      have M0 := ((LJ.out.b1.puts 0 (.int .i32 b.f6) rfl).puts (cs' := #[.int .i32 b.f6, .slice A0 b.f7.size c0]) 1 (.slice A0 b.f7.size c0) rfl)
      have e0 := M0.cell 0 (.int .i32 b.f6) rfl
      have e1 := M0.cell 1 (.slice A0 b.f7.size c0) rfl
      have hlo : w.heap.size ≤ h1 := by have := NH.out; omega
      have ML := low_set (low_set LJ.out.low hlo 0 (.int .i32 b.f6)) hlo 1 (.slice A0 b.f7.size c0)
      refine bodyPost_ret (v := .tuple #[.agg #[.int .i32 b.f6, .slice A0 b.f7.size c0], .int .i64 b.f5, .nilIface]) (by simp [results, Try.results32, go_sem, e0, e1, hu65]) rfl ⟨⟨b.f6, A0, b.f7.size, c0, b.f5, _, rfl, ⟨rfl, rfl, rfl, HC.out, rfl⟩⟩, ML⟩
  have hlt' : (j : Int) < (es.length : Int) := by omega
  have hj0 : (0 : Int) ≤ (j : Int) := by omega
  have hj1 : (j : Int) + 1 ≤ 1000 := by have := HLEN.out; omega
  obtain ⟨ad, x, X2, d2, X8, d8, rfl, hx, hcells, g2, g8⟩ := row91 HR.out j (by simpa using hlt)
  obtain ⟨e, hes⟩ : ∃ e, es[j]? = some e := ⟨_, List.getElem?_eq_getElem hlt⟩
  obtain rfl : x = pe e := by rw [List.getElem?_map, hes] at hx; injection hx with hx; exact hx.symm
  have HX := Aside0.mk hes
  have HLT := Aside0.mk hlt
  have HE := Aside0.mk (HOK.out e (List.mem_of_getElem? hes))
  have hz8 : (pe e).f3.f1.length = e.f7.size := bytesOf_length e.f7
  rw [hz8] at g8 hcells
  obtain ⟨cs, hcs⟩ : ∃ y : Array Value, y = #[Value.int .i16 e.f1.length, .string e.f0, .slice X2 e.f1.length d2, .int .i32 e.f2, .int .i64 e.f3, .bool true, .int .u8 e.f4, .int .i32 e.f6, .slice X8 e.f7.size d8, .int .u32 e.f5] := ⟨_, rfl⟩
  have HC2 := Aside0.mk (show (∀ i u, cs.toList[i]? = some u → wr.cell? ((ad.add (j * 10)).add i) = some u) ∧ cs.toList.length = 10 from by subst hcs; exact ⟨fun i u hu => pw_low LJ.out.low (hcells i u hu), rfl⟩)
  have HS2 := Aside0.mk (show cs.size = 10 ∧ cs.all (·.oneCell') = true from by subst hcs; exact ⟨rfl, by simp [Value.oneCell']⟩)
  have HCS := Aside0.mk hcs
  have G2 := Aside0.mk (show Kd.string.C w X2 e.f1.length e.f1 from (Kd.R_reads' g2).2.2)
  have G8 := Aside0.mk (show (Kd.int .u8).C w X8 e.f7.size (bytesOf e.f7) from by have h_ := (Kd.R_reads' g8).2.2; rw [hz8] at h_; exact h_)
  clear hcs hx hes hlt hcells g2 g8 hz8
  go_upto_region 7 with (first | ((with_reducible refine gate_dst (N := 29) rfl ?_); refine load_cells_event ?hg (N := 29) ?hd 91 (.tmp 28) (ad.add (j * 10)) cs.toList _ ?ho ?hx HC2.out.1 Try.underlying91 ?hq ?hi ?_; (case hg => rfl); (case hd => rfl); (case ho => rfl); (case hx => first | rfl | (go_simp; done)); (case hq => rfl); (case hi => exact info91.trans (congrArg some HC2.out.2.symm))) | ((with_reducible refine gate_dst (N := 17) rfl ?_); refine box_event ?hg (N := 17) ?hd (cs := entry0) (t := 91) ?hr ?_; (case hd => rfl); (case hg => rfl); (case hr => first | (go_simp; done) | (go_simp; rfl)); intro gq hgb w1 hbox hb; have HBX := Aside0.mk hbox; have HBB := Aside0.mk hb; have HGB := Aside0.mk (show wr.heap.size ≤ gq from by rw [hgb]; exact Nat.le_refl _); clear hbox hb hgb) | ((with_reducible refine gate_store (t := 91) (p := 17) (v := .tmp 29) rfl ?_); refine store_event ?hg 91 (.tmp 17) (.tmp 29) ?ho gq cs ?hx ?hy 91 _ HBX.out ?hi ?hl HS2.out.2 ?_; (case hg => rfl); (case ho => rfl); (case hx => first | rfl | (go_simp; done)); (case hy => first | (simp only [Array.toArray_toList]; rfl) | (go_simp; done)); (case hi => exact info91.trans (congrArg some HS2.out.1.symm)); (case hl => exact HS2.out.1.symm); intro w2 hb2 hbl2 hsz2 hot2; have HQ2 := Aside0.mk (show Box w2 gq 91 #[Value.int .i16 e.f1.length, .string e.f0, .slice X2 e.f1.length d2, .int .i32 e.f2, .int .i64 e.f3, .bool true, .int .u8 e.f4, .int .i32 e.f6, .slice X8 e.f7.size d8, .int .u32 e.f5] from HCS.out ▸ hb2); have HBL2 := Aside0.mk (hbl2 wr HBB.out HGB.out); clear hb2 hbl2 hsz2 hot2) | fail)
  clear HBB HBX HC2 HS2 HCS
  have L2 := Aside0.mk (LJ.out.below HBL2.out)
  clear LJ HBL2
  have q0 := HQ2.out.cell 0 (.int .i16 e.f1.length) rfl
  have q1 := HQ2.out.cell 1 (.string e.f0) rfl
  have q2 := HQ2.out.cell 2 (.slice X2 e.f1.length d2) rfl
  have q4 := HQ2.out.cell 4 (.int .i64 e.f3) rfl
  have q5 := HQ2.out.cell 5 (.bool true) rfl
  have q7 := HQ2.out.cell 7 (.int .i32 e.f6) rfl
  have q9 := HQ2.out.cell 9 (.int .u32 e.f5) rfl
  have p1 := L2.out.b0.cell 1 (.slice A1 names.length c1) rfl
  have p3 := L2.out.b3.cell 0 (.int .i64 tm) rfl
  have p4 := L2.out.b3.cell 1 (.bool sb) rfl
  have hvm : v % 4294967296 = v := by have := HV.out; omega
  (try simp only [Act.put, List.setIfInBounds_toArray, List.set_cons_zero, List.set_cons_succ])
  go_cut [68] (fun v68 wc => ∃ bb : Bool, v68 = .bool bb ∧ Aside0 (Below w2.heap.size w2 wc) ∧ Aside0 (bb = true ↔ (e.f0 = realm ∧ e.f1.length = names.length ∧ e.f6 = kt ∧ (e.f5 = v ∨ v = 0) ∧ unixOf tm sb < unixOf e.f3 true)))
  case first =>
    have R1 := Aside0.mk (pw_toList e.f0 realm)
    by_cases h1 : e.f0.toList = realm.toList
    case neg =>
      have H1 := Aside0.mk (show ¬ e.f0 = realm from fun h => h1 (R1.out.2 h))
      have h1' := eq_false h1
      clear h1
      go_wp2_with fail
      go_meet
      exact ⟨_, rfl, ⟨Below.refl _ _⟩, ⟨by simp [H1.out]⟩⟩
    have H1 := Aside0.mk (R1.out.1 h1)
    have h1' := eq_true h1
    clear h1 R1
    by_cases h2 : (e.f1.length : Int) = (names.length : Int)
    case neg =>
      have H2 := Aside0.mk (show ¬ e.f1.length = names.length from by omega)
      have h2' := eq_false h2
      clear h2
      go_wp2_with fail
      go_meet
      exact ⟨_, rfl, ⟨Below.refl _ _⟩, ⟨by simp [H2.out]⟩⟩
    have H2 := Aside0.mk (show e.f1.length = names.length from by omega)
    have h2' := eq_true h2
    clear h2
    by_cases h3 : e.f6 = kt
    case neg =>
      have H3 := Aside0.mk h3
      have h3' := eq_false h3
      clear h3
      go_wp2_with fail
      go_meet
      exact ⟨_, rfl, ⟨Below.refl _ _⟩, ⟨by simp [H3.out]⟩⟩
    have H3 := Aside0.mk h3
    have h3' := eq_true h3
    clear h3
    by_cases h4 : e.f5 = v
    case pos =>
      have H4 := Aside0.mk h4
      have h4' := eq_true h4
      clear h4
      go_wp2_with fail
      refine (after_any e.f3 tm true sb w2).mono ?_
      rintro x_ w3 ⟨rfl, hb_⟩
      have B3 := Aside0.mk hb_
      clear hb_
      go_wp2_with fail
      go_meet
      exact ⟨_, rfl, B3, ⟨by simp [H1.out, H2.out, H3.out, H4.out]⟩⟩
    have H4 := Aside0.mk h4
    have h4' := eq_false h4
    clear h4
    by_cases h5 : v = 0
    case neg =>
      have H5 := Aside0.mk h5
      have h5' := eq_false h5
      clear h5
      go_wp2_with fail
      go_meet
      exact ⟨_, rfl, ⟨Below.refl _ _⟩, ⟨by simp [H4.out, H5.out]⟩⟩
    have H5 := Aside0.mk h5
    have h5' := eq_true h5
    clear h5
    go_wp2_with fail
    refine (after_any e.f3 tm true sb w2).mono ?_
    rintro x_ w3 ⟨rfl, hb_⟩
    have B3 := Aside0.mk hb_
    clear hb_
    go_wp2_with fail
    go_meet
    exact ⟨_, rfl, B3, ⟨by simp [H1.out, H2.out, H3.out, H5.out]⟩⟩
  obtain ⟨bb, rfl, B3, HB⟩ := hcut
  clear q0 q1 q2 q4 q5 q7 q9 p1 p3 p4 hvm
  (try simp only [Act.put, List.setIfInBounds_toArray, List.set_cons_zero, List.set_cons_succ])
  have L3 := Aside0.mk (L2.out.below B3.out)
  have Q3 := Aside0.mk (HQ2.out.below B3.out)
  clear L2 HQ2 B3
  cases bb with
  | false =>
    have HSK := Aside0.mk (Cur.skip (m := hit names realm v kt) (e := e) CJ.out (fun h => absurd (HB.out.2 (by obtain ⟨h1, h2⟩ := h; obtain ⟨a1, a2, a3, a4⟩ := hit_iff.1 h1; exact ⟨a1, by rw [a2], a3, a4, h2⟩)) (by decide)) HE.out.time.1)
    clear HB
    go_wp2_with fail
    go_roundw
    case rel => exact ⟨j + 1, kt0, A0, n0, c0, tm, sb, kv, HLT.out, rfl, by go_num, L3, ⟨by rw [fold_take HX.out, HSK.out]; exact CJ.out⟩⟩
    case measure => have := HLT.out; simp [intOf]; omega
  | true =>
  have HB' := Aside0.mk (HB.out.1 rfl)
  clear HB
  have k2 := Q3.out.cell 2 (.slice X2 e.f1.length d2) rfl
  have hn1 : (e.f1.length : Int) ≤ 9223372036854775807 := by have := HE.out.names; omega
  go_wp2_with fail
  go_loopw [18, 73] (fun vb i wr => ∃ (m : Nat), m ≤ e.f1.length ∧ vb = .bool true ∧ i = .int .i64 m ∧ Aside0 (e.f1.take m = names.take m) ∧ wr = wc) (fun _ i _ => e.f1.length - (intOf i).toNat)
  case atStart => exact ⟨0, Nat.zero_le _, rfl, rfl, ⟨by simp⟩, rfl⟩
  clear k2
  obtain ⟨m, hm, rfl, rfl, NJ, rfl⟩ := hrel
  by_cases hlm : m < e.f1.length
  case neg =>
    obtain rfl : m = e.f1.length := by omega
    have hnl : ¬ ((e.f1.length : Int) < (e.f1.length : Int)) := by omega
    have HTK := Aside0.mk (Cur.take (m := hit names realm v kt) (e := e) CJ.out (hit_iff.2 ⟨HB'.out.1, by have h := NJ.out; rw [List.take_length, HB'.out.2.1, List.take_length] at h; exact h, HB'.out.2.2.1, HB'.out.2.2.2.1⟩) HB'.out.2.2.2.2)
    clear NJ hm hlm HB'
    have k7 := Q3.out.cell 7 (.int .i32 e.f6) rfl
    have k8 := Q3.out.cell 8 (.slice X8 e.f7.size d8) rfl
    have c0_ := L3.out.b2.cell 0 _ rfl
    have c1_ := L3.out.b2.cell 1 _ rfl
    have f0_ := L3.out.b2.free 0
    have f1_ := L3.out.b2.free 1
    have h65 := info65
    go_upto_region 17 with fail
    clear k7 k8 c0_ c1_ f0_ f1_ h65
    have L4 := Aside0.mk (L3.out.set2 (by have := NH.out; omega) (by have := NH.out; omega) e.f6 X8 e.f7.size d8)
    have Q4 := Aside0.mk ((Q3.out.far (Q3.out.ne L3.out.b2 (by decide)) 0 (.int .i32 e.f6)).far (Q3.out.ne L3.out.b2 (by decide)) 1 (.slice X8 e.f7.size d8))
    clear L3 Q3
    generalize (wr.setCell ⟨h2, 0, none⟩ (.int .i32 e.f6)).setCell ⟨h2, 1, none⟩ (.slice X8 e.f7.size d8) = w4 at *
    have k9 := Q4.out.cell 9 (.int .u32 e.f5) rfl
    have k4 := Q4.out.cell 4 (.int .i64 e.f3) rfl
    have k5 := Q4.out.cell 5 (.bool true) rfl
    have c0_ := L4.out.b3.cell 0 (.int .i64 tm) rfl
    have c1_ := L4.out.b3.cell 1 (.bool sb) rfl
    have f0_ := L4.out.b3.free 0
    have f1_ := L4.out.b3.free 1
    have hi89 := info89
    have hw5 : wrap64 e.f5 = e.f5 := by have := HE.out.ver; unfold wrap64; omega
    go_wp2_with fail
    have L5 := Aside0.mk (L4.out.set3 (by have := NH.out; omega) e.f3 true)
    go_roundw
    case rel => exact ⟨j + 1, e.f6, X8, e.f7.size, d8, e.f3, true, e.f5, HLT.out, by rw [hw5], by go_num, L5, ⟨by rw [fold_take HX.out, HTK.out]; exact ⟨rfl, rfl, G8.out, rfl, rfl, rfl⟩⟩⟩
    case measure => have := HLT.out; simp [intOf]; omega
  have hlm' : (m : Int) < (e.f1.length : Int) := by omega
  have hlm2 : (m : Int) < (names.length : Int) := by have := HB'.out.2.1; omega
  have hm0 : (0 : Int) ≤ (m : Int) := by omega
  obtain ⟨a1, rfl, y1⟩ := Kd.at_string (Kd.C_below G2.out L3.out.low) (m : Int) hm0 hlm'
  obtain ⟨a2, rfl, y2⟩ := Kd.at_string (Kd.C_below HN.out L3.out.low) (m : Int) hm0 hlm2
  rw [Int.toNat_natCast] at y1 y2
  obtain ⟨x, hx⟩ : ∃ x, e.f1[m]? = some x := ⟨_, List.getElem?_eq_getElem hlm⟩
  obtain ⟨y, hy⟩ : ∃ y, names[m]? = some y := ⟨_, List.getElem?_eq_getElem (by omega)⟩
  have hr1 : rdOf ByteArray.empty e.f1 (m : Int) = x := by unfold rdOf; rw [Int.toNat_natCast, List.getD_eq_getElem?_getD, hx]; rfl
  have hr2 : rdOf ByteArray.empty names (m : Int) = y := by unfold rdOf; rw [Int.toNat_natCast, List.getD_eq_getElem?_getD, hy]; rfl
  rw [hr1] at y1
  rw [hr2] at y2
  have HXX := Aside0.mk hx
  have HYY := Aside0.mk hy
  have HLM := Aside0.mk hlm
  have p1 := L3.out.b0.cell 1 (.slice (some a2) names.length c1) rfl
  have PX := Aside0.mk (pw_toList y x)
  clear hx hy hr1 hr2 hlm
  by_cases hs : y.toList = x.toList
  · have HXY := Aside0.mk (PX.out.1 hs)
    have z0 : (y.toList == x.toList) = true := beq_iff_eq.mpr hs
    have z1 : (y.toList != x.toList) = false := by rw [bne, z0]; rfl
    have hs' := eq_true hs
    clear hs
    go_wp2_with fail
    go_roundw
    case rel => exact ⟨m + 1, HLM.out, rfl, by go_num, ⟨by rw [List.take_add_one, List.take_add_one, HXX.out, HYY.out, NJ.out, HXY.out]⟩, trivial⟩
    case measure => have := HLM.out; simp [intOf]; omega
  · have HSK := Aside0.mk (Cur.skip (m := hit names realm v kt) (e := e) CJ.out (fun h => hs (PX.out.2 (by have h2 := (hit_iff.1 h.1).2.1; have h3 := HXX.out; rw [h2, HYY.out] at h3; injection h3))) HE.out.time.1)
    have z0 : (y.toList == x.toList) = false := beq_eq_false_iff_ne.mpr hs
    have z1 : (y.toList != x.toList) = true := by rw [bne, z0]; rfl
    have hs' := eq_false hs
    clear hs PX HXX HYY NJ HB'
    go_wp2_with fail
    go_roundw
    case rel => exact ⟨j + 1, kt0, A0, n0, c0, tm, sb, kv, HLT.out, rfl, by go_num, L3, ⟨by rw [fold_take HX.out, HSK.out]; exact CJ.out⟩⟩
    case measure => have := HLT.out; simp [intOf]; omega
end Go.Proofs.Ytcbbipdiahmelaa.B

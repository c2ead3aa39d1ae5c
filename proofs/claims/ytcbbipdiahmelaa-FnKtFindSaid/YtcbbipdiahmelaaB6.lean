/- A keytab's entries are told; under what each theorem states. Written by a program of this session. -/
import Derived.Test.YtcbbipdiahmelaaB5
namespace Go.Proofs.Ytcbbipdiahmelaa.B
open Go.RowKit Go.Proofs.YtcbbipdiahmelaaW.PrintWords Go.Proofs.YtcbbipdiahmelaaW.PrintLast
open Go.Proofs.Ytcbbipdiahmelaa.A (S25 S91 S106 S49 k91 k106 k49 k91_openM k106_openM k106_mkM k49_mkM)
set_option linter.unusedVariables false
set_option linter.unusedSimpArgs false
set_option maxRecDepth 100000
theorem cell_low {w w1 : World} {p : Addr} {v : Value} (hb : Below w.heap.size w w1) (h : w.cell? p = some v) : w1.cell? p = some v := (hb.cell (World.block_lt_of_cell? w _ h)).trans h
/-- An entry of a row of the call's own: its cells, and the rows that it leads to. -/
theorem row91 {w : World} {base : Nat} {A : Option Addr} {n c : Nat} {xs : List S91} (h : k91.R 91 w base (fun _ => True) (.slice A n c) xs) (j : Nat) (hj : j < xs.length) : ∃ (ad : Addr) (x : S91) (A2 : Option Addr) (c2 : Nat) (A8 : Option Addr) (c8 : Nat), A = some ad ∧ xs[j]? = some x ∧
    (∀ i u, [Value.int .i16 x.f0.f0, .string x.f0.f1, .slice A2 x.f0.f2.length c2, .int .i32 x.f0.f3, .int .i64 x.f1.f0, .bool x.f1.f1, .int .u8 x.f2, .int .i32 x.f3.f0, .slice A8 x.f3.f1.length c8, .int .u32 x.f4][i]? = some u → w.cell? ((ad.add (j * 10)).add i) = some u) ∧
    Kd.string.R 9 w base (fun _ => True) (.slice A2 x.f0.f2.length c2) x.f0.f2 ∧ (Kd.int .u8).R 5 w base (fun _ => True) (.slice A8 x.f3.f1.length c8) x.f3.f1 := by
  obtain ⟨A', c', he, hl, hr⟩ := OwnRow.reads h.2
  injection he with h1 h2 h3
  subst h1 h2 h3
  obtain ⟨ad, cs, e, _, hM, hc⟩ := ReadsRow.get_ hr (Go.Proofs.Ytcbbipdiahmelaa.A.z91) (j : Int) (by omega) (by omega)
  rw [Int.toNat_natCast] at hM hc
  obtain ⟨v2, v8, rfl, g2, g8⟩ := k91_openM hM
  obtain ⟨A2, c2, rfl⟩ := Kd.R_slice g2
  obtain ⟨A8, c8, rfl⟩ := Kd.R_slice g8
  refine ⟨ad, xs.getD j Go.Proofs.Ytcbbipdiahmelaa.A.z91, A2, c2, A8, c8, e, ?_, fun i u hu => by rw [add_add]; exact hc i u hu, Kd.R_mono g2 (fun _ _ => trivial), Kd.R_mono g8 (fun _ _ => trivial)⟩
  rw [List.getD_eq_getElem?_getD, List.getElem?_eq_getElem hj]; rfl
theorem row106 {w : World} {base : Nat} {A : Option Addr} {n c : Nat} {xs : List S106} (h : k106.R 106 w base (fun _ => True) (.slice A n c) xs) (j : Nat) (hj : j < xs.length) : ∃ (ad : Addr) (x : S106) (A1 : Option Addr) (c1 : Nat) (A7 : Option Addr) (c7 : Nat), A = some ad ∧ xs[j]? = some x ∧
    (∀ i u, [Value.string x.f0, .slice A1 x.f1.length c1, .int .i32 x.f2, .int .i64 x.f3, .int .u8 x.f4, .int .u32 x.f5, .int .i32 x.f6, .slice A7 x.f7.length c7][i]? = some u → w.cell? ((ad.add (j * 8)).add i) = some u) ∧
    Kd.string.R 9 w base (fun _ => True) (.slice A1 x.f1.length c1) x.f1 ∧ (Kd.int .u8).R 5 w base (fun _ => True) (.slice A7 x.f7.length c7) x.f7 := by
  obtain ⟨A', c', he, hl, hr⟩ := OwnRow.reads h.2
  injection he with h1 h2 h3
  subst h1 h2 h3
  obtain ⟨ad, cs, e, _, hM, hc⟩ := ReadsRow.get_ hr (Go.Proofs.Ytcbbipdiahmelaa.A.z106) (j : Int) (by omega) (by omega)
  rw [Int.toNat_natCast] at hM hc
  obtain ⟨v2, v8, rfl, g2, g8⟩ := k106_openM hM
  obtain ⟨A2, c2, rfl⟩ := Kd.R_slice g2
  obtain ⟨A8, c8, rfl⟩ := Kd.R_slice g8
  refine ⟨ad, xs.getD j Go.Proofs.Ytcbbipdiahmelaa.A.z106, A2, c2, A8, c8, e, ?_, fun i u hu => by rw [add_add]; exact hc i u hu, Kd.R_mono g2 (fun _ _ => trivial), Kd.R_mono g8 (fun _ _ => trivial)⟩
  rw [List.getD_eq_getElem?_getD, List.getElem?_eq_getElem hj]; rfl
/-- As data. -/
def zz (x : S91) : S106 := ⟨x.f0.f1, x.f0.f2, x.f0.f3, x.f1.f0, x.f2, x.f4, x.f3.f0, x.f3.f1⟩
def to49 (x : S106) : S49 := ⟨x.f0, x.f1, x.f2, x.f3, x.f4, x.f5, x.f6, strOfNums x.f7⟩
def zero106 : Value := .agg #[.string ⟨#[]⟩, .slice none 0 0, .int .i32 0, .int .i64 0, .int .u8 0, .int .u32 0, .int .i32 0, .slice none 0 0]
def zero49 : Value := .agg #[.string ⟨#[]⟩, .slice none 0 0, .int .i32 0, .int .i64 0, .int .u8 0, .int .u32 0, .int .i32 0, .string ⟨#[]⟩]
theorem info106 : (Try.prog.info? 106).map (fun i => (i.zero, i.size, i.bytes)) = some (some zero106, 8, 96) := by kernel_rfl
theorem info49 : (Try.prog.info? 49).map (fun i => (i.zero, i.size, i.bytes)) = some (some zero49, 8, 88) := by kernel_rfl
theorem size106 : (Try.prog.info? 106).map (·.size) = some 8 := by kernel_rfl
theorem size49 : (Try.prog.info? 49).map (·.size) = some 8 := by kernel_rfl
set_option maxHeartbeats 800000 in
theorem timeUnix_any (n : Int) (w : World) : Calls Try.prog 49 #[.agg #[.int .i64 n, .bool true]] w fun e w' => e = .returned (.int .i64 n) ∧ Below w.heap.size w w' := by
  go_enter Try.func49, Try.ntmps49
  go_wp2_with fail
  go_ret
  exact ⟨rfl, below_alloc (Below.refl _ _) _⟩
set_option maxHeartbeats 8000000 in
theorem zzEntries_any (gt base : Nat) (A : Option Addr) (n c : Nat) (xs : List S91) (w : World) (ht : Box w gt 74 #[.int .u8 2, .slice A n c]) (hR : k91.R 91 w base (fun _ => True) (.slice A n c) xs) (hset : ∀ x ∈ xs, x.f1.f1 = true) (hlen : xs.length ≤ 1000) (hb : base ≤ w.heap.size) :
    Calls Try.prog 44 #[.pointer (some ⟨gt, 0, none⟩)] w fun e w' => ∃ A' n' c', e = .returned (.slice A' n' c') ∧ k106.R 106 w' base (fun _ => True) (.slice A' n' c') (xs.map zz) ∧ Below base w w' := by
  obtain ⟨hn, hnc, _⟩ := Kd.R_reads' hR
  subst hn
  have d1 := ht.cell 1 (.slice A xs.length c) rfl
  have hgt : gt < w.heap.size := ht.lt
  have hu74 := Try.underlying74
  have hu91 := Try.underlying91
  have hu87 := Try.underlying87
  have hu89 := Try.underlying89
  have hu65 := Try.underlying65
  have hu106 := Try.underlying106
  have HR := Aside0.mk hR
  have HSET := Aside0.mk hset
  have HLEN := Aside0.mk hlen
  have HB := Aside0.mk hb
  clear hR hset ht hb
  go_enter Try.func44, Try.ntmps44
  go_wp2_with fail
  go_loopw [3, 11] (fun va i wr => ∃ (j : Nat) (A6 : Option Addr) (n6 c6 : Nat), j ≤ xs.length ∧ va = .slice A6 n6 c6 ∧ i = .int .i64 j ∧ Aside0 (k106.R 106 wr base (fun _ => True) (.slice A6 n6 c6) ((xs.take j).map zz)) ∧ Aside0 (k91.R 91 wr base (fun _ => True) (.slice A xs.length c) xs) ∧ Aside0 (Below base w wr) ∧ Aside0 (base ≤ wr.heap.size)) (fun _ i _ => xs.length - (intOf i).toNat)
  case atStart => exact ⟨0, none, 0, 0, Nat.zero_le _, rfl, rfl, ⟨Kd.R_nil _ _ _ _ _⟩, HR, ⟨Below.refl _ _⟩, HB⟩
  clear HR HB d1
  obtain ⟨j, A6, n6, c6, hj, rfl, rfl, V6, V9, BL, BS⟩ := hrel
  by_cases hlt : j < xs.length
  case neg =>
    obtain rfl : j = xs.length := by omega
    have hnl : ¬ ((xs.length : Int) < (xs.length : Int)) := by omega
    go_wp2
    go_ret
    have hv := V6.out
    rw [List.take_length] at hv
    exact ⟨_, _, _, rfl, hv, BL.out⟩
  have hlt' : (j : Int) < (xs.length : Int) := by omega
  have hj0 : (0 : Int) ≤ (j : Int) := by omega
  obtain ⟨ad, x, X2, d2, X8, d8, rfl, hx, hcells, g2, g8⟩ := row91 V9.out j hlt
  have HX := Aside0.mk hx
  have HS := Aside0.mk (HSET.out x (List.mem_of_getElem? hx))
  have HLT := Aside0.mk hlt
  have G2 := Aside0.mk g2
  have G8 := Aside0.mk g8
  have VC := Aside0.mk (show ∀ (i : Nat) (u : Value), [Value.int .i16 x.f0.f0, .string x.f0.f1, .slice X2 x.f0.f2.length d2, .int .i32 x.f0.f3, .int .i64 x.f1.f0, .bool true, .int .u8 x.f2, .int .i32 x.f3.f0, .slice X8 x.f3.f1.length d8, .int .u32 x.f4][i]? = some u → wr.cell? ((ad.add (j * 10)).add i) = some u from by rw [← HS.out]; exact hcells)
  clear hx hcells g2 g8 hlt
  obtain ⟨cs, hcs⟩ : ∃ y : Array Value, y = #[Value.int .i16 x.f0.f0, .string x.f0.f1, .slice X2 x.f0.f2.length d2, .int .i32 x.f0.f3, .int .i64 x.f1.f0, .bool true, .int .u8 x.f2, .int .i32 x.f3.f0, .slice X8 x.f3.f1.length d8, .int .u32 x.f4] := ⟨_, rfl⟩
  have HC2 := Aside0.mk (show (∀ i u, cs.toList[i]? = some u → wr.cell? ((ad.add (j * 10)).add i) = some u) ∧ cs.toList.length = 10 from by subst hcs; exact ⟨VC.out, rfl⟩)
  have HS2 := Aside0.mk (show cs.size = 10 ∧ cs.all (·.oneCell') = true from by subst hcs; exact ⟨rfl, by simp [Value.oneCell']⟩)
  have HCS := Aside0.mk hcs
  clear hcs VC
  go_upto_region 5 with (first
    | ((with_reducible refine gate_dst (N := 14) rfl ?_); refine load_cells_event ?hg (N := 14) ?hd 91 (.tmp 13) (ad.add (j * 10)) cs.toList _ ?ho ?hx HC2.out.1 Try.underlying91 ?hq ?hi ?_; (case hg => rfl); (case hd => rfl); (case ho => rfl); (case hx => first | rfl | (go_simp; done)); (case hq => rfl); (case hi => exact info91.trans (congrArg some HC2.out.2.symm)))
    | ((with_reducible refine gate_dst (N := 5) rfl ?_); refine box_event ?hg (N := 5) ?hd (cs := entry0) (t := 91) ?hr ?_; (case hd => rfl); (case hg => rfl); (case hr => first | (go_simp; done) | (go_simp; rfl)); intro gq hgb w1 hbox hb; have HBX := Aside0.mk hbox; have HBB := Aside0.mk hb; have HGB := Aside0.mk (show wr.heap.size ≤ gq from by rw [hgb]; exact Nat.le_refl _); clear hbox hb hgb)
    | ((with_reducible refine gate_store (t := 91) (p := 5) (v := .tmp 14) rfl ?_); refine store_event ?hg 91 (.tmp 5) (.tmp 14) ?ho gq cs ?hx ?hy 91 _ HBX.out ?hi ?hl HS2.out.2 ?_; (case hg => rfl); (case ho => rfl); (case hx => first | rfl | (go_simp; done)); (case hy => first | (simp only [Array.toArray_toList]; rfl) | (go_simp; done)); (case hi => exact info91.trans (congrArg some HS2.out.1.symm)); (case hl => exact HS2.out.1.symm); intro w2 hb2 hbl2 hsz2 hot2; have HQ2 := Aside0.mk (show Box w2 gq 91 #[Value.int .i16 x.f0.f0, .string x.f0.f1, .slice X2 x.f0.f2.length d2, .int .i32 x.f0.f3, .int .i64 x.f1.f0, .bool true, .int .u8 x.f2, .int .i32 x.f3.f0, .slice X8 x.f3.f1.length d8, .int .u32 x.f4] from HCS.out ▸ hb2); have HBL2 := Aside0.mk (hbl2 wr HBB.out HGB.out); clear hb2 hbl2 hsz2 hot2)
    | fail)
  clear HBB HBX HC2 HS2 HCS
  obtain ⟨wx, hwx⟩ : ∃ z, z = w2.drew := ⟨_, rfl⟩
  have hbd : Below w2.heap.size w2 wx := hwx ▸ below_drew (Below.refl _ _)
  have hbr : Below wr.heap.size wr wx := below_step HBL2.out hbd
  have QX := Aside0.mk (HQ2.out.below hbd)
  have V6x := Aside0.mk (Kd.R_below V6.out hbr)
  have V9x := Aside0.mk (Kd.R_below V9.out hbr)
  have G2x := Aside0.mk (Kd.R_below G2.out hbr)
  have G8x := Aside0.mk (Kd.R_below G8.out hbr)
  have BLx := Aside0.mk (low_below BL.out BS.out hbr)
  have BSx := Aside0.mk (Nat.le_trans BS.out hbr.size)
  clear hbd hbr HQ2 V6 V9 G2 G8 BL BS HBL2 HGB w1
  refine start_ (n := 27) (S := fun w' => w'.cell? ⟨gq, 1, none⟩ = some (.string x.f0.f1) ∧ w'.cell? ⟨gq, 2, none⟩ = some (.slice X2 x.f0.f2.length d2) ∧ w'.cell? ⟨gq, 3, none⟩ = some (.int .i32 x.f0.f3) ∧ w'.cell? ⟨gq, 4, none⟩ = some (.int .i64 x.f1.f0) ∧ w'.cell? ⟨gq, 5, none⟩ = some (.bool true) ∧ w'.cell? ⟨gq, 6, none⟩ = some (.int .u8 x.f2) ∧ w'.cell? ⟨gq, 7, none⟩ = some (.int .i32 x.f3.f0) ∧ w'.cell? ⟨gq, 8, none⟩ = some (.slice X8 x.f3.f1.length d8) ∧ w'.cell? ⟨gq, 9, none⟩ = some (.int .u32 x.f4)) (ds := [25]) #[false, false, false, false, false, false, false, false, false, false, false, false, false, false, false, false, false, false, false, false, false, false, false, false, false, false, false] (by kernel_rfl) rfl rfl ⟨(hwx ▸ (show _ from (Box.cell QX.out 1 _ rfl))), (hwx ▸ (show _ from (Box.cell QX.out 2 _ rfl))), (hwx ▸ (show _ from (Box.cell QX.out 3 _ rfl))), (hwx ▸ (show _ from (Box.cell QX.out 4 _ rfl))), (hwx ▸ (show _ from (Box.cell QX.out 5 _ rfl))), (hwx ▸ (show _ from (Box.cell QX.out 6 _ rfl))), (hwx ▸ (show _ from (Box.cell QX.out 7 _ rfl))), (hwx ▸ (show _ from (Box.cell QX.out 8 _ rfl))), (hwx ▸ (show _ from (Box.cell QX.out 9 _ rfl)))⟩ (fun hHeld => ?_)
  rw [← hwx] at hHeld ⊢
  clear hwx
  refine pure_ (i := 0) (N := some 15) (v := ?_) (a' := ?_) #[true, false, false, false, false, false, false, false, false, false, false, false, false, false, false, false, false, false, false, false, false, false, false, false, false, false, false] rfl rfl (by kernel_rfl) (fun _ _ _ h => h) (Or.inl ⟨by rfl, ?_⟩) ?_ ?_
  rotate_left
  · intro w'
    go_simp
    with_reducible rfl
  rotate_left
  · simp only [Act.put, List.setIfInBounds_toArray, List.set_cons_zero, List.set_cons_succ, i64_w, i32_w]
    rfl
  refine pure_ (i := 1) (N := some 16) (v := ?_) (a' := ?_) #[true, true, false, false, false, false, false, false, false, false, false, false, false, false, false, false, false, false, false, false, false, false, false, false, false, false, false] rfl rfl (by kernel_rfl) (fun _ _ _ h => h) (Or.inl ⟨by rfl, ?_⟩) ?_ ?_
  rotate_left
  · intro w'
    go_simp
    with_reducible rfl
  rotate_left
  · simp only [Act.put, List.setIfInBounds_toArray, List.set_cons_zero, List.set_cons_succ, i64_w, i32_w]
    rfl
  refine pure_ (i := 2) (N := some 17) (v := ?_) (a' := ?_) #[true, true, true, false, false, false, false, false, false, false, false, false, false, false, false, false, false, false, false, false, false, false, false, false, false, false, false] rfl rfl (by kernel_rfl) (fun _ _ _ h => h) (Or.inl ⟨by rfl, ?_⟩) ?_ ?_
  rotate_left
  · intro w'
    go_simp
    with_reducible rfl
  rotate_left
  · simp only [Act.put, List.setIfInBounds_toArray, List.set_cons_zero, List.set_cons_succ, i64_w, i32_w]
    rfl
  refine pure_ (i := 4) (N := some 19) (v := ?_) (a' := ?_) #[true, true, true, false, true, false, false, false, false, false, false, false, false, false, false, false, false, false, false, false, false, false, false, false, false, false, false] rfl rfl (by kernel_rfl) (fun _ _ _ h => h) (Or.inl ⟨by rfl, ?_⟩) ?_ ?_
  rotate_left
  · intro w'
    go_simp
    with_reducible rfl
  rotate_left
  · simp only [Act.put, List.setIfInBounds_toArray, List.set_cons_zero, List.set_cons_succ, i64_w, i32_w]
    rfl
  refine pure_ (i := 5) (N := some 20) (v := ?_) (a' := ?_) #[true, true, true, false, true, true, false, false, false, false, false, false, false, false, false, false, false, false, false, false, false, false, false, false, false, false, false] rfl rfl (by kernel_rfl) (fun _ _ _ h => h) (Or.inl ⟨by rfl, ?_⟩) ?_ ?_
  rotate_left
  · intro w'
    go_simp
    with_reducible rfl
  rotate_left
  · simp only [Act.put, List.setIfInBounds_toArray, List.set_cons_zero, List.set_cons_succ, i64_w, i32_w]
    rfl
  refine pure_ (i := 7) (N := some 22) (v := ?_) (a' := ?_) #[true, true, true, false, true, true, false, true, false, false, false, false, false, false, false, false, false, false, false, false, false, false, false, false, false, false, false] rfl rfl (by kernel_rfl) (fun _ _ _ h => h) (Or.inl ⟨by rfl, ?_⟩) ?_ ?_
  rotate_left
  · intro w'
    go_simp
    with_reducible rfl
  rotate_left
  · simp only [Act.put, List.setIfInBounds_toArray, List.set_cons_zero, List.set_cons_succ, i64_w, i32_w]
    rfl
  refine pure_ (i := 8) (N := some 23) (v := ?_) (a' := ?_) #[true, true, true, false, true, true, false, true, true, false, false, false, false, false, false, false, false, false, false, false, false, false, false, false, false, false, false] rfl rfl (by kernel_rfl) (fun _ _ _ h => h) (Or.inl ⟨by rfl, ?_⟩) ?_ ?_
  rotate_left
  · intro w'
    go_simp
    with_reducible rfl
  rotate_left
  · simp only [Act.put, List.setIfInBounds_toArray, List.set_cons_zero, List.set_cons_succ, i64_w, i32_w]
    rfl
  refine pure_ (i := 10) (N := some 25) (v := ?_) (a' := ?_) #[true, true, true, false, true, true, false, true, true, false, true, false, false, false, false, false, false, false, false, false, false, false, false, false, false, false, false] rfl rfl (by kernel_rfl) (fun _ _ _ h => h) (Or.inl ⟨by rfl, ?_⟩) ?_ ?_
  rotate_left
  · intro w'
    go_simp
    with_reducible rfl
  rotate_left
  · simp only [Act.put, List.setIfInBounds_toArray, List.set_cons_zero, List.set_cons_succ, i64_w, i32_w]
    rfl
  refine pure_ (i := 13) (N := some 28) (v := ?_) (a' := ?_) #[true, true, true, false, true, true, false, true, true, false, true, false, false, true, false, false, false, false, false, false, false, false, false, false, false, false, false] rfl rfl (by kernel_rfl) (fun _ _ _ h => h) (Or.inl ⟨by rfl, ?_⟩) ?_ ?_
  rotate_left
  · intro w'
    go_simp
    with_reducible rfl
  rotate_left
  · simp only [Act.put, List.setIfInBounds_toArray, List.set_cons_zero, List.set_cons_succ, i64_w, i32_w]
    rfl
  refine pure_ (i := 15) (N := some 30) (v := ?_) (a' := ?_) #[true, true, true, false, true, true, false, true, true, false, true, false, false, true, false, true, false, false, false, false, false, false, false, false, false, false, false] rfl rfl (by kernel_rfl) (fun _ _ _ h => h) (Or.inl ⟨by rfl, ?_⟩) ?_ ?_
  rotate_left
  · intro w'
    go_simp
    with_reducible rfl
  rotate_left
  · simp only [Act.put, List.setIfInBounds_toArray, List.set_cons_zero, List.set_cons_succ, i64_w, i32_w]
    rfl
  refine pure_ (i := 17) (N := some 32) (v := ?_) (a' := ?_) #[true, true, true, false, true, true, false, true, true, false, true, false, false, true, false, true, false, true, false, false, false, false, false, false, false, false, false] rfl rfl (by kernel_rfl) (fun _ _ _ h => h) (Or.inl ⟨by rfl, ?_⟩) ?_ ?_
  rotate_left
  · intro w'
    go_simp
    with_reducible rfl
  rotate_left
  · simp only [Act.put, List.setIfInBounds_toArray, List.set_cons_zero, List.set_cons_succ, i64_w, i32_w]
    rfl
  refine pure_ (i := 18) (N := some 33) (v := ?_) (a' := ?_) #[true, true, true, false, true, true, false, true, true, false, true, false, false, true, false, true, false, true, true, false, false, false, false, false, false, false, false] rfl rfl (by kernel_rfl) (fun _ _ _ h => h) (Or.inl ⟨by rfl, ?_⟩) ?_ ?_
  rotate_left
  · intro w'
    go_simp
    with_reducible rfl
  rotate_left
  · simp only [Act.put, List.setIfInBounds_toArray, List.set_cons_zero, List.set_cons_succ, i64_w, i32_w]
    rfl
  refine pure_ (i := 20) (N := some 35) (v := ?_) (a' := ?_) #[true, true, true, false, true, true, false, true, true, false, true, false, false, true, false, true, false, true, true, false, true, false, false, false, false, false, false] rfl rfl (by kernel_rfl) (fun _ _ _ h => h) (Or.inl ⟨by rfl, ?_⟩) ?_ ?_
  rotate_left
  · intro w'
    go_simp
    with_reducible rfl
  rotate_left
  · simp only [Act.put, List.setIfInBounds_toArray, List.set_cons_zero, List.set_cons_succ, i64_w, i32_w]
    rfl
  refine pure_ (i := 21) (N := some 36) (v := ?_) (a' := ?_) #[true, true, true, false, true, true, false, true, true, false, true, false, false, true, false, true, false, true, true, false, true, true, false, false, false, false, false] rfl rfl (by kernel_rfl) (fun _ _ _ h => h) (Or.inl ⟨by rfl, ?_⟩) ?_ ?_
  rotate_left
  · intro w'
    go_simp
    with_reducible rfl
  rotate_left
  · simp only [Act.put, List.setIfInBounds_toArray, List.set_cons_zero, List.set_cons_succ, i64_w, i32_w]
    rfl
  refine take_ (i := 3) (N := some 18) (v := ?_) (a' := ?_) #[true, true, true, true, true, true, false, true, true, false, true, false, false, true, false, true, false, true, true, false, true, true, false, false, false, false, false] rfl rfl (by kernel_rfl) (fun _ _ _ h => h) (Or.inl ⟨by rfl, ?_⟩) hHeld ?_ ?_
  rotate_left
  · rintro w' ⟨s0, s1, s2, s3, s4, s5, s6, s7, s8⟩
    go_simp
    with_reducible rfl
  rotate_left
  · simp only [Act.put, List.setIfInBounds_toArray, List.set_cons_zero, List.set_cons_succ, i64_w, i32_w]
    rfl
  refine take_ (i := 6) (N := some 21) (v := ?_) (a' := ?_) #[true, true, true, true, true, true, true, true, true, false, true, false, false, true, false, true, false, true, true, false, true, true, false, false, false, false, false] rfl rfl (by kernel_rfl) (fun _ _ _ h => h) (Or.inl ⟨by rfl, ?_⟩) hHeld ?_ ?_
  rotate_left
  · rintro w' ⟨s0, s1, s2, s3, s4, s5, s6, s7, s8⟩
    go_simp
    with_reducible rfl
  rotate_left
  · simp only [Act.put, List.setIfInBounds_toArray, List.set_cons_zero, List.set_cons_succ, i64_w, i32_w]
    rfl
  refine take_ (i := 9) (N := some 24) (v := ?_) (a' := ?_) #[true, true, true, true, true, true, true, true, true, true, true, false, false, true, false, true, false, true, true, false, true, true, false, false, false, false, false] rfl rfl (by kernel_rfl) (fun _ _ _ h => h) (Or.inl ⟨by rfl, ?_⟩) hHeld ?_ ?_
  rotate_left
  · rintro w' ⟨s0, s1, s2, s3, s4, s5, s6, s7, s8⟩
    go_simp
    with_reducible rfl
  rotate_left
  · simp only [Act.put, List.setIfInBounds_toArray, List.set_cons_zero, List.set_cons_succ, i64_w, i32_w]
    rfl
  refine take_ (i := 11) (N := some 26) (v := ?_) (a' := ?_) #[true, true, true, true, true, true, true, true, true, true, true, true, false, true, false, true, false, true, true, false, true, true, false, false, false, false, false] rfl rfl (by kernel_rfl) (fun _ _ _ h => h) (Or.inl ⟨by rfl, ?_⟩) hHeld ?_ ?_
  rotate_left
  · rintro w' ⟨s0, s1, s2, s3, s4, s5, s6, s7, s8⟩
    go_simp
    with_reducible rfl
  rotate_left
  · simp only [Act.put, List.setIfInBounds_toArray, List.set_cons_zero, List.set_cons_succ, i64_w, i32_w]
    rfl
  refine take_ (i := 14) (N := some 29) (v := ?_) (a' := ?_) #[true, true, true, true, true, true, true, true, true, true, true, true, false, true, true, true, false, true, true, false, true, true, false, false, false, false, false] rfl rfl (by kernel_rfl) (fun _ _ _ h => h) (Or.inl ⟨by rfl, ?_⟩) hHeld ?_ ?_
  rotate_left
  · rintro w' ⟨s0, s1, s2, s3, s4, s5, s6, s7, s8⟩
    go_simp
    with_reducible rfl
  rotate_left
  · simp only [Act.put, List.setIfInBounds_toArray, List.set_cons_zero, List.set_cons_succ, i64_w, i32_w]
    rfl
  refine take_ (i := 16) (N := some 31) (v := ?_) (a' := ?_) #[true, true, true, true, true, true, true, true, true, true, true, true, false, true, true, true, true, true, true, false, true, true, false, false, false, false, false] rfl rfl (by kernel_rfl) (fun _ _ _ h => h) (Or.inl ⟨by rfl, ?_⟩) hHeld ?_ ?_
  rotate_left
  · rintro w' ⟨s0, s1, s2, s3, s4, s5, s6, s7, s8⟩
    go_simp
    with_reducible rfl
  rotate_left
  · simp only [Act.put, List.setIfInBounds_toArray, List.set_cons_zero, List.set_cons_succ, i64_w, i32_w]
    rfl
  refine take_ (i := 19) (N := some 34) (v := ?_) (a' := ?_) #[true, true, true, true, true, true, true, true, true, true, true, true, false, true, true, true, true, true, true, true, true, true, false, false, false, false, false] rfl rfl (by kernel_rfl) (fun _ _ _ h => h) (Or.inl ⟨by rfl, ?_⟩) hHeld ?_ ?_
  rotate_left
  · rintro w' ⟨s0, s1, s2, s3, s4, s5, s6, s7, s8⟩
    go_simp
    with_reducible rfl
  rotate_left
  · simp only [Act.put, List.setIfInBounds_toArray, List.set_cons_zero, List.set_cons_succ, i64_w, i32_w]
    rfl
  refine take_ (i := 22) (N := some 37) (v := ?_) (a' := ?_) #[true, true, true, true, true, true, true, true, true, true, true, true, false, true, true, true, true, true, true, true, true, true, true, false, false, false, false] rfl rfl (by kernel_rfl) (fun _ _ _ h => h) (Or.inl ⟨by rfl, ?_⟩) hHeld ?_ ?_
  rotate_left
  · rintro w' ⟨s0, s1, s2, s3, s4, s5, s6, s7, s8⟩
    go_simp
    with_reducible rfl
  rotate_left
  · simp only [Act.put, List.setIfInBounds_toArray, List.set_cons_zero, List.set_cons_succ, i64_w, i32_w]
    rfl
  refine one_ (i := 12) (N := some 27) #[true, true, true, true, true, true, true, true, true, true, true, true, true, true, true, true, true, true, true, true, true, true, true, false, false, false, false] rfl rfl (by kernel_rfl) (by decide) (fun K hK => ?_)
  refine goes_ Try.func49 (by kernel_rfl) rfl #[.agg #[.int .i64 x.f1.f0, .bool true]] (by rfl) rfl rfl (by simp only [List.map_toArray, List.map_cons, List.map_nil]; rfl) ?_
  with_reducible refine ((timeUnix_any x.f1.f0 _)).mono ?_
  rintro e wy ⟨rfl, hb_⟩
  refine ⟨_, rfl, ?_⟩
  have QY := Aside0.mk (QX.out.below hb_)
  have V6y := Aside0.mk (Kd.R_below V6x.out hb_)
  have V9y := Aside0.mk (Kd.R_below V9x.out hb_)
  have G2y := Aside0.mk (Kd.R_below G2x.out hb_)
  have G8y := Aside0.mk (Kd.R_below G8x.out hb_)
  have BLy := Aside0.mk (low_below BLx.out BSx.out hb_)
  have BSy := Aside0.mk (Nat.le_trans BSx.out hb_.size)
  clear hb_
  refine hK.out _ _ ⟨(Box.cell QY.out 1 _ rfl), (Box.cell QY.out 2 _ rfl), (Box.cell QY.out 3 _ rfl), (Box.cell QY.out 4 _ rfl), (Box.cell QY.out 5 _ rfl), (Box.cell QY.out 6 _ rfl), (Box.cell QY.out 7 _ rfl), (Box.cell QY.out 8 _ rfl), (Box.cell QY.out 9 _ rfl)⟩ (fun hHeld => ?_)
  clear hK K
  refine norm_ (a' := ?_) ?_ ?_
  rotate_left
  · show Act.put _ (some 27) _ = _
    simp only [Act.put, List.setIfInBounds_toArray, List.set_cons_zero, List.set_cons_succ, i64_w, i32_w]
    rfl
  refine pure_ (i := 23) (N := some 38) (v := ?_) (a' := ?_) #[true, true, true, true, true, true, true, true, true, true, true, true, true, true, true, true, true, true, true, true, true, true, true, true, false, false, false] rfl rfl (by kernel_rfl) (fun _ _ _ h => h) (Or.inl ⟨by rfl, ?_⟩) ?_ ?_
  rotate_left
  · intro w'
    go_simp
    with_reducible rfl
  rotate_left
  · simp only [Act.put, List.setIfInBounds_toArray, List.set_cons_zero, List.set_cons_succ, i64_w, i32_w]
    rfl
  refine one_ (i := 24) (N := some 39) #[true, true, true, true, true, true, true, true, true, true, true, true, true, true, true, true, true, true, true, true, true, true, true, true, true, false, false] rfl rfl (by kernel_rfl) (by decide) (fun K hK => ?_)
  refine value_ (w1 := ?_) (v := ?_) (by rfl) rfl ?_ ?_
  rotate_left 2
  · go_simp
    constructor
    · rfl
    · rfl
  refine hK.out _ _ ⟨(Box.cell (QY.out.below (below_alloc (Below.refl _ _) _)) 1 _ rfl), (Box.cell (QY.out.below (below_alloc (Below.refl _ _) _)) 2 _ rfl), (Box.cell (QY.out.below (below_alloc (Below.refl _ _) _)) 3 _ rfl), (Box.cell (QY.out.below (below_alloc (Below.refl _ _) _)) 4 _ rfl), (Box.cell (QY.out.below (below_alloc (Below.refl _ _) _)) 5 _ rfl), (Box.cell (QY.out.below (below_alloc (Below.refl _ _) _)) 6 _ rfl), (Box.cell (QY.out.below (below_alloc (Below.refl _ _) _)) 7 _ rfl), (Box.cell (QY.out.below (below_alloc (Below.refl _ _) _)) 8 _ rfl), (Box.cell (QY.out.below (below_alloc (Below.refl _ _) _)) 9 _ rfl)⟩ (fun hHeld => ?_)
  clear hK K
  refine norm_ (a' := ?_) ?_ ?_
  rotate_left
  · show Act.put _ (some 39) _ = _
    simp only [Act.put, List.setIfInBounds_toArray, List.set_cons_zero, List.set_cons_succ, i64_w, i32_w]
    rfl
  refine last_ (i := 25) (N := some 40) #[true, true, true, true, true, true, true, true, true, true, true, true, true, true, true, true, true, true, true, true, true, true, true, true, true, true, false] rfl rfl (by kernel_rfl) (by decide) (fun K hK => ?_)
  have HMM := Aside0.mk (show k106.M wy base (fun k_ => True ∧ some k_ ≠ (Value.slice A6 n6 c6).ownBlock) (zz x) [.string x.f0.f1, .slice X2 x.f0.f2.length d2, .int .i32 x.f0.f3, .int .i64 x.f1.f0, .int .u8 x.f2, .int .u32 x.f4, .int .i32 x.f3.f0, .slice X8 x.f3.f1.length d8] from k106_mkM wy base _ (zz x) (Kd.R_apart' G2y.out (Kd.R_typed V6y.out) (by decide)) (Kd.R_apart' G8y.out (Kd.R_typed V6y.out) (by decide)))
  have HLE := Aside0.mk (show (((xs.take j).map zz).length + 1) * 96 ≤ 140737488355328 from by have h1 := HLEN.out; rw [List.length_map, List.length_take]; omega)
  have HNX := Aside0.mk (show (xs.take j).map zz ++ [zz x] = (xs.take (j + 1)).map zz from by rw [List.take_add_one, HX.out, List.map_append]; rfl)
  refine Kd.R_append_step k106 (w0 := wy) base (by rfl) (.tmp 15) (.tmp 39) 103 106 zero106 96 (by rfl) Try.underlying103 info106 rfl (by decide) (by decide) (.slice A6 n6 c6) ((xs.take j).map zz) (zz x) [.string x.f0.f1, .slice X2 x.f0.f2.length d2, .int .i32 x.f0.f3, .int .i64 x.f1.f0, .int .u8 x.f2, .int .u32 x.f4, .int .i32 x.f3.f0, .slice X8 x.f3.f1.length d8] (fun _ => True) (fun k_ => True ∧ some k_ ≠ (Value.slice A6 n6 c6).ownBlock) (by rfl) (by rfl) HMM.out (fun _ h => h) (fun _ _ => trivial) V6y.out (Below.refl _ _) BSy.out HLE.out ?_
  intro v7 w7 hv7 hb7 hg7 hat7
  rw [HNX.out] at hv7
  obtain ⟨A7, c7, ev7⟩ := Kd.R_slice hv7
  obtain ⟨n7, hn7⟩ : ∃ z, z = ((xs.take (j + 1)).map zz).length := ⟨_, rfl⟩
  rw [← hn7] at ev7
  subst ev7
  have V67 := Aside0.mk hv7
  have V97 := Aside0.mk (show k91.R 91 w7 base (fun _ => True) (.slice (some ad) xs.length c) xs from Kd.R_mono (Kd.R_grown (Kd.R_apart' V9y.out (Kd.R_typed V6y.out) (by decide)) hg7 (fun k hk => hk.2)) (fun _ _ => trivial))
  have BL7 := Aside0.mk (low_grown BLy.out BSy.out hg7 (fun j hj => Kd.R_base V6y.out j hj))
  have BS7 := Aside0.mk (Nat.le_trans BSy.out hg7.size)
  clear hv7 hb7 hg7 hat7 hn7
  refine hK.out _ _ ?_
  clear hK K
  refine norm_ (a' := ?_) ?_ ?_
  rotate_left
  · show Act.put _ (some 40) _ = _
    simp only [Act.put, List.setIfInBounds_toArray, List.set_cons_zero, List.set_cons_succ, i64_w, i32_w]
    rfl
  refine pure_ (i := 26) (N := some 3) (v := ?_) (a' := ?_) #[true, true, true, true, true, true, true, true, true, true, true, true, true, true, true, true, true, true, true, true, true, true, true, true, true, true, true] rfl rfl (by kernel_rfl) (fun _ _ _ h => h) (Or.inl ⟨by rfl, ?_⟩) ?_ ?_
  rotate_left
  · intro w'
    go_simp
    with_reducible rfl
  rotate_left
  · simp only [Act.put, List.setIfInBounds_toArray, List.set_cons_zero, List.set_cons_succ, i64_w, i32_w]
    rfl
  refine done_ (by kernel_rfl) ?_
  
  go_wp2_with fail
  go_roundw
  case rel => exact ⟨j + 1, A7, n7, c7, HLT.out, rfl, by go_num, V67, V97, BL7, BS7⟩
  case measure => have := HLT.out; simp [intOf]; omega
set_option maxHeartbeats 8000000 in
theorem entriesOf_any (gt base : Nat) (A : Option Addr) (n c : Nat) (xs : List S91) (w : World) (ht : Box w gt 74 #[.int .u8 2, .slice A n c]) (hR : k91.R 91 w base (fun _ => True) (.slice A n c) xs) (hset : ∀ x ∈ xs, x.f1.f1 = true) (hlen : xs.length ≤ 1000) (hkey : ∀ x ∈ xs, x.f3.f1.length ≤ 1000) (hb : base ≤ w.heap.size) :
    Calls Try.prog 27 #[.pointer (some ⟨gt, 0, none⟩)] w fun e w' => ∃ A' n' c', e = .returned (.slice A' n' c') ∧ k49.R 49 w' base (fun _ => True) (.slice A' n' c') ((xs.map zz).map to49) ∧ Below base w w' := by
  have hu106 := Try.underlying106
  have hu49 := Try.underlying49
  have HT := Aside0.mk ht
  have HR := Aside0.mk hR
  have HSET := Aside0.mk hset
  have HLEN := Aside0.mk hlen
  have HB := Aside0.mk hb
  obtain ⟨ys, hys⟩ : ∃ ys, ys = xs.map zz := ⟨_, rfl⟩
  rw [← hys]
  have HYS := Aside0.mk hys
  have HYL := Aside0.mk (show ys.length ≤ 1000 from by rw [hys, List.length_map]; exact hlen)
  clear hR hset ht hb hys
  go_enter Try.func27, Try.ntmps27
  go_wp2_with fail
  refine (zzEntries_any gt base A n c xs w HT.out HR.out HSET.out HLEN.out HB.out).mono ?_
  rintro e w1 ⟨A1, n1, c1, rfl, hv, hbl⟩
  rw [← HYS.out] at hv
  have hyl : ys.length ≤ 1000 := HYL.out
  obtain ⟨hn, hnc, _⟩ := Kd.R_reads' hv
  subst hn
  have HV := Aside0.mk hv
  have BL0 := Aside0.mk hbl
  have BS0 := Aside0.mk (Nat.le_trans HB.out hbl.size)
  clear hv hbl HT HR HB HSET HLEN HYS
  go_wp2_with fail
  go_loopw [3, 9] (fun va i wr => ∃ (j : Nat) (A6 : Option Addr) (n6 c6 : Nat), j ≤ ys.length ∧ va = .slice A6 n6 c6 ∧ i = .int .i64 j ∧ Aside0 (k49.R 49 wr base (fun _ => True) (.slice A6 n6 c6) ((ys.take j).map to49)) ∧ Aside0 (k106.R 106 wr base (fun _ => True) (.slice A1 ys.length c1) ys) ∧ Aside0 (Below base w wr) ∧ Aside0 (base ≤ wr.heap.size)) (fun _ i _ => ys.length - (intOf i).toNat)
  case atStart => exact ⟨0, none, 0, 0, Nat.zero_le _, rfl, rfl, ⟨Kd.R_nil _ _ _ _ _⟩, HV, BL0, BS0⟩
  clear HV BL0 BS0
  obtain ⟨j, A6, n6, c6, hj, rfl, rfl, V6, V9, BL, BS⟩ := hrel
  by_cases hlt : j < ys.length
  case neg =>
    obtain rfl : j = ys.length := by omega
    have hnl : ¬ ((ys.length : Int) < (ys.length : Int)) := by omega
    go_wp2
    go_ret
    have hv := V6.out
    rw [List.take_length] at hv
    exact ⟨_, _, _, rfl, hv, BL.out⟩
  have hlt' : (j : Int) < (ys.length : Int) := by omega
  have hj0 : (0 : Int) ≤ (j : Int) := by omega
  obtain ⟨ad, x, X1, d1, X7, d7, rfl, hx, hcells, g1, g7⟩ := row106 V9.out j hlt
  have HX := Aside0.mk hx
  have HLT := Aside0.mk hlt
  have G1 := Aside0.mk g1
  have G7 := Aside0.mk g7
  obtain ⟨cs, hcs⟩ : ∃ y : Array Value, y = #[Value.string x.f0, .slice X1 x.f1.length d1, .int .i32 x.f2, .int .i64 x.f3, .int .u8 x.f4, .int .u32 x.f5, .int .i32 x.f6, .slice X7 x.f7.length d7] := ⟨_, rfl⟩
  have HC2 := Aside0.mk (show (∀ i u, cs.toList[i]? = some u → wr.cell? ((ad.add (j * 8)).add i) = some u) ∧ cs.toList.length = 8 from by subst hcs; exact ⟨hcells, rfl⟩)
  have HS2 := Aside0.mk (show cs.size = 8 ∧ cs.all (·.oneCell') = true from by subst hcs; exact ⟨rfl, by simp [Value.oneCell']⟩)
  have HCS := Aside0.mk hcs
  clear hcs hx hcells g1 g7 hlt
  go_upto_region 5 with (first
    | ((with_reducible refine gate_dst (N := 12) rfl ?_); refine load_cells_event ?hg (N := 12) ?hd 106 (.tmp 11) (ad.add (j * 8)) cs.toList _ ?ho ?hx HC2.out.1 Try.underlying106 ?hq ?hi ?_; (case hg => rfl); (case hd => rfl); (case ho => rfl); (case hx => first | rfl | (go_simp; done)); (case hq => rfl); (case hi => exact size106.trans (congrArg some HC2.out.2.symm)))
    | ((with_reducible refine gate_dst (N := 5) rfl ?_); refine box_event ?hg (N := 5) ?hd (cs := #[.string ⟨#[]⟩, .slice none 0 0, .int .i32 0, .int .i64 0, .int .u8 0, .int .u32 0, .int .i32 0, .slice none 0 0]) (t := 106) ?hr ?_; (case hd => rfl); (case hg => rfl); (case hr => first | (go_simp; done) | (go_simp; rfl)); intro gq hgb w1' hbox hb; have HBX := Aside0.mk hbox; have HBB := Aside0.mk hb; have HGB := Aside0.mk (show wr.heap.size ≤ gq from by rw [hgb]; exact Nat.le_refl _); clear hbox hb hgb)
    | ((with_reducible refine gate_store (t := 106) (p := 5) (v := .tmp 12) rfl ?_); refine store_event ?hg 106 (.tmp 5) (.tmp 12) ?ho gq cs ?hx ?hy 106 _ HBX.out ?hi ?hl HS2.out.2 ?_; (case hg => rfl); (case ho => rfl); (case hx => first | rfl | (go_simp; done)); (case hy => first | (simp only [Array.toArray_toList]; rfl) | (go_simp; done)); (case hi => exact size106.trans (congrArg some HS2.out.1.symm)); (case hl => exact HS2.out.1.symm); intro w2 hb2 hbl2 hsz2 hot2; have HQ2 := Aside0.mk (show Box w2 gq 106 #[Value.string x.f0, .slice X1 x.f1.length d1, .int .i32 x.f2, .int .i64 x.f3, .int .u8 x.f4, .int .u32 x.f5, .int .i32 x.f6, .slice X7 x.f7.length d7] from HCS.out ▸ hb2); have HBL2 := Aside0.mk (hbl2 wr HBB.out HGB.out); clear hb2 hbl2 hsz2 hot2)
    | fail)
  clear HBB HBX HC2 HS2 HCS
  have V6x := Aside0.mk (Kd.R_below V6.out HBL2.out)
  have V9x := Aside0.mk (Kd.R_below V9.out HBL2.out)
  have G1x := Aside0.mk (Kd.R_below G1.out HBL2.out)
  have G7x := Aside0.mk (Kd.R_below G7.out HBL2.out)
  have BLx := Aside0.mk (low_below BL.out BS.out HBL2.out)
  have BSx := Aside0.mk (Nat.le_trans BS.out HBL2.out.size)
  have hcv : (convert 35 9 (.slice X7 x.f7.length d7)).run Try.prog w2 = .ok (.string (strOfNums x.f7)) w2 := own_string (P := Try.prog) Try.underlying35 Try.underlying5 Try.underlying9 (Kd.own_of_R G7x.out)
  have q0 := HQ2.out.cell 0 (.string x.f0) rfl
  have q1 := HQ2.out.cell 1 (.slice X1 x.f1.length d1) rfl
  have q2 := HQ2.out.cell 2 (.int .i32 x.f2) rfl
  have q3 := HQ2.out.cell 3 (.int .i64 x.f3) rfl
  have q4 := HQ2.out.cell 4 (.int .u8 x.f4) rfl
  have q5 := HQ2.out.cell 5 (.int .u32 x.f5) rfl
  have q6 := HQ2.out.cell 6 (.int .i32 x.f6) rfl
  have q7 := HQ2.out.cell 7 (.slice X7 x.f7.length d7) rfl
  have HMM := Aside0.mk (show k49.M w2 base (fun k_ => True ∧ some k_ ≠ (Value.slice A6 n6 c6).ownBlock) (to49 x) [.string x.f0, .slice X1 x.f1.length d1, .int .i32 x.f2, .int .i64 x.f3, .int .u8 x.f4, .int .u32 x.f5, .int .i32 x.f6, .string (strOfNums x.f7)] from k49_mkM w2 base _ (to49 x) (Kd.R_apart' G1x.out (Kd.R_typed V6x.out) (by decide)))
  have HLE := Aside0.mk (show (((ys.take j).map to49).length + 1) * 88 ≤ 140737488355328 from by have h1 := HYL.out; rw [List.length_map, List.length_take]; omega)
  have HNX := Aside0.mk (show (ys.take j).map to49 ++ [to49 x] = (ys.take (j + 1)).map to49 from by rw [List.take_add_one, HX.out, List.map_append]; rfl)
  obtain ⟨acc, hacc⟩ : ∃ a, a = (ys.take j).map to49 := ⟨_, rfl⟩
  have v_ := V6x.out
  have l_ := HLE.out
  have n_ := HNX.out
  rw [← hacc] at v_ l_ n_
  have VA := Aside0.mk v_
  have LA := Aside0.mk l_
  have NA := Aside0.mk n_
  clear v_ l_ n_ hacc HLE HNX V6x V6 V9 G1 G7 BL BS G7x HBL2 HGB w1'
  go_wp2_with ((with_reducible refine gate_builtin (b := .append) (xs := #[.tmp 13, .tmp 32]) rfl ?_); at_builtin; refine Kd.R_append k49 (w0 := w2) base rfl (.tmp 13) (.tmp 32) 32 49 zero49 88 rfl Try.underlying32 info49 rfl (by decide) (by decide) (.slice A6 n6 c6) acc (to49 x) [.string x.f0, .slice X1 x.f1.length d1, .int .i32 x.f2, .int .i64 x.f3, .int .u8 x.f4, .int .u32 x.f5, .int .i32 x.f6, .string (strOfNums x.f7)] (fun _ => True) (fun k_ => True ∧ some k_ ≠ (Value.slice A6 n6 c6).ownBlock) rfl rfl HMM.out (fun _ h => h) (fun _ _ => trivial) VA.out (Below.refl _ _) BSx.out LA.out ?_; intro v7 w7 hv7 hb7 hg7 hat7; rw [NA.out] at hv7; obtain ⟨A7, c7, ev7⟩ := Kd.R_slice hv7; obtain ⟨n7, hn7⟩ : ∃ z, z = ((ys.take (j + 1)).map to49).length := ⟨_, rfl⟩; rw [← hn7] at ev7; subst ev7; have V67 := Aside0.mk hv7; have V97 := Aside0.mk (show k106.R 106 w7 base (fun _ => True) (.slice (some ad) ys.length c1) ys from Kd.R_mono (Kd.R_grown (Kd.R_apart' V9x.out (Kd.R_typed VA.out) (by decide)) hg7 (fun k hk => hk.2)) (fun _ _ => trivial)); have BL7 := Aside0.mk (low_grown BLx.out BSx.out hg7 (fun j hj => Kd.R_base VA.out j hj)); have BS7 := Aside0.mk (Nat.le_trans BSx.out hg7.size); clear hv7 hb7 hg7 hat7 hn7)
  go_roundw
  case rel => exact ⟨j + 1, A7, n7, c7, HLT.out, rfl, by go_num, V67, V97, BL7, BS7⟩
  case measure => have := HLT.out; simp [intOf]; omega
end Go.Proofs.Ytcbbipdiahmelaa.B

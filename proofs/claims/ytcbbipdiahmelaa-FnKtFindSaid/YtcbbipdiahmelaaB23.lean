/- A key is looked for in the bytes of a keytab; under what each theorem states. Written by a program of this session. -/
import Derived.Test.YtcbbipdiahmelaaB22
namespace Go.Proofs.Ytcbbipdiahmelaa.B
open Go.RowKit Go.Proofs.YtcbbipdiahmelaaW.PrintWords Go.Proofs.YtcbbipdiahmelaaW.PrintLast
open Go.Proofs.Ytcbbipdiahmelaa.A (S25 S91 k91)
set_option linter.unusedVariables false
set_option linter.unusedSimpArgs false
set_option maxRecDepth 100000
theorem alloc4 (w : World) (a b c d : Array Value) (s t u v : Nat) : ∃ w1, w1 = (((w.alloc (.cells a s)).alloc (.cells b t)).alloc (.cells c u)).alloc (.cells d v) ∧ Box w1 w.heap.size s a ∧ Box w1 (w.heap.size + 1) t b ∧ Box w1 (w.heap.size + 1 + 1) u c ∧ Box w1 (w.heap.size + 1 + 1 + 1) v d ∧ Below w.heap.size w w1 := by
  refine ⟨_, rfl, (((Box.new _ _ _).alloc _).alloc _).alloc _, ((Box.next _ _ _ _).alloc _).alloc _, ?_, ?_, below_alloc (below_alloc (below_alloc (below_alloc (Below.refl _ _) _) _) _) _⟩
  · have h := Box.next (w.alloc (.cells a s)) (.cells b t) c u
    rw [show (w.alloc (.cells a s)).heap.size = w.heap.size + 1 from by simp] at h
    exact h.alloc _
  · have h := Box.next ((w.alloc (.cells a s)).alloc (.cells b t)) (.cells c u) d v
    rw [show ((w.alloc (.cells a s)).alloc (.cells b t)).heap.size = w.heap.size + 1 + 1 from by simp] at h
    exact h
/-- KeytabFind's variables for its results. -/
structure Fv (w0 w : World) (h1 h2 h3 : Nat) (s : ByteArray) (k n : Int) (b : Bool) : Prop where
  b0 : Box w w0.heap.size 9 #[.string s]
  b1 : Box w h1 21 #[.int .i32 k]
  b2 : Box w h2 3 #[.int .i64 n]
  b3 : Box w h3 4 #[.bool b]
  low : Below w0.heap.size w0 w
section
variable {w0 w w' : World} {h1 h2 h3 : Nat} {s : ByteArray} {k n : Int} {b : Bool}
theorem Fv.below (h : Fv w0 w h1 h2 h3 s k n b) (hb : Below w.heap.size w w') : Fv w0 w' h1 h2 h3 s k n b := ⟨h.b0.below hb, h.b1.below hb, h.b2.below hb, h.b3.below hb, below_step h.low hb⟩
theorem Fv.lowB {B : Nat} (h : Fv w0 w h1 h2 h3 s k n b) (hb : Below B w w') (hB : w0.heap.size < B ∧ h1 < B ∧ h2 < B ∧ h3 < B) : Fv w0 w' h1 h2 h3 s k n b :=
  ⟨h.b0.low hb hB.1, h.b1.low hb hB.2.1, h.b2.low hb hB.2.2.1, h.b3.low hb hB.2.2.2, low_trans h.low (low_weaken hb (Nat.le_of_lt hB.1) h.low.size)⟩
theorem Fv.put0 (h : Fv w0 w h1 h2 h3 s k n b) (s' : ByteArray) : Fv w0 (w.setCell ⟨w0.heap.size, 0, none⟩ (.string s')) h1 h2 h3 s' k n b :=
  ⟨h.b0.puts 0 _ rfl, h.b1.far (h.b1.ne h.b0 (by decide)) 0 _, h.b2.far (h.b2.ne h.b0 (by decide)) 0 _, h.b3.far (h.b3.ne h.b0 (by decide)) 0 _, low_set h.low (Nat.le_refl _) 0 _⟩
theorem Fv.put1 (h : Fv w0 w h1 h2 h3 s k n b) (hl : w0.heap.size ≤ h1) (k' : Int) : Fv w0 (w.setCell ⟨h1, 0, none⟩ (.int .i32 k')) h1 h2 h3 s k' n b :=
  ⟨h.b0.far (h.b0.ne h.b1 (by decide)) 0 _, h.b1.puts 0 _ rfl, h.b2.far (h.b2.ne h.b1 (by decide)) 0 _, h.b3.far (h.b3.ne h.b1 (by decide)) 0 _, low_set h.low hl 0 _⟩
theorem Fv.put2 (h : Fv w0 w h1 h2 h3 s k n b) (hl : w0.heap.size ≤ h2) (n' : Int) : Fv w0 (w.setCell ⟨h2, 0, none⟩ (.int .i64 n')) h1 h2 h3 s k n' b :=
  ⟨h.b0.far (h.b0.ne h.b2 (by decide)) 0 _, h.b1.far (h.b1.ne h.b2 (by decide)) 0 _, h.b2.puts 0 _ rfl, h.b3.far (h.b3.ne h.b2 (by decide)) 0 _, low_set h.low hl 0 _⟩
theorem Fv.put3 (h : Fv w0 w h1 h2 h3 s k n b) (hl : w0.heap.size ≤ h3) (b' : Bool) : Fv w0 (w.setCell ⟨h3, 0, none⟩ (.bool b')) h1 h2 h3 s k n b' :=
  ⟨h.b0.far (h.b0.ne h.b3 (by decide)) 0 _, h.b1.far (h.b1.ne h.b3 (by decide)) 0 _, h.b2.far (h.b2.ne h.b3 (by decide)) 0 _, h.b3.puts 0 _ rfl, low_set h.low hl 0 _⟩
end
def found : Option S25 → Value
  | none => .tuple #[.string ⟨#[]⟩, .int .i32 0, .int .i64 0, .bool false]
  | some b => .tuple #[.string b.f7, .int .i32 b.f6, .int .i64 b.f5, .bool true]
theorem info65z : (Try.prog.info? 65).map (·.size) = some 2 := by kernel_rfl
theorem keyStr {w : World} {A : Option Addr} {n c : Nat} {s : ByteArray} (h : (Kd.int .u8).C w A n (bytesOf s)) : (convert 35 9 (.slice A n c)).run Try.prog w = .ok (.string s) w := by
  have h2 := Kd.C_string (P := Try.prog) (c := c) Try.underlying35 Try.underlying5 Try.underlying9 h
  rwa [strOf_bytesOf'] at h2
set_option maxHeartbeats 4000000 in
theorem keytabFind_reads (s : ByteArray) (C : List Chunk) (es : List S25) (names : List ByteArray) (realm : ByteArray) (v kt : Int) (A1 : Option Addr) (c1 : Nat) (w : World) (hs : s.size ≤ 1099511627776) (hD : bytesOf s = 5 :: 2 :: C.flatMap Chunk.bytes) (hC : C ≠ []) (hok : ∀ c ∈ C, c.Ok) (hcl : C.length ≤ 1000) (hes : C.flatMap Chunk.out = es.map pe) (hoe : ∀ e ∈ es, OkE e) (hle : es.length ≤ 1000)
    (hn : Kd.string.C w A1 names.length names) (hv : 0 ≤ v ∧ v < 65536) (hkt : -2147483648 ≤ kt ∧ kt < 2147483648) (hkey : ∀ e ∈ es, e.f7.size ≠ 0) :
    Calls Try.prog 18 #[.string s, .slice A1 names.length c1, .string realm, .int .i64 v, .int .i32 kt] w fun x w' => x = .returned (found (es.foldl (newer (hit names realm v kt)) none)) ∧ Below w.heap.size w w' := by
  have hmf : ∀ (fn : Fn) (first cap : Array Value) (w : World), (Instr.makeFunc fn first cap).run Try.prog w = .ok (.func fn first cap) w := fun _ _ _ _ => rfl
  have HS := Aside0.mk hs
  have HU := Aside0.mk (show ∀ (gb gt B : Nat) (w1 : World), Box w1 gb 5 (nums .u8 (bytesOf s)).toArray → Box w1 gt 74 #[.int .u8 2, .slice none 0 0] → B ≤ gt → B ≤ w1.heap.size → Calls Try.prog 25 #[.pointer (some ⟨gt, 0, none⟩), .slice (some ⟨gb, 0, none⟩) (bytesOf s).length (bytesOf s).length] w1 fun e w' => ∃ A c, e = .returned .nilIface ∧ Box w' gt 74 #[.int .u8 2, .slice A es.length c] ∧ k91.R 91 w' w1.heap.size (fun _ => True) (.slice A es.length c) (es.map pe) ∧ Below B w1 w' from fun gb gt B w1 hb ht hB hBs => (unmarshal_reads gt gb B C (bytesOf s) w1 (okBytes_of hs) hD hC hok hcl hb ht hB hBs).mono (by
    rintro x w' ⟨A, n, c, rfl, h1, h2, h3⟩
    rw [hes] at h2
    have hn := (Kd.R_reads' h2).1
    rw [List.length_map] at hn
    subst hn
    exact ⟨A, c, rfl, h1, h2, h3⟩))
  have HOE := Aside0.mk (And.intro hoe (And.intro hle hkey))
  have HN := Aside0.mk hn
  have HV := Aside0.mk (And.intro hv hkt)
  have hu69 := Try.underlying69
  have hu65 := Try.underlying65
  have hz69 : (Try.prog.info? 69).map (fun i => (i.zero, i.size)) = some (some (.agg #[.int .i32 0, .slice none 0 0]), 2) := by kernel_rfl
  obtain ⟨o, ho⟩ : ∃ o, es.foldl (newer (hit names realm v kt)) none = o := ⟨_, rfl⟩
  rw [ho]
  have HO := Aside0.mk ho
  clear hs hD hC hok hcl hes hoe hle hn hv hkt hkey ho
  go_enter_defers Try.func18, Try.ntmps18
  go_wp2_with fail
  obtain ⟨w1, hw1, x0, x1, x2, x3, xl⟩ := alloc4 w #[.string ⟨#[]⟩] #[.int .i32 0] #[.int .i64 0] #[.bool false] 9 21 3 4
  rw [← hw1]
  have nH : w.heap.size < w.heap.size + 1 ∧ w.heap.size + 1 < w.heap.size + 1 + 1 ∧ w.heap.size + 1 + 1 < w.heap.size + 1 + 1 + 1 := by omega
  clear hw1
  generalize w.heap.size + 1 + 1 + 1 = h3 at *
  generalize w.heap.size + 1 + 1 = h2 at *
  generalize w.heap.size + 1 = h1 at *
  have NH := Aside0.mk nH
  have F1 := Aside0.mk (show Fv w w1 h1 h2 h3 ⟨#[]⟩ 0 0 false from ⟨x0, x1, x2, x3, xl⟩)
  have HB1 := Aside0.mk (show w.heap.size < w1.heap.size ∧ h1 < w1.heap.size ∧ h2 < w1.heap.size ∧ h3 < w1.heap.size from ⟨x0.lt, x1.lt, x2.lt, x3.lt⟩)
  clear nH x0 x1 x2 x3 xl
  with_reducible refine (new_any _).mono ?_
  rintro e w2 ⟨gt, rfl, ht, hgt, hb⟩
  have F2 := Aside0.mk (F1.out.below hb)
  have T2 := Aside0.mk ht
  have GT := Aside0.mk (show w1.heap.size ≤ gt ∧ w1.heap.size ≤ w2.heap.size from ⟨by omega, hb.size⟩)
  clear ht hgt hb F1
  go_wp2_with fail
  with_reducible refine (exact_any s _ HS.out).mono ?_
  rintro e w3 ⟨gb, rfl, hx, hge, hb⟩
  have F3 := Aside0.mk (F2.out.below hb)
  have T3 := Aside0.mk (T2.out.below hb)
  have X3 := Aside0.mk hx
  have GT3 := Aside0.mk (show w1.heap.size ≤ gt ∧ w1.heap.size ≤ w3.heap.size from ⟨GT.out.1, Nat.le_trans GT.out.2 hb.size⟩)
  clear hx hge hb F2 T2 GT
  go_wp2_with fail
  with_reducible refine (HU.out gb gt w1.heap.size w3 X3.out T3.out GT3.out.1 GT3.out.2).mono ?_
  rintro e w4 ⟨Ae, ce, rfl, ht, hv, hb⟩
  have F4 := Aside0.mk (F3.out.lowB hb HB1.out)
  have T4 := Aside0.mk ht
  have V4 := Aside0.mk hv
  clear hb ht hv F3 T3 X3 GT3
  go_wp2_with fail
  refine (getKey_any gt w3.heap.size Ae A1 ce c1 es names realm v kt w4 T4.out V4.out HOE.out.1 HOE.out.2.1 (Kd.C_below HN.out F4.out.low) HV.out.1 HV.out.2 HOE.out.2.2).mono ?_
  rw [HO.out]
  rintro e w5 ⟨⟨kt0, A0, n0, c0, v0, er, rfl, hT⟩, hb⟩
  have F5 := Aside0.mk (F4.out.below hb)
  have HT5 := Aside0.mk hT
  have HB5 := Aside0.mk hb
  clear hb hT F4 T4 V4
  obtain ⟨cs, hcs⟩ : ∃ y : Array Value, y = #[.int .i32 kt0, .slice A0 n0 c0] := ⟨_, rfl⟩
  have HCS := Aside0.mk hcs
  have HS2 := Aside0.mk (show cs.size = 2 ∧ cs.all (·.oneCell') = true from by subst hcs; exact ⟨rfl, by simp [Value.oneCell']⟩)
  rw [← hcs]
  clear hcs
  go_upto_region 6 with (first | ((with_reducible refine gate_dst (N := 15) rfl ?_); refine box_event ?hg (N := 15) ?hd (cs := #[.int .i32 0, .slice none 0 0]) (t := 65) ?hr ?_; (case hd => rfl); (case hg => rfl); (case hr => first | (go_simp; done) | (go_simp; rfl)); intro gq hgb w6 hbox hb; have HBX := Aside0.mk hbox; have HBB := Aside0.mk hb; have HGB := Aside0.mk (show w5.heap.size ≤ gq from by rw [hgb]; exact Nat.le_refl _); clear hbox hb hgb) | ((with_reducible refine gate_store (t := 65) (p := 15) (v := .tmp 33) rfl ?_); refine store_event ?hg 65 (.tmp 15) (.tmp 33) ?ho gq cs ?hx ?hy 65 _ HBX.out ?hi ?hl HS2.out.2 ?_; (case hg => rfl); (case ho => rfl); (case hx => first | rfl | (go_simp; done)); (case hy => first | (simp only [Array.toArray_toList]; rfl) | (go_simp; done)); (case hi => exact info65z.trans (congrArg some HS2.out.1.symm)); (case hl => exact HS2.out.1.symm); intro w7 hb2 hbl2 hsz2 hot2; have Q7 := Aside0.mk (show Box w7 gq 65 #[.int .i32 kt0, .slice A0 n0 c0] from HCS.out ▸ hb2); have F7 := Aside0.mk (F5.out.below (hbl2 w5 HBB.out HGB.out)); have B7 := Aside0.mk (below_step HB5.out (hbl2 w5 HBB.out HGB.out)); clear hb2 hbl2 hsz2 hot2) | fail)
  clear HBB HBX HGB HS2
  have hl1 : w.heap.size ≤ h1 := by have := NH.out; omega
  have hl2 : w.heap.size ≤ h2 := by have := NH.out; omega
  have hl3 : w.heap.size ≤ h3 := by have := NH.out; omega
  have HL := Aside0.mk (And.intro hl1 (And.intro hl2 hl3))
  clear hl1 hl2 hl3 HO
  cases o with
  | none =>
    obtain ⟨pe_, rfl⟩ := HT5.out
    have c0 := F7.out.b0.cell 0 (.string ⟨#[]⟩) rfl
    have c1_ := F7.out.b1.cell 0 (.int .i32 0) rfl
    have c2 := F7.out.b2.cell 0 (.int .i64 0) rfl
    have c3 := F7.out.b3.cell 0 (.bool false) rfl
    have f0 := F7.out.b0.free 0
    have f1 := F7.out.b1.free 0
    have f2 := F7.out.b2.free 0
    have f3 := F7.out.b3.free 0
    have n01 := F7.out.b0.ne F7.out.b1 (by decide)
    have n02 := F7.out.b0.ne F7.out.b2 (by decide)
    have n03 := F7.out.b0.ne F7.out.b3 (by decide)
    have n12 := F7.out.b1.ne F7.out.b2 (by decide)
    have n13 := F7.out.b1.ne F7.out.b3 (by decide)
    have n23 := F7.out.b2.ne F7.out.b3 (by decide)
    go_wp2_with fail
    clear c0 c1_ c2 c3 f0 f1 f2 f3 n01 n02 n03 n12 n13 n23
    have F8 := Aside0.mk ((((F7.out.put0 ⟨#[]⟩).put1 HL.out.1 0).put2 HL.out.2.1 0).put3 HL.out.2.2 false)
    have k0 := F8.out.b0.cell 0 _ rfl
    have k1 := F8.out.b1.cell 0 _ rfl
    have k2 := F8.out.b2.cell 0 _ rfl
    have k3 := F8.out.b3.cell 0 _ rfl
    have HBL := Aside0.mk F8.out.low
    refine leaves_cons (f := 31) (args := #[.pointer (some ⟨w.heap.size, 0, none⟩), .pointer (some ⟨h1, 0, none⟩), .pointer (some ⟨h2, 0, none⟩), .pointer (some ⟨h3, 0, none⟩)]) (by simp) (by simp [go_sem]) ?_
    refine (idle31 _ _ _ _ _).mono ?_
    rintro e u' w'' ⟨rfl, rfl, rfl⟩
    clear F7 F8 HT5 HB5 HB1 Q7 B7
    generalize (((w7.setCell ⟨w.heap.size, 0, none⟩ (.string ⟨#[]⟩)).setCell ⟨h1, 0, none⟩ (.int .i32 0)).setCell ⟨h2, 0, none⟩ (.int .i64 0)).setCell ⟨h3, 0, none⟩ (.bool false) = wz at *
    simp [Leaves, settle, results, Try.results18, go_sem] at *
    simp [k0, k1, k2, k3]
    exact ⟨rfl, HBL.out⟩
  | some b =>
    obtain ⟨rfl, rfl, rfl, hC, rfl⟩ := HT5.out
    have HC := Aside0.mk hC
    clear hC
    go_upto_region 8 with fail
    obtain ⟨wx, hwx⟩ : ∃ z, z = w7.drew := ⟨_, rfl⟩
    have hbd : Below w7.heap.size w7 wx := hwx ▸ below_drew (Below.refl _ _)
    have FX := Aside0.mk (F7.out.below hbd)
    have QX := Aside0.mk (Q7.out.below hbd)
    have hcv := Aside0.mk (keyStr (c := c0) (Kd.C_below HC.out (below_step B7.out hbd)))
    clear hbd F7 Q7 B7 HC
    refine wp_region_noPanic ?_
    refine start_ (n := 10) (S := fun w' => w'.cell? ⟨gq, 0, none⟩ = some (.int .i32 b.f6) ∧ w'.cell? ⟨gq, 1, none⟩ = some (.slice A0 b.f7.size c0)) (ds := [7, 8, 9]) #[false, false, false, false, false, false, false, false, false, false] (by kernel_rfl) rfl rfl ⟨(hwx ▸ (show _ from (Box.cell QX.out 0 (.int .i32 b.f6) rfl))), (hwx ▸ (show _ from (Box.cell QX.out 1 (.slice A0 b.f7.size c0) rfl)))⟩ (fun hHeld => ?_)
    rw [← hwx] at hHeld ⊢
    clear hwx
    refine pure_ (i := 0) (N := some 38) (v := ?_) (a' := ?_) #[true, false, false, false, false, false, false, false, false, false] rfl rfl (by kernel_rfl) (fun _ _ _ h => h) (Or.inl ⟨by rfl, ?_⟩) ?_ ?_
    rotate_left
    · intro w'
      go_simp
      with_reducible rfl
    rotate_left
    · simp only [Act.put, List.setIfInBounds_toArray, List.set_cons_zero, List.set_cons_succ, i64_w, i32_w]
      rfl
    refine pure_ (i := 3) (N := some 41) (v := ?_) (a' := ?_) #[true, false, false, true, false, false, false, false, false, false] rfl rfl (by kernel_rfl) (fun _ _ _ h => h) (Or.inl ⟨by rfl, ?_⟩) ?_ ?_
    rotate_left
    · intro w'
      go_simp
      with_reducible rfl
    rotate_left
    · simp only [Act.put, List.setIfInBounds_toArray, List.set_cons_zero, List.set_cons_succ, i64_w, i32_w]
      rfl
    refine pure_ (i := 5) (N := some 43) (v := ?_) (a' := ?_) #[true, false, false, true, false, true, false, false, false, false] rfl rfl (by kernel_rfl) (fun _ _ _ h => h) (Or.inl ⟨by rfl, ?_⟩) ?_ ?_
    rotate_left
    · intro w'
      go_simp
      with_reducible rfl
    rotate_left
    · simp only [Act.put, List.setIfInBounds_toArray, List.set_cons_zero, List.set_cons_succ, i64_w, i32_w]
      rfl
    refine take_ (i := 1) (N := some 39) (v := ?_) (a' := ?_) #[true, true, false, true, false, true, false, false, false, false] rfl rfl (by kernel_rfl) (fun _ _ _ h => h) (Or.inl ⟨by rfl, ?_⟩) hHeld ?_ ?_
    rotate_left
    · rintro w' ⟨s0, s1⟩
      go_simp
      with_reducible rfl
    rotate_left
    · simp only [Act.put, List.setIfInBounds_toArray, List.set_cons_zero, List.set_cons_succ, i64_w, i32_w]
      rfl
    refine take_ (i := 4) (N := some 42) (v := ?_) (a' := ?_) #[true, true, false, true, true, true, false, false, false, false] rfl rfl (by kernel_rfl) (fun _ _ _ h => h) (Or.inl ⟨by rfl, ?_⟩) hHeld ?_ ?_
    rotate_left
    · rintro w' ⟨s0, s1⟩
      go_simp
      with_reducible rfl
    rotate_left
    · simp only [Act.put, List.setIfInBounds_toArray, List.set_cons_zero, List.set_cons_succ, i64_w, i32_w]
      rfl
    refine one_ (i := 2) (N := some 40) #[true, true, true, true, true, true, false, false, false, false] rfl rfl (by kernel_rfl) (by decide) (fun K hK => ?_)
    have hcv_ := hcv.out
    refine value_ (w1 := ?_) (v := ?_) (by rfl) rfl ?_ ?_
    rotate_left 2
    · go_simp
      constructor
      · rfl
      · rfl
    clear hcv_ hcv
    refine hK.out _ _ ⟨(Box.cell QX.out 0 _ rfl), (Box.cell QX.out 1 _ rfl)⟩ (fun hHeld => ?_)
    clear hK K
    refine norm_ (a' := ?_) ?_ ?_
    rotate_left
    · show Act.put _ (some 40) _ = _
      simp only [Act.put, List.setIfInBounds_toArray, List.set_cons_zero, List.set_cons_succ, i64_w, i32_w]
      rfl
    refine one_ (i := 6) (N := none) #[true, true, true, true, true, true, true, false, false, false] rfl rfl (by kernel_rfl) (by decide) (fun K hK => ?_)
    have QY := Aside0.mk (QX.out.far (QX.out.ne FX.out.b0 (by decide)) 0 (.string b.f7))
    have c_ := FX.out.b0.cell 0 _ rfl
    have f_ := FX.out.b0.free 0
    refine skip_ (w1 := ?_) (by rfl) rfl ?_ ?_
    rotate_left
    · go_simp
      rfl
    clear c_ f_
    have Z1 := Aside0.mk (FX.out.put0 b.f7)
    clear FX
    clear QX
    refine hK.out _ _ ⟨(Box.cell QY.out 0 _ rfl), (Box.cell QY.out 1 _ rfl)⟩ (fun hHeld => ?_)
    clear hK K
    refine last_ (i := 7) (N := none) #[true, true, true, true, true, true, true, true, false, false] rfl rfl (by kernel_rfl) (by decide) (fun K hK => ?_)
    have c_ := Z1.out.b1.cell 0 _ rfl
    have f_ := Z1.out.b1.free 0
    refine skip_ (w1 := ?_) (by rfl) rfl ?_ ?_
    rotate_left
    · go_simp
      rfl
    clear c_ f_
    have Z2 := Aside0.mk (Z1.out.put1 HL.out.1 b.f6)
    clear Z1
    refine hK.out _ _ ?_
    clear hK K
    refine last_ (i := 8) (N := none) #[true, true, true, true, true, true, true, true, true, false] rfl rfl (by kernel_rfl) (by decide) (fun K hK => ?_)
    have c_ := Z2.out.b2.cell 0 _ rfl
    have f_ := Z2.out.b2.free 0
    refine skip_ (w1 := ?_) (by rfl) rfl ?_ ?_
    rotate_left
    · go_simp
      rfl
    clear c_ f_
    have Z3 := Aside0.mk (Z2.out.put2 HL.out.2.1 b.f5)
    clear Z2
    refine hK.out _ _ ?_
    clear hK K
    refine last_ (i := 9) (N := none) #[true, true, true, true, true, true, true, true, true, true] rfl rfl (by kernel_rfl) (by decide) (fun K hK => ?_)
    have c_ := Z3.out.b3.cell 0 _ rfl
    have f_ := Z3.out.b3.free 0
    refine skip_ (w1 := ?_) (by rfl) rfl ?_ ?_
    rotate_left
    · go_simp
      rfl
    clear c_ f_
    have Z4 := Aside0.mk (Z3.out.put3 HL.out.2.2 true)
    clear Z3
    refine hK.out _ _ ?_
    clear hK K
    refine done_ (by kernel_rfl) ?_
    
    refine NoPanic.normal ?_
    have k0 := Z4.out.b0.cell 0 _ rfl
    have k1 := Z4.out.b1.cell 0 _ rfl
    have k2 := Z4.out.b2.cell 0 _ rfl
    have k3 := Z4.out.b3.cell 0 _ rfl
    have HBL := Aside0.mk Z4.out.low
    clear hHeld
    go_wp2_with fail
    refine leaves_cons (f := 31) (args := #[.pointer (some ⟨w.heap.size, 0, none⟩), .pointer (some ⟨h1, 0, none⟩), .pointer (some ⟨h2, 0, none⟩), .pointer (some ⟨h3, 0, none⟩)]) (by simp) (by simp [go_sem]) ?_
    refine (idle31 _ _ _ _ _).mono ?_
    rintro e u' w'' ⟨rfl, rfl, rfl⟩
    clear Z4 HT5 HB5 HB1 QY
    generalize (((wx.setCell ⟨w.heap.size, 0, none⟩ (.string b.f7)).setCell ⟨h1, 0, none⟩ (.int .i32 b.f6)).setCell ⟨h2, 0, none⟩ (.int .i64 b.f5)).setCell ⟨h3, 0, none⟩ (.bool true) = wz at *
    simp [Leaves, settle, results, Try.results18, go_sem] at *
    simp [k0, k1, k2, k3]
    exact ⟨rfl, HBL.out⟩
end Go.Proofs.Ytcbbipdiahmelaa.B

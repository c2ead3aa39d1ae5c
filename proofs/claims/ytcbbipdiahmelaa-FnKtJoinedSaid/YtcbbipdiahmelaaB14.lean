/- A list of entries is cloned; two are joined; under what each theorem states. -/
import Derived.Test.YtcbbipdiahmelaaB13
import Derived.Lib.SliceRun
namespace Go.Proofs.Ytcbbipdiahmelaa.B
open Go.RowKit Go.Proofs.YtcbbipdiahmelaaW.PrintWords Go.Proofs.YtcbbipdiahmelaaW.PrintLast
open Go.Proofs.Ytcbbipdiahmelaa.A (S25 k25)
set_option linter.unusedVariables false
set_option linter.unusedSimpArgs false
set_option maxRecDepth 100000
/-- Entries as an elder world reads them: rows that share what these lead to. -/
def kAt (w0 : World) : Kd S25 where
  sz := 8
  E := []
  K := fun _ x cs => k25.K w0 x cs
  M := fun _ _ _ x cs => k25.K w0 x cs
  K_len := fun h => k25.K_len h
  K_one := fun h => k25.K_one h
  K_below := fun _ h => h
  K_of_M := fun h => h
  M_mono := fun _ h => h
  M_bound := fun h => h
  M_move := fun _ h => h
  M_lower := fun _ h => h
theorem kAt_of {w0 w : World} {A : Option Addr} {n : Nat} {l : List S25} (h : Kd.C k25 w0 A n l) (hb : Below w0.heap.size w0 w) : (kAt w0).C w A n l := ReadsRow.imp_ h hb (fun _ _ hp => hp)
theorem kAt_back {w0 w : World} {A : Option Addr} {n : Nat} {l : List S25} (h : (kAt w0).C w A n l) (hb : Below w0.heap.size w0 w) : Kd.C k25 w A n l := ReadsRow.imp_ h (Below.refl _ _) (fun _ _ hp => k25.K_below hb hp)
def zero25 : Value := .agg #[.string ⟨#[]⟩, .slice none 0 0, .int .i32 0, .int .i64 0, .int .u8 0, .int .u32 0, .int .i32 0, .string ⟨#[]⟩]
theorem info25 : (Try.prog.info? 25).map (fun i => (i.zero, i.size, i.bytes)) = some (some zero25, 8, 88) := by kernel_rfl
set_option maxHeartbeats 4000000 in
theorem clone_any (w0 : World) (l : List S25) (A : Option Addr) (c : Nat) (w : World) (h0 : l.length ≠ 0) (hs : l.length ≤ 1000) (hr : (kAt w0).C w A l.length l) :
    Calls Try.prog 15 #[.slice A l.length c] w fun x w' => ∃ v, x = .returned v ∧ (kAt w0).R 25 w' w.heap.size (fun _ => True) v l ∧ Below w.heap.size w w' := by
  obtain ⟨ad, rfl, _⟩ := hr.2.2 (by omega)
  have HL := Aside0.mk hs
  have HR := Aside0.mk hr
  have hnil : (binOp .eql 28 (.slice (some ad) l.length c) (.slice none 0 0)).run Try.prog w = .ok (.bool false) w := Lib.run_eql_slice_nil w 28 25 (some ad) l.length c 0 0 Try.underlying28
  clear hs hr
  go_enter Try.func15, Try.ntmps15
  go_wp2_with (first
    | ((with_reducible refine gate_dst (N := 5) rfl ?_); refine Kd.R_lit (kAt w0) _ 25 ?hg (N := 5) ?hd (xs := ([] : List S25)) (inner := []) (ok := fun _ => True) (okp := fun _ => True) ?hr ?hp (fun _ hk => hk) trivial (Below.refl _ _) (Nat.le_refl _) (by simp) ?_; (case hd => rfl); (case hg => rfl); (case hr => first | (go_simp; done) | (go_simp; rfl)); (case hp => exact (Reps.none _ _)); intro v1 w1 ho hb hg_ hnew_; clear hg_ hnew_; have HO := Aside0.mk ho; have HB := Aside0.mk hb; clear ho hb)
    | ((with_reducible refine gate_builtin (b := .append) (xs := #[.tmp 5, .tmp 6]) rfl ?_); at_builtin; refine Kd.R_append_rows (kAt w0) (w0 := w) w.heap.size rfl (.tmp 5) (.tmp 6) 28 25 zero25 88 rfl Try.underlying28 info25 rfl (Nat.succ_pos 7) (by omega) v1 ([] : List S25) l _ _ _ (fun _ => True) (fun _ => False) rfl rfl HO.out (Kd.C_below HR.out HB.out) (fun _ _ h => h) (fun _ h => h.elim) (fun _ _ => trivial) HB.out HB.out.size (by have := HL.out; simp; omega) ?_; intro v2 w2 ho2 hb2 hg2 hat2; have HO2 := Aside0.mk ho2; have HB2 := Aside0.mk hb2; clear ho2 hb2 hg2 hat2))
  go_ret
  exact ⟨_, rfl, by have := HO2.out; rwa [List.nil_append] at this, HB2.out⟩
theorem chunksAt_app (holes : List Int) (short : List Bool) : ∀ (a b : List S25) (i : Nat), chunksAt holes short i (a ++ b) = chunksAt holes short i a ++ chunksAt holes short (i + a.length) b
  | [], b, i => by simp [chunksAt]
  | x :: r, b, i => by
    rw [List.cons_append, chunksAt, chunksAt_app holes short r b (i + 1), chunksAt, List.length_cons, show i + 1 + r.length = i + (r.length + 1) from by omega]
    simp
theorem chunksAt_nil : ∀ (l : List S25) (i j : Nat), chunksAt [] [] i l = chunksAt [] [] j l
  | [], _, _ => rfl
  | x :: r, i, j => by rw [chunksAt, chunksAt, chunksAt_nil r (i + 1) (j + 1)]; simp [holeAt, wholeAt]
/-- The entries of two, one behind the other. -/
theorem join_data (a b : List S25) : strOfNums (5 :: 2 :: (chunksAt [] [] 0 a).flatMap Chunk.bytes) ++ strOfNums ((chunksAt [] [] 0 b).flatMap Chunk.bytes) = strOfNums (5 :: 2 :: (chunksAt [] [] 0 (a ++ b)).flatMap Chunk.bytes) := by
  rw [str_app, chunksAt_app, chunksAt_nil b (0 + a.length) 0, List.flatMap_append]
  rfl
theorem drop_data (l : List S25) (he : ∀ e ∈ l, OkE e) (D : ByteArray) (hD : D = strOfNums (5 :: 2 :: (chunksAt [] [] 0 l).flatMap Chunk.bytes)) : D.extract 2 D.size = strOfNums ((chunksAt [] [] 0 l).flatMap Chunk.bytes) := by
  rw [← strOf_bytesOf' (D.extract 2 D.size), bytes_drop, hD, chunks_data he (by intro x hx; cases hx)]
  rfl
end Go.Proofs.Ytcbbipdiahmelaa.B

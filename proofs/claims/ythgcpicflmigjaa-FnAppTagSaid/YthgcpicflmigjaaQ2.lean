/- Go functions of this seat come to the answers of the Lean functions that stand here ('.calls'), under what each theorem states and nothing else. Written by pw.py, a program of this session, with texts of its own. -/
import Derived.Test.YthgcpicflmigjaaQ0
import Derived.Test.YthgcpicflmigjaaQ1
import Derived.Defers
import Derived.Recover
namespace Go.Proofs.Ythgcpicflmigjaa.Q
open Go.RowKit Go.Proofs.YthgcpicflmigjaaW.PrintWords Go.Proofs.YthgcpicflmigjaaW.PrintLast Go.Proofs.YthgcpicflmigjaaW.PrintMore
attribute [local go_sem] max2_int min2_int max_two min_two max_three min_three max_four min_four   -- for this text's walks alone
set_option linter.unusedVariables false
set_option linter.unusedSimpArgs false
set_option maxRecDepth 100000

/-! ### impl_LengthOf: function 11 -/
-- EXT rounds=0 making=1
-- NEEDS 40
theorem lengthOf_idle (p q : Addr) (w : World) :
    CallsD Try.prog 39 #[.pointer (some p), .pointer (some q)] .returning w fun e u' w' => e = .returned (.tuple #[]) ∧ u' = .returning ∧ w' = w := by
  refine callsD_of_wpS Try.func39 rfl fun c₀ cs hu => ?_
  apply wpS_seq
  apply wpS_region
  simp [wpOpsS, go_sem, recoverD, hu, Try.ntmps39, Exit.thenS]
  refine wpS_cond (t := false) (by simp [Act.eval, Array.replicate]) ?_
  simp only [Bool.false_eq_true, if_false]
  refine wpS_of_wp (wp_skip ?_)
  cases c₀
  simp_all [bodyPostS, results, Try.results39]
def impl_LengthOf.f (a0 : ByteArray) : Option (Int × Bool) := if a0.size ≤ 140737488355328 then ((asn1tools_GetLengthFromASN.f (bytesOf a0)).bind fun t => some (t, false)) else none
set_option maxHeartbeats 800000 in
theorem impl_LengthOf.calls (a0 : ByteArray) (r1 : Int) (r2 : Bool) (w : World) (h : impl_LengthOf.f a0 = some (r1, r2)) :
    Calls Try.prog 11 #[.string a0] w fun e w' => e = .returned (.tuple #[.int .i64 r1, .bool r2]) ∧ Below w.heap.size w w' := by
  unfold impl_LengthOf.f at h
  by_cases hs : a0.size ≤ 140737488355328
  case neg => rw [if_neg hs] at h; cases h
  rw [if_pos hs] at h
  obtain ⟨t, ht, hr⟩ := Option.bind_eq_some_iff.mp h
  obtain ⟨rfl, rfl⟩ := Prod.mk.inj (Option.some.inj hr)
  have A2 := Aside0.mk ht
  have hcv : ∀ W : World, (convert 9 25 (.string a0)).run Try.prog W = .ok (.slice (some ⟨W.heap.size, 0, none⟩) (bytesOf a0).length (grownCap W a0.size 0 5)) (Lib.bytesWorld W 5 a0) := by
    intro W; rw [bytesOf_length]; exact Lib.run_convert_string_bytes W 9 25 5 a0 Try.underlying9 Try.underlying25 Try.underlying5
  have hmf : ∀ (fn : Fn) (first cap : Array Value) (w : World), (Instr.makeFunc fn first cap).run Try.prog w = .ok (.func fn first cap) w := fun _ _ _ _ => rfl
  have HS := Aside0.mk hs
  clear h ht hr hs
  go_enter_defers Try.func11, Try.ntmps11
  go_wp2_with fail
  obtain ⟨W1, hW1⟩ : ∃ W1, W1 = (w.alloc (Obj.cells #[Value.int .i64 0] 3)).alloc (Obj.cells #[Value.bool false] 4) := ⟨_, rfl⟩
  have hz1 : W1.heap.size = w.heap.size + 1 + 1 := by rw [hW1]; simp
  have hC : (Kd.int .u8).C (Lib.bytesWorld W1 5 a0) (some ⟨w.heap.size + 1 + 1, 0, none⟩) (bytesOf a0).length (bytesOf a0) := by
    have hs := HS.out
    rw [bytesOf_length, ← hz1]; exact Kd.C_of_reads (d := (0 : Int)) (h1 := fun _ => rfl) (bytes_reads W1 5 a0 (by omega))
  have hcap : (bytesOf a0).length ≤ grownCap W1 a0.size 0 5 := by rw [bytesOf_length]; exact grownCap_ge _ _ _ _
  have hB : Below w.heap.size w (Lib.bytesWorld W1 5 a0) := bytes_below (by rw [hW1]; exact below_alloc (below_alloc (Below.refl _ _) _) _) (by omega) 5 a0
  have k1 : (Lib.bytesWorld W1 5 a0).cell? ⟨w.heap.size, 0, none⟩ = some (.int .i64 0) := by
    rw [Lib.bytesWorld_old W1 5 a0 _ (by simp; omega), hW1]; simp [go_sem]
  have k2 : (Lib.bytesWorld W1 5 a0).cell? ⟨w.heap.size + 1, 0, none⟩ = some (.bool false) := by
    rw [Lib.bytesWorld_old W1 5 a0 _ (by simp; omega), hW1]; simp [go_sem]
  have f1 : (Lib.bytesWorld W1 5 a0).frozen? ⟨w.heap.size, 0, none⟩ = false := by
    rw [(bytes_below (Below.refl W1.heap.size W1) (Nat.le_refl _) 5 a0).frozen (by simp; omega), hW1]; simp [go_sem]
  have f2 : (Lib.bytesWorld W1 5 a0).frozen? ⟨w.heap.size + 1, 0, none⟩ = false := by
    rw [(bytes_below (Below.refl W1.heap.size W1) (Nat.le_refl _) 5 a0).frozen (by simp; omega), hW1]; simp [go_sem]
  rw [← hW1]
  generalize grownCap W1 a0.size 0 5 = cap at *
  generalize Lib.bytesWorld W1 5 a0 = W2 at *
  clear hW1 hz1 hcv HS
  refine (asn1tools_GetLengthFromASN.calls _ _ (bytesOf a0) t _ hC hcap A2.out).mono ?_
  rintro e w3 ⟨rfl, ⟨n, rfl⟩⟩
  have HB := Aside0.mk hB
  clear hC hcap hB
  go_wp2
  refine leaves_cons (f := 39) (args := #[.pointer (some ⟨w.heap.size, 0, none⟩), .pointer (some ⟨w.heap.size + 1, 0, none⟩)]) (by simp) (by simp [go_sem]) ?_
  refine (lengthOf_idle ⟨w.heap.size, 0, none⟩ ⟨w.heap.size + 1, 0, none⟩ _).mono ?_
  rintro e u' w'' ⟨rfl, rfl, rfl⟩
  simp [Leaves, settle, results, Try.results11, go_sem, k1, k2, World.cell?_setCell_other]
  exact below_set (below_set (pw_below_drewN HB.out n) (Nat.le_refl _)) (by simp)

end Go.Proofs.Ythgcpicflmigjaa.Q

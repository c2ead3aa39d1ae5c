/- Go functions of this seat come to the answers of the Lean functions that stand here ('.calls'), under what each theorem states and nothing else. Written by pw.py, a program of this session, with texts of its own. -/
import Derived.Test.YtnipcocllhfaoaaProg
import Derived.Below
import Derived.Deep.Draws
import Derived.Deep.AppendLies
import Derived.Maps.AppendAt
import Derived.OwnWalk
import Derived.Laws.BytesArg
import Derived.Laws.MakeOwn
import Derived.Laws.OwnMore
import Derived.Deep.OwnRows
import Derived.Tactics
import Derived.Lib.ConvBytes
import Derived.Laws.Slices
import Derived.WalkKit
import Derived.KernelRfl
import Derived.RowKit3
import Derived.Deep.LoopGhost
import Derived.Deep.QuietTactic
import Derived.BigQuiet
import Derived.WideLaws
import Derived.Deep.DeepCutAuto
import Derived.Deep.CutBlock
import Derived.Deep.RegionHeld3
import Derived.Laws.Rows
import Derived.Lib.AppendStr
import Derived.ArgAppend
import Derived.Laws.IdiomCopy
import Derived.OrdersHeld
import Derived.Laws.BitsLemmas
import Derived.RowKit
import Derived.Test.YtnipcocllhfaoaaWWords
import Derived.Test.YtnipcocllhfaoaaWLast
import Derived.Test.YtnipcocllhfaoaaWTab
import Derived.Test.YtnipcocllhfaoaaWQPut
import Derived.Test.YtnipcocllhfaoaaWApart
import Derived.Test.YtnipcocllhfaoaaWRepsOne
import Derived.Test.YtnipcocllhfaoaaWGuard
import Derived.Test.YtnipcocllhfaoaaL0
namespace Go.Proofs.Ytnipcocllhfaoaa.A
open Go.RowKit Go.Proofs.YtnipcocllhfaoaaW.PrintWords Go.Proofs.YtnipcocllhfaoaaW.PrintLast
open Go.Proofs.Ytnipcocllhfaoaa.B (gate_callee gate_builtin)
set_option linter.unusedVariables false
set_option linter.unusedSimpArgs false
set_option maxRecDepth 100000



def errW : Option Int → Value
  | none => .nilIface
  | some c => .iface 0 (.int .i64 c)
theorem errW_none : errW none = .nilIface := rfl
theorem errW_some (c : Int) : errW (some c) = .iface 0 (.int .i64 c) := rfl

theorem info2 : (Try.prog.info? 2).map (fun i => (i.zero, i.size, i.bytes)) = some (some (.int .i64 0), 1, 8) := by kernel_rfl
theorem info5 : (Try.prog.info? 5).map (fun i => (i.zero, i.size, i.bytes)) = some (some (.int .u8 0), 1, 1) := by kernel_rfl
theorem info9 : (Try.prog.info? 9).map (fun i => (i.zero, i.size, i.bytes)) = some (some (.string ⟨#[]⟩), 1, 16) := by kernel_rfl
theorem info63 : (Try.prog.info? 63).map (fun i => (i.zero, i.size, i.bytes)) = some (some (.agg #[(.int .i32 0), (.string ⟨#[]⟩)]), 2, 24) := by kernel_rfl
theorem info64 : (Try.prog.info? 64).map (fun i => (i.zero, i.size, i.bytes)) = some (some (.int .u64 0), 1, 8) := by kernel_rfl
-- the values' own types
/-! #### struct type 63 -/
structure S63 where
  f0 : Int
  f1 : ByteArray
def z63 : S63 := ⟨(0 : Int), (⟨#[]⟩ : ByteArray)⟩
def k63 : Kd S63 := Kd.iso (Kd.pair (Kd.int .i32) Kd.string) (fun x : S63 => (x.f0, x.f1))
theorem k63_open {w : World} {x : S63} {cs : List Value} (h : k63.K w x cs) : cs = [.int .i32 x.f0, .string x.f1] := by
  obtain ⟨_, _, rfl, rfl, rfl⟩ := h
  exact rfl
theorem k63_openM {w : World} {base : Nat} {ok : Nat → Prop} {x : S63} {cs : List Value} (h : k63.M w base ok x cs) : cs = [.int .i32 x.f0, .string x.f1] := by
  obtain ⟨_, _, rfl, rfl, rfl⟩ := h
  exact rfl
theorem k63_mk (w : World) (x : S63)  : k63.K w x [.int .i32 x.f0, .string x.f1] := ⟨[.int .i32 x.f0], [.string x.f1], rfl, rfl, rfl⟩
theorem k63_mkM (w : World) (base : Nat) (ok : Nat → Prop) (x : S63)  : k63.M w base ok x [.int .i32 x.f0, .string x.f1] := ⟨[.int .i32 x.f0], [.string x.f1], rfl, rfl, rfl⟩
def rd_T63 (xs : List S63) (i : Int) : S63 := xs.getD i.toNat z63
theorem at_T63 {w : World} {A : Option Addr} {n : Nat} {xs : List S63} (h : Kd.C k63 w A n xs) (i : Int) (h0 : 0 ≤ i) (h1 : i < n) : ∃ ad , A = some ad ∧ w.cell? (ad.add (i.toNat * 2)) = some (.int .i32 (rd_T63 xs i).f0) ∧ w.cell? ⟨(ad.add (i.toNat * 2)).block, (ad.add (i.toNat * 2)).off + 1, none⟩ = some (.string (rd_T63 xs i).f1) := by
  obtain ⟨ad, c, e, _, hK, hc0⟩ := Kd.C_get h z63 i h0 h1
  have hc : ∀ j u, c[j]? = some u → w.cell? (ad.add (i.toNat * 2 + j)) = some u := hc0
  obtain rfl := k63_open hK
  exact ⟨ad, e, hc 0 _ rfl, by rw [← add_field _ _ 1 (by omega)]; exact hc 1 _ rfl⟩

def rd_L3 (xs : List (List ByteArray)) (i : Int) : (List ByteArray) := xs.getD i.toNat ([] : List ByteArray)
theorem at_L3 {w : World} {A : Option Addr} {n : Nat} {xs : List (List ByteArray)} (h : Kd.C (Kd.slice 9 Kd.string) w A n xs) (i : Int) (h0 : 0 ≤ i) (h1 : i < n) : ∃ ad A0 c0, A = some ad ∧ w.cell? (ad.add i.toNat) = some (.slice A0 (rd_L3 xs i).length c0) ∧ (rd_L3 xs i).length ≤ c0 ∧ Kd.string.C w A0 (rd_L3 xs i).length (rd_L3 xs i) := by
  obtain ⟨ad, c, e, _, hK, hc0⟩ := Kd.C_get h ([] : List ByteArray) i h0 h1
  have hc : ∀ j u, c[j]? = some u → w.cell? (ad.add (i.toNat * 1 + j)) = some u := hc0
  obtain ⟨A0, c0, rfl, l0, g0⟩ := hK
  exact ⟨ad, A0, c0, e, by have hq := hc 0 _ rfl; rwa [Nat.mul_one, Nat.add_zero] at hq, l0, g0⟩

/-! #### struct type 24 -/
structure S24 where
  f0 : ByteArray
  f1 : (List ByteArray)
  f2 : Int
def z24 : S24 := ⟨(⟨#[]⟩ : ByteArray), ([] : List ByteArray), (0 : Int)⟩
def k24 : Kd S24 := Kd.iso (Kd.pair Kd.string (Kd.pair (Kd.slice 9 Kd.string) (Kd.int .i32))) (fun x : S24 => (x.f0, x.f1, x.f2))
theorem k24_open {w : World} {x : S24} {cs : List Value} (h : k24.K w x cs) : ∃ A1 c1, cs = [.string x.f0, .slice A1 x.f1.length c1, .int .i32 x.f2] ∧ x.f1.length ≤ c1 ∧ Kd.string.C w A1 x.f1.length x.f1 := by
  obtain ⟨_, _, rfl, rfl, ⟨_, _, rfl, ⟨A1, c1, rfl, l1, g1⟩, rfl⟩⟩ := h
  exact ⟨A1, c1, rfl, l1, g1⟩
theorem k24_openM {w : World} {base : Nat} {ok : Nat → Prop} {x : S24} {cs : List Value} (h : k24.M w base ok x cs) : ∃ v1, cs = [.string x.f0, v1, .int .i32 x.f2] ∧ Kd.string.R 9 w base ok v1 x.f1 := by
  obtain ⟨_, _, rfl, rfl, ⟨_, _, rfl, ⟨v1, rfl, g1⟩, rfl⟩⟩ := h
  exact ⟨v1, rfl, g1⟩
theorem k24_mk (w : World) (x : S24) {A1 : Option Addr} {c1 : Nat} (l1 : x.f1.length ≤ c1) (g1 : Kd.string.C w A1 x.f1.length x.f1) : k24.K w x [.string x.f0, .slice A1 x.f1.length c1, .int .i32 x.f2] := ⟨[.string x.f0], [.slice A1 x.f1.length c1, .int .i32 x.f2], rfl, rfl, ⟨[.slice A1 x.f1.length c1], [.int .i32 x.f2], rfl, ⟨A1, c1, rfl, l1, g1⟩, rfl⟩⟩
theorem k24_mkM (w : World) (base : Nat) (ok : Nat → Prop) (x : S24) {v1 : Value} (g1 : Kd.string.R 9 w base ok v1 x.f1) : k24.M w base ok x [.string x.f0, v1, .int .i32 x.f2] := ⟨[.string x.f0], [v1, .int .i32 x.f2], rfl, rfl, ⟨[v1], [.int .i32 x.f2], rfl, ⟨v1, rfl, g1⟩, rfl⟩⟩
def rd_T24 (xs : List S24) (i : Int) : S24 := xs.getD i.toNat z24
theorem at_T24 {w : World} {A : Option Addr} {n : Nat} {xs : List S24} (h : Kd.C k24 w A n xs) (i : Int) (h0 : 0 ≤ i) (h1 : i < n) : ∃ ad A1 c1, A = some ad ∧ w.cell? (ad.add (i.toNat * 3)) = some (.string (rd_T24 xs i).f0) ∧ w.cell? ⟨(ad.add (i.toNat * 3)).block, (ad.add (i.toNat * 3)).off + 1, none⟩ = some (.slice A1 (rd_T24 xs i).f1.length c1) ∧ w.cell? ⟨(ad.add (i.toNat * 3)).block, (ad.add (i.toNat * 3)).off + 2, none⟩ = some (.int .i32 (rd_T24 xs i).f2) ∧ (rd_T24 xs i).f1.length ≤ c1 ∧ Kd.string.C w A1 (rd_T24 xs i).f1.length (rd_T24 xs i).f1 := by
  obtain ⟨ad, c, e, _, hK, hc0⟩ := Kd.C_get h z24 i h0 h1
  have hc : ∀ j u, c[j]? = some u → w.cell? (ad.add (i.toNat * 3 + j)) = some u := hc0
  obtain ⟨A1, c1, rfl, l1, g1⟩ := k24_open hK
  exact ⟨ad, A1, c1, e, hc 0 _ rfl, by rw [← add_field _ _ 1 (by omega)]; exact hc 1 _ rfl, by rw [← add_field _ _ 2 (by omega)]; exact hc 2 _ rfl, l1, g1⟩

def rd_L8 (xs : List (List S63)) (i : Int) : (List S63) := xs.getD i.toNat ([] : List S63)
theorem at_L8 {w : World} {A : Option Addr} {n : Nat} {xs : List (List S63)} (h : Kd.C (Kd.slice 63 k63) w A n xs) (i : Int) (h0 : 0 ≤ i) (h1 : i < n) : ∃ ad A0 c0, A = some ad ∧ w.cell? (ad.add i.toNat) = some (.slice A0 (rd_L8 xs i).length c0) ∧ (rd_L8 xs i).length ≤ c0 ∧ k63.C w A0 (rd_L8 xs i).length (rd_L8 xs i) := by
  obtain ⟨ad, c, e, _, hK, hc0⟩ := Kd.C_get h ([] : List S63) i h0 h1
  have hc : ∀ j u, c[j]? = some u → w.cell? (ad.add (i.toNat * 1 + j)) = some u := hc0
  obtain ⟨A0, c0, rfl, l0, g0⟩ := hK
  exact ⟨ad, A0, c0, e, by have hq := hc 0 _ rfl; rwa [Nat.mul_one, Nat.add_zero] at hq, l0, g0⟩

/-! #### struct type 36 -/
structure S36 where
  f0 : S24
  f1 : S24
  f2 : Int
  f3 : ByteArray
  f4 : Int
  f5 : Int
  f6 : Int
  f7 : Int
  f8 : Bool
  f9 : Int
  f10 : (List S63)
  f11 : (List S63)
  f12 : ByteArray
  f13 : ByteArray
def z36 : S36 := ⟨z24, z24, (0 : Int), (⟨#[]⟩ : ByteArray), (0 : Int), (0 : Int), (0 : Int), (0 : Int), false, (0 : Int), ([] : List S63), ([] : List S63), (⟨#[]⟩ : ByteArray), (⟨#[]⟩ : ByteArray)⟩
def k36 : Kd S36 := Kd.iso (Kd.pair k24 (Kd.pair k24 (Kd.pair (Kd.int .i32) (Kd.pair Kd.string (Kd.pair (Kd.int .i64) (Kd.pair (Kd.int .i64) (Kd.pair (Kd.int .i64) (Kd.pair (Kd.int .i64) (Kd.pair Kd.bool (Kd.pair (Kd.int .u32) (Kd.pair (Kd.slice 63 k63) (Kd.pair (Kd.slice 63 k63) (Kd.pair Kd.string Kd.string))))))))))))) (fun x : S36 => (x.f0, x.f1, x.f2, x.f3, x.f4, x.f5, x.f6, x.f7, x.f8, x.f9, x.f10, x.f11, x.f12, x.f13))
theorem k36_open {w : World} {x : S36} {cs : List Value} (h : k36.K w x cs) : ∃ A1 c1 A4 c4 A14 c14 A15 c15, cs = [.string x.f0.f0, .slice A1 x.f0.f1.length c1, .int .i32 x.f0.f2, .string x.f1.f0, .slice A4 x.f1.f1.length c4, .int .i32 x.f1.f2, .int .i32 x.f2, .string x.f3, .int .i64 x.f4, .int .i64 x.f5, .int .i64 x.f6, .int .i64 x.f7, .bool x.f8, .int .u32 x.f9, .slice A14 x.f10.length c14, .slice A15 x.f11.length c15, .string x.f12, .string x.f13] ∧ x.f0.f1.length ≤ c1 ∧ Kd.string.C w A1 x.f0.f1.length x.f0.f1 ∧ x.f1.f1.length ≤ c4 ∧ Kd.string.C w A4 x.f1.f1.length x.f1.f1 ∧ x.f10.length ≤ c14 ∧ k63.C w A14 x.f10.length x.f10 ∧ x.f11.length ≤ c15 ∧ k63.C w A15 x.f11.length x.f11 := by
  obtain ⟨_, _, rfl, s0, ⟨_, _, rfl, s3, ⟨_, _, rfl, rfl, ⟨_, _, rfl, rfl, ⟨_, _, rfl, rfl, ⟨_, _, rfl, rfl, ⟨_, _, rfl, rfl, ⟨_, _, rfl, rfl, ⟨_, _, rfl, rfl, ⟨_, _, rfl, rfl, ⟨_, _, rfl, ⟨A14, c14, rfl, l14, g14⟩, ⟨_, _, rfl, ⟨A15, c15, rfl, l15, g15⟩, ⟨_, _, rfl, rfl, rfl⟩⟩⟩⟩⟩⟩⟩⟩⟩⟩⟩⟩⟩ := h
  obtain ⟨A1, c1, rfl, l1, g1⟩ := k24_open s0
  obtain ⟨A4, c4, rfl, l4, g4⟩ := k24_open s3
  exact ⟨A1, c1, A4, c4, A14, c14, A15, c15, rfl, l1, g1, l4, g4, l14, g14, l15, g15⟩
theorem k36_openM {w : World} {base : Nat} {ok : Nat → Prop} {x : S36} {cs : List Value} (h : k36.M w base ok x cs) : ∃ v1 v4 v14 v15, cs = [.string x.f0.f0, v1, .int .i32 x.f0.f2, .string x.f1.f0, v4, .int .i32 x.f1.f2, .int .i32 x.f2, .string x.f3, .int .i64 x.f4, .int .i64 x.f5, .int .i64 x.f6, .int .i64 x.f7, .bool x.f8, .int .u32 x.f9, v14, v15, .string x.f12, .string x.f13] ∧ Kd.string.R 9 w base ok v1 x.f0.f1 ∧ Kd.string.R 9 w base ok v4 x.f1.f1 ∧ k63.R 63 w base ok v14 x.f10 ∧ k63.R 63 w base ok v15 x.f11 := by
  obtain ⟨_, _, rfl, s0, ⟨_, _, rfl, s3, ⟨_, _, rfl, rfl, ⟨_, _, rfl, rfl, ⟨_, _, rfl, rfl, ⟨_, _, rfl, rfl, ⟨_, _, rfl, rfl, ⟨_, _, rfl, rfl, ⟨_, _, rfl, rfl, ⟨_, _, rfl, rfl, ⟨_, _, rfl, ⟨v14, rfl, g14⟩, ⟨_, _, rfl, ⟨v15, rfl, g15⟩, ⟨_, _, rfl, rfl, rfl⟩⟩⟩⟩⟩⟩⟩⟩⟩⟩⟩⟩⟩ := h
  obtain ⟨v1, rfl, g1⟩ := k24_openM s0
  obtain ⟨v4, rfl, g4⟩ := k24_openM s3
  exact ⟨v1, v4, v14, v15, rfl, g1, g4, g14, g15⟩
theorem k36_mk (w : World) (x : S36) {A1 : Option Addr} {c1 : Nat} (l1 : x.f0.f1.length ≤ c1) (g1 : Kd.string.C w A1 x.f0.f1.length x.f0.f1) {A4 : Option Addr} {c4 : Nat} (l4 : x.f1.f1.length ≤ c4) (g4 : Kd.string.C w A4 x.f1.f1.length x.f1.f1) {A14 : Option Addr} {c14 : Nat} (l14 : x.f10.length ≤ c14) (g14 : k63.C w A14 x.f10.length x.f10) {A15 : Option Addr} {c15 : Nat} (l15 : x.f11.length ≤ c15) (g15 : k63.C w A15 x.f11.length x.f11) : k36.K w x [.string x.f0.f0, .slice A1 x.f0.f1.length c1, .int .i32 x.f0.f2, .string x.f1.f0, .slice A4 x.f1.f1.length c4, .int .i32 x.f1.f2, .int .i32 x.f2, .string x.f3, .int .i64 x.f4, .int .i64 x.f5, .int .i64 x.f6, .int .i64 x.f7, .bool x.f8, .int .u32 x.f9, .slice A14 x.f10.length c14, .slice A15 x.f11.length c15, .string x.f12, .string x.f13] := ⟨[.string x.f0.f0, .slice A1 x.f0.f1.length c1, .int .i32 x.f0.f2], [.string x.f1.f0, .slice A4 x.f1.f1.length c4, .int .i32 x.f1.f2, .int .i32 x.f2, .string x.f3, .int .i64 x.f4, .int .i64 x.f5, .int .i64 x.f6, .int .i64 x.f7, .bool x.f8, .int .u32 x.f9, .slice A14 x.f10.length c14, .slice A15 x.f11.length c15, .string x.f12, .string x.f13], rfl, (k24_mk w x.f0 l1 g1), ⟨[.string x.f1.f0, .slice A4 x.f1.f1.length c4, .int .i32 x.f1.f2], [.int .i32 x.f2, .string x.f3, .int .i64 x.f4, .int .i64 x.f5, .int .i64 x.f6, .int .i64 x.f7, .bool x.f8, .int .u32 x.f9, .slice A14 x.f10.length c14, .slice A15 x.f11.length c15, .string x.f12, .string x.f13], rfl, (k24_mk w x.f1 l4 g4), ⟨[.int .i32 x.f2], [.string x.f3, .int .i64 x.f4, .int .i64 x.f5, .int .i64 x.f6, .int .i64 x.f7, .bool x.f8, .int .u32 x.f9, .slice A14 x.f10.length c14, .slice A15 x.f11.length c15, .string x.f12, .string x.f13], rfl, rfl, ⟨[.string x.f3], [.int .i64 x.f4, .int .i64 x.f5, .int .i64 x.f6, .int .i64 x.f7, .bool x.f8, .int .u32 x.f9, .slice A14 x.f10.length c14, .slice A15 x.f11.length c15, .string x.f12, .string x.f13], rfl, rfl, ⟨[.int .i64 x.f4], [.int .i64 x.f5, .int .i64 x.f6, .int .i64 x.f7, .bool x.f8, .int .u32 x.f9, .slice A14 x.f10.length c14, .slice A15 x.f11.length c15, .string x.f12, .string x.f13], rfl, rfl, ⟨[.int .i64 x.f5], [.int .i64 x.f6, .int .i64 x.f7, .bool x.f8, .int .u32 x.f9, .slice A14 x.f10.length c14, .slice A15 x.f11.length c15, .string x.f12, .string x.f13], rfl, rfl, ⟨[.int .i64 x.f6], [.int .i64 x.f7, .bool x.f8, .int .u32 x.f9, .slice A14 x.f10.length c14, .slice A15 x.f11.length c15, .string x.f12, .string x.f13], rfl, rfl, ⟨[.int .i64 x.f7], [.bool x.f8, .int .u32 x.f9, .slice A14 x.f10.length c14, .slice A15 x.f11.length c15, .string x.f12, .string x.f13], rfl, rfl, ⟨[.bool x.f8], [.int .u32 x.f9, .slice A14 x.f10.length c14, .slice A15 x.f11.length c15, .string x.f12, .string x.f13], rfl, rfl, ⟨[.int .u32 x.f9], [.slice A14 x.f10.length c14, .slice A15 x.f11.length c15, .string x.f12, .string x.f13], rfl, rfl, ⟨[.slice A14 x.f10.length c14], [.slice A15 x.f11.length c15, .string x.f12, .string x.f13], rfl, ⟨A14, c14, rfl, l14, g14⟩, ⟨[.slice A15 x.f11.length c15], [.string x.f12, .string x.f13], rfl, ⟨A15, c15, rfl, l15, g15⟩, ⟨[.string x.f12], [.string x.f13], rfl, rfl, rfl⟩⟩⟩⟩⟩⟩⟩⟩⟩⟩⟩⟩⟩
theorem k36_mkM (w : World) (base : Nat) (ok : Nat → Prop) (x : S36) {v1 : Value} (g1 : Kd.string.R 9 w base ok v1 x.f0.f1) {v4 : Value} (g4 : Kd.string.R 9 w base ok v4 x.f1.f1) {v14 : Value} (g14 : k63.R 63 w base ok v14 x.f10) {v15 : Value} (g15 : k63.R 63 w base ok v15 x.f11) : k36.M w base ok x [.string x.f0.f0, v1, .int .i32 x.f0.f2, .string x.f1.f0, v4, .int .i32 x.f1.f2, .int .i32 x.f2, .string x.f3, .int .i64 x.f4, .int .i64 x.f5, .int .i64 x.f6, .int .i64 x.f7, .bool x.f8, .int .u32 x.f9, v14, v15, .string x.f12, .string x.f13] := ⟨[.string x.f0.f0, v1, .int .i32 x.f0.f2], [.string x.f1.f0, v4, .int .i32 x.f1.f2, .int .i32 x.f2, .string x.f3, .int .i64 x.f4, .int .i64 x.f5, .int .i64 x.f6, .int .i64 x.f7, .bool x.f8, .int .u32 x.f9, v14, v15, .string x.f12, .string x.f13], rfl, (k24_mkM w base ok x.f0 g1), ⟨[.string x.f1.f0, v4, .int .i32 x.f1.f2], [.int .i32 x.f2, .string x.f3, .int .i64 x.f4, .int .i64 x.f5, .int .i64 x.f6, .int .i64 x.f7, .bool x.f8, .int .u32 x.f9, v14, v15, .string x.f12, .string x.f13], rfl, (k24_mkM w base ok x.f1 g4), ⟨[.int .i32 x.f2], [.string x.f3, .int .i64 x.f4, .int .i64 x.f5, .int .i64 x.f6, .int .i64 x.f7, .bool x.f8, .int .u32 x.f9, v14, v15, .string x.f12, .string x.f13], rfl, rfl, ⟨[.string x.f3], [.int .i64 x.f4, .int .i64 x.f5, .int .i64 x.f6, .int .i64 x.f7, .bool x.f8, .int .u32 x.f9, v14, v15, .string x.f12, .string x.f13], rfl, rfl, ⟨[.int .i64 x.f4], [.int .i64 x.f5, .int .i64 x.f6, .int .i64 x.f7, .bool x.f8, .int .u32 x.f9, v14, v15, .string x.f12, .string x.f13], rfl, rfl, ⟨[.int .i64 x.f5], [.int .i64 x.f6, .int .i64 x.f7, .bool x.f8, .int .u32 x.f9, v14, v15, .string x.f12, .string x.f13], rfl, rfl, ⟨[.int .i64 x.f6], [.int .i64 x.f7, .bool x.f8, .int .u32 x.f9, v14, v15, .string x.f12, .string x.f13], rfl, rfl, ⟨[.int .i64 x.f7], [.bool x.f8, .int .u32 x.f9, v14, v15, .string x.f12, .string x.f13], rfl, rfl, ⟨[.bool x.f8], [.int .u32 x.f9, v14, v15, .string x.f12, .string x.f13], rfl, rfl, ⟨[.int .u32 x.f9], [v14, v15, .string x.f12, .string x.f13], rfl, rfl, ⟨[v14], [v15, .string x.f12, .string x.f13], rfl, ⟨v14, rfl, g14⟩, ⟨[v15], [.string x.f12, .string x.f13], rfl, ⟨v15, rfl, g15⟩, ⟨[.string x.f12], [.string x.f13], rfl, rfl, rfl⟩⟩⟩⟩⟩⟩⟩⟩⟩⟩⟩⟩⟩
def rd_T36 (xs : List S36) (i : Int) : S36 := xs.getD i.toNat z36
theorem at_T36 {w : World} {A : Option Addr} {n : Nat} {xs : List S36} (h : Kd.C k36 w A n xs) (i : Int) (h0 : 0 ≤ i) (h1 : i < n) : ∃ ad A1 c1 A4 c4 A14 c14 A15 c15, A = some ad ∧ w.cell? (ad.add (i.toNat * 18)) = some (.string (rd_T36 xs i).f0.f0) ∧ w.cell? ⟨(ad.add (i.toNat * 18)).block, (ad.add (i.toNat * 18)).off + 1, none⟩ = some (.slice A1 (rd_T36 xs i).f0.f1.length c1) ∧ w.cell? ⟨(ad.add (i.toNat * 18)).block, (ad.add (i.toNat * 18)).off + 2, none⟩ = some (.int .i32 (rd_T36 xs i).f0.f2) ∧ w.cell? ⟨(ad.add (i.toNat * 18)).block, (ad.add (i.toNat * 18)).off + 3, none⟩ = some (.string (rd_T36 xs i).f1.f0) ∧ w.cell? ⟨(ad.add (i.toNat * 18)).block, (ad.add (i.toNat * 18)).off + 4, none⟩ = some (.slice A4 (rd_T36 xs i).f1.f1.length c4) ∧ w.cell? ⟨(ad.add (i.toNat * 18)).block, (ad.add (i.toNat * 18)).off + 5, none⟩ = some (.int .i32 (rd_T36 xs i).f1.f2) ∧ w.cell? ⟨(ad.add (i.toNat * 18)).block, (ad.add (i.toNat * 18)).off + 6, none⟩ = some (.int .i32 (rd_T36 xs i).f2) ∧ w.cell? ⟨(ad.add (i.toNat * 18)).block, (ad.add (i.toNat * 18)).off + 7, none⟩ = some (.string (rd_T36 xs i).f3) ∧ w.cell? ⟨(ad.add (i.toNat * 18)).block, (ad.add (i.toNat * 18)).off + 8, none⟩ = some (.int .i64 (rd_T36 xs i).f4) ∧ w.cell? ⟨(ad.add (i.toNat * 18)).block, (ad.add (i.toNat * 18)).off + 9, none⟩ = some (.int .i64 (rd_T36 xs i).f5) ∧ w.cell? ⟨(ad.add (i.toNat * 18)).block, (ad.add (i.toNat * 18)).off + 10, none⟩ = some (.int .i64 (rd_T36 xs i).f6) ∧ w.cell? ⟨(ad.add (i.toNat * 18)).block, (ad.add (i.toNat * 18)).off + 11, none⟩ = some (.int .i64 (rd_T36 xs i).f7) ∧ w.cell? ⟨(ad.add (i.toNat * 18)).block, (ad.add (i.toNat * 18)).off + 12, none⟩ = some (.bool (rd_T36 xs i).f8) ∧ w.cell? ⟨(ad.add (i.toNat * 18)).block, (ad.add (i.toNat * 18)).off + 13, none⟩ = some (.int .u32 (rd_T36 xs i).f9) ∧ w.cell? ⟨(ad.add (i.toNat * 18)).block, (ad.add (i.toNat * 18)).off + 14, none⟩ = some (.slice A14 (rd_T36 xs i).f10.length c14) ∧ w.cell? ⟨(ad.add (i.toNat * 18)).block, (ad.add (i.toNat * 18)).off + 15, none⟩ = some (.slice A15 (rd_T36 xs i).f11.length c15) ∧ w.cell? ⟨(ad.add (i.toNat * 18)).block, (ad.add (i.toNat * 18)).off + 16, none⟩ = some (.string (rd_T36 xs i).f12) ∧ w.cell? ⟨(ad.add (i.toNat * 18)).block, (ad.add (i.toNat * 18)).off + 17, none⟩ = some (.string (rd_T36 xs i).f13) ∧ (rd_T36 xs i).f0.f1.length ≤ c1 ∧ Kd.string.C w A1 (rd_T36 xs i).f0.f1.length (rd_T36 xs i).f0.f1 ∧ (rd_T36 xs i).f1.f1.length ≤ c4 ∧ Kd.string.C w A4 (rd_T36 xs i).f1.f1.length (rd_T36 xs i).f1.f1 ∧ (rd_T36 xs i).f10.length ≤ c14 ∧ k63.C w A14 (rd_T36 xs i).f10.length (rd_T36 xs i).f10 ∧ (rd_T36 xs i).f11.length ≤ c15 ∧ k63.C w A15 (rd_T36 xs i).f11.length (rd_T36 xs i).f11 := by
  obtain ⟨ad, c, e, _, hK, hc0⟩ := Kd.C_get h z36 i h0 h1
  have hc : ∀ j u, c[j]? = some u → w.cell? (ad.add (i.toNat * 18 + j)) = some u := hc0
  obtain ⟨A1, c1, A4, c4, A14, c14, A15, c15, rfl, l1, g1, l4, g4, l14, g14, l15, g15⟩ := k36_open hK
  exact ⟨ad, A1, c1, A4, c4, A14, c14, A15, c15, e, hc 0 _ rfl, by rw [← add_field _ _ 1 (by omega)]; exact hc 1 _ rfl, by rw [← add_field _ _ 2 (by omega)]; exact hc 2 _ rfl, by rw [← add_field _ _ 3 (by omega)]; exact hc 3 _ rfl, by rw [← add_field _ _ 4 (by omega)]; exact hc 4 _ rfl, by rw [← add_field _ _ 5 (by omega)]; exact hc 5 _ rfl, by rw [← add_field _ _ 6 (by omega)]; exact hc 6 _ rfl, by rw [← add_field _ _ 7 (by omega)]; exact hc 7 _ rfl, by rw [← add_field _ _ 8 (by omega)]; exact hc 8 _ rfl, by rw [← add_field _ _ 9 (by omega)]; exact hc 9 _ rfl, by rw [← add_field _ _ 10 (by omega)]; exact hc 10 _ rfl, by rw [← add_field _ _ 11 (by omega)]; exact hc 11 _ rfl, by rw [← add_field _ _ 12 (by omega)]; exact hc 12 _ rfl, by rw [← add_field _ _ 13 (by omega)]; exact hc 13 _ rfl, by rw [← add_field _ _ 14 (by omega)]; exact hc 14 _ rfl, by rw [← add_field _ _ 15 (by omega)]; exact hc 15 _ rfl, by rw [← add_field _ _ 16 (by omega)]; exact hc 16 _ rfl, by rw [← add_field _ _ 17 (by omega)]; exact hc 17 _ rfl, l1, g1, l4, g4, l14, g14, l15, g15⟩

def rd_L10 (xs : List (List S36)) (i : Int) : (List S36) := xs.getD i.toNat ([] : List S36)
theorem at_L10 {w : World} {A : Option Addr} {n : Nat} {xs : List (List S36)} (h : Kd.C (Kd.slice 36 k36) w A n xs) (i : Int) (h0 : 0 ≤ i) (h1 : i < n) : ∃ ad A0 c0, A = some ad ∧ w.cell? (ad.add i.toNat) = some (.slice A0 (rd_L10 xs i).length c0) ∧ (rd_L10 xs i).length ≤ c0 ∧ k36.C w A0 (rd_L10 xs i).length (rd_L10 xs i) := by
  obtain ⟨ad, c, e, _, hK, hc0⟩ := Kd.C_get h ([] : List S36) i h0 h1
  have hc : ∀ j u, c[j]? = some u → w.cell? (ad.add (i.toNat * 1 + j)) = some u := hc0
  obtain ⟨A0, c0, rfl, l0, g0⟩ := hK
  exact ⟨ad, A0, c0, e, by have hq := hc 0 _ rfl; rwa [Nat.mul_one, Nat.add_zero] at hq, l0, g0⟩

def rd_L13 (xs : List (List Int)) (i : Int) : (List Int) := xs.getD i.toNat ([] : List Int)
theorem at_L13 {w : World} {A : Option Addr} {n : Nat} {xs : List (List Int)} (h : Kd.C (Kd.slice 64 (Kd.int .u64)) w A n xs) (i : Int) (h0 : 0 ≤ i) (h1 : i < n) : ∃ ad A0 c0, A = some ad ∧ w.cell? (ad.add i.toNat) = some (.slice A0 (rd_L13 xs i).length c0) ∧ (rd_L13 xs i).length ≤ c0 ∧ (Kd.int .u64).C w A0 (rd_L13 xs i).length (rd_L13 xs i) := by
  obtain ⟨ad, c, e, _, hK, hc0⟩ := Kd.C_get h ([] : List Int) i h0 h1
  have hc : ∀ j u, c[j]? = some u → w.cell? (ad.add (i.toNat * 1 + j)) = some u := hc0
  obtain ⟨A0, c0, rfl, l0, g0⟩ := hK
  exact ⟨ad, A0, c0, e, by have hq := hc 0 _ rfl; rwa [Nat.mul_one, Nat.add_zero] at hq, l0, g0⟩

/-! #### struct type 37 -/
structure S37 where
  f0 : ByteArray
  f1 : (List ByteArray)
  f2 : Int
def z37 : S37 := ⟨(⟨#[]⟩ : ByteArray), ([] : List ByteArray), (0 : Int)⟩
def k37 : Kd S37 := Kd.iso (Kd.pair Kd.string (Kd.pair (Kd.slice 9 Kd.string) (Kd.int .i32))) (fun x : S37 => (x.f0, x.f1, x.f2))
theorem k37_open {w : World} {x : S37} {cs : List Value} (h : k37.K w x cs) : ∃ A1 c1, cs = [.string x.f0, .slice A1 x.f1.length c1, .int .i32 x.f2] ∧ x.f1.length ≤ c1 ∧ Kd.string.C w A1 x.f1.length x.f1 := by
  obtain ⟨_, _, rfl, rfl, ⟨_, _, rfl, ⟨A1, c1, rfl, l1, g1⟩, rfl⟩⟩ := h
  exact ⟨A1, c1, rfl, l1, g1⟩
theorem k37_openM {w : World} {base : Nat} {ok : Nat → Prop} {x : S37} {cs : List Value} (h : k37.M w base ok x cs) : ∃ v1, cs = [.string x.f0, v1, .int .i32 x.f2] ∧ Kd.string.R 9 w base ok v1 x.f1 := by
  obtain ⟨_, _, rfl, rfl, ⟨_, _, rfl, ⟨v1, rfl, g1⟩, rfl⟩⟩ := h
  exact ⟨v1, rfl, g1⟩
theorem k37_mk (w : World) (x : S37) {A1 : Option Addr} {c1 : Nat} (l1 : x.f1.length ≤ c1) (g1 : Kd.string.C w A1 x.f1.length x.f1) : k37.K w x [.string x.f0, .slice A1 x.f1.length c1, .int .i32 x.f2] := ⟨[.string x.f0], [.slice A1 x.f1.length c1, .int .i32 x.f2], rfl, rfl, ⟨[.slice A1 x.f1.length c1], [.int .i32 x.f2], rfl, ⟨A1, c1, rfl, l1, g1⟩, rfl⟩⟩
theorem k37_mkM (w : World) (base : Nat) (ok : Nat → Prop) (x : S37) {v1 : Value} (g1 : Kd.string.R 9 w base ok v1 x.f1) : k37.M w base ok x [.string x.f0, v1, .int .i32 x.f2] := ⟨[.string x.f0], [v1, .int .i32 x.f2], rfl, rfl, ⟨[v1], [.int .i32 x.f2], rfl, ⟨v1, rfl, g1⟩, rfl⟩⟩
def rd_T37 (xs : List S37) (i : Int) : S37 := xs.getD i.toNat z37
theorem at_T37 {w : World} {A : Option Addr} {n : Nat} {xs : List S37} (h : Kd.C k37 w A n xs) (i : Int) (h0 : 0 ≤ i) (h1 : i < n) : ∃ ad A1 c1, A = some ad ∧ w.cell? (ad.add (i.toNat * 3)) = some (.string (rd_T37 xs i).f0) ∧ w.cell? ⟨(ad.add (i.toNat * 3)).block, (ad.add (i.toNat * 3)).off + 1, none⟩ = some (.slice A1 (rd_T37 xs i).f1.length c1) ∧ w.cell? ⟨(ad.add (i.toNat * 3)).block, (ad.add (i.toNat * 3)).off + 2, none⟩ = some (.int .i32 (rd_T37 xs i).f2) ∧ (rd_T37 xs i).f1.length ≤ c1 ∧ Kd.string.C w A1 (rd_T37 xs i).f1.length (rd_T37 xs i).f1 := by
  obtain ⟨ad, c, e, _, hK, hc0⟩ := Kd.C_get h z37 i h0 h1
  have hc : ∀ j u, c[j]? = some u → w.cell? (ad.add (i.toNat * 3 + j)) = some u := hc0
  obtain ⟨A1, c1, rfl, l1, g1⟩ := k37_open hK
  exact ⟨ad, A1, c1, e, hc 0 _ rfl, by rw [← add_field _ _ 1 (by omega)]; exact hc 1 _ rfl, by rw [← add_field _ _ 2 (by omega)]; exact hc 2 _ rfl, l1, g1⟩

/-! #### struct type 101 -/
structure S101 where
  f0 : Int
  f1 : ByteArray
def z101 : S101 := ⟨(0 : Int), (⟨#[]⟩ : ByteArray)⟩
def k101 : Kd S101 := Kd.iso (Kd.pair (Kd.int .i32) Kd.string) (fun x : S101 => (x.f0, x.f1))
theorem k101_open {w : World} {x : S101} {cs : List Value} (h : k101.K w x cs) : cs = [.int .i32 x.f0, .string x.f1] := by
  obtain ⟨_, _, rfl, rfl, rfl⟩ := h
  exact rfl
theorem k101_openM {w : World} {base : Nat} {ok : Nat → Prop} {x : S101} {cs : List Value} (h : k101.M w base ok x cs) : cs = [.int .i32 x.f0, .string x.f1] := by
  obtain ⟨_, _, rfl, rfl, rfl⟩ := h
  exact rfl
theorem k101_mk (w : World) (x : S101)  : k101.K w x [.int .i32 x.f0, .string x.f1] := ⟨[.int .i32 x.f0], [.string x.f1], rfl, rfl, rfl⟩
theorem k101_mkM (w : World) (base : Nat) (ok : Nat → Prop) (x : S101)  : k101.M w base ok x [.int .i32 x.f0, .string x.f1] := ⟨[.int .i32 x.f0], [.string x.f1], rfl, rfl, rfl⟩
def rd_T101 (xs : List S101) (i : Int) : S101 := xs.getD i.toNat z101
theorem at_T101 {w : World} {A : Option Addr} {n : Nat} {xs : List S101} (h : Kd.C k101 w A n xs) (i : Int) (h0 : 0 ≤ i) (h1 : i < n) : ∃ ad , A = some ad ∧ w.cell? (ad.add (i.toNat * 2)) = some (.int .i32 (rd_T101 xs i).f0) ∧ w.cell? ⟨(ad.add (i.toNat * 2)).block, (ad.add (i.toNat * 2)).off + 1, none⟩ = some (.string (rd_T101 xs i).f1) := by
  obtain ⟨ad, c, e, _, hK, hc0⟩ := Kd.C_get h z101 i h0 h1
  have hc : ∀ j u, c[j]? = some u → w.cell? (ad.add (i.toNat * 2 + j)) = some u := hc0
  obtain rfl := k101_open hK
  exact ⟨ad, e, hc 0 _ rfl, by rw [← add_field _ _ 1 (by omega)]; exact hc 1 _ rfl⟩

def rd_L16 (xs : List (List S101)) (i : Int) : (List S101) := xs.getD i.toNat ([] : List S101)
theorem at_L16 {w : World} {A : Option Addr} {n : Nat} {xs : List (List S101)} (h : Kd.C (Kd.slice 101 k101) w A n xs) (i : Int) (h0 : 0 ≤ i) (h1 : i < n) : ∃ ad A0 c0, A = some ad ∧ w.cell? (ad.add i.toNat) = some (.slice A0 (rd_L16 xs i).length c0) ∧ (rd_L16 xs i).length ≤ c0 ∧ k101.C w A0 (rd_L16 xs i).length (rd_L16 xs i) := by
  obtain ⟨ad, c, e, _, hK, hc0⟩ := Kd.C_get h ([] : List S101) i h0 h1
  have hc : ∀ j u, c[j]? = some u → w.cell? (ad.add (i.toNat * 1 + j)) = some u := hc0
  obtain ⟨A0, c0, rfl, l0, g0⟩ := hK
  exact ⟨ad, A0, c0, e, by have hq := hc 0 _ rfl; rwa [Nat.mul_one, Nat.add_zero] at hq, l0, g0⟩

/-! #### struct type 47 -/
structure S47 where
  f0 : S37
  f1 : S37
  f2 : Int
  f3 : ByteArray
  f4 : Int
  f5 : Int
  f6 : Int
  f7 : Int
  f8 : Bool
  f9 : Int
  f10 : (List S101)
  f11 : (List S101)
  f12 : ByteArray
  f13 : ByteArray
def z47 : S47 := ⟨z37, z37, (0 : Int), (⟨#[]⟩ : ByteArray), (0 : Int), (0 : Int), (0 : Int), (0 : Int), false, (0 : Int), ([] : List S101), ([] : List S101), (⟨#[]⟩ : ByteArray), (⟨#[]⟩ : ByteArray)⟩
def k47 : Kd S47 := Kd.iso (Kd.pair k37 (Kd.pair k37 (Kd.pair (Kd.int .i32) (Kd.pair Kd.string (Kd.pair (Kd.int .i64) (Kd.pair (Kd.int .i64) (Kd.pair (Kd.int .i64) (Kd.pair (Kd.int .i64) (Kd.pair Kd.bool (Kd.pair (Kd.int .u32) (Kd.pair (Kd.slice 101 k101) (Kd.pair (Kd.slice 101 k101) (Kd.pair Kd.string Kd.string))))))))))))) (fun x : S47 => (x.f0, x.f1, x.f2, x.f3, x.f4, x.f5, x.f6, x.f7, x.f8, x.f9, x.f10, x.f11, x.f12, x.f13))
theorem k47_open {w : World} {x : S47} {cs : List Value} (h : k47.K w x cs) : ∃ A1 c1 A4 c4 A14 c14 A15 c15, cs = [.string x.f0.f0, .slice A1 x.f0.f1.length c1, .int .i32 x.f0.f2, .string x.f1.f0, .slice A4 x.f1.f1.length c4, .int .i32 x.f1.f2, .int .i32 x.f2, .string x.f3, .int .i64 x.f4, .int .i64 x.f5, .int .i64 x.f6, .int .i64 x.f7, .bool x.f8, .int .u32 x.f9, .slice A14 x.f10.length c14, .slice A15 x.f11.length c15, .string x.f12, .string x.f13] ∧ x.f0.f1.length ≤ c1 ∧ Kd.string.C w A1 x.f0.f1.length x.f0.f1 ∧ x.f1.f1.length ≤ c4 ∧ Kd.string.C w A4 x.f1.f1.length x.f1.f1 ∧ x.f10.length ≤ c14 ∧ k101.C w A14 x.f10.length x.f10 ∧ x.f11.length ≤ c15 ∧ k101.C w A15 x.f11.length x.f11 := by
  obtain ⟨_, _, rfl, s0, ⟨_, _, rfl, s3, ⟨_, _, rfl, rfl, ⟨_, _, rfl, rfl, ⟨_, _, rfl, rfl, ⟨_, _, rfl, rfl, ⟨_, _, rfl, rfl, ⟨_, _, rfl, rfl, ⟨_, _, rfl, rfl, ⟨_, _, rfl, rfl, ⟨_, _, rfl, ⟨A14, c14, rfl, l14, g14⟩, ⟨_, _, rfl, ⟨A15, c15, rfl, l15, g15⟩, ⟨_, _, rfl, rfl, rfl⟩⟩⟩⟩⟩⟩⟩⟩⟩⟩⟩⟩⟩ := h
  obtain ⟨A1, c1, rfl, l1, g1⟩ := k37_open s0
  obtain ⟨A4, c4, rfl, l4, g4⟩ := k37_open s3
  exact ⟨A1, c1, A4, c4, A14, c14, A15, c15, rfl, l1, g1, l4, g4, l14, g14, l15, g15⟩
theorem k47_openM {w : World} {base : Nat} {ok : Nat → Prop} {x : S47} {cs : List Value} (h : k47.M w base ok x cs) : ∃ v1 v4 v14 v15, cs = [.string x.f0.f0, v1, .int .i32 x.f0.f2, .string x.f1.f0, v4, .int .i32 x.f1.f2, .int .i32 x.f2, .string x.f3, .int .i64 x.f4, .int .i64 x.f5, .int .i64 x.f6, .int .i64 x.f7, .bool x.f8, .int .u32 x.f9, v14, v15, .string x.f12, .string x.f13] ∧ Kd.string.R 9 w base ok v1 x.f0.f1 ∧ Kd.string.R 9 w base ok v4 x.f1.f1 ∧ k101.R 101 w base ok v14 x.f10 ∧ k101.R 101 w base ok v15 x.f11 := by
  obtain ⟨_, _, rfl, s0, ⟨_, _, rfl, s3, ⟨_, _, rfl, rfl, ⟨_, _, rfl, rfl, ⟨_, _, rfl, rfl, ⟨_, _, rfl, rfl, ⟨_, _, rfl, rfl, ⟨_, _, rfl, rfl, ⟨_, _, rfl, rfl, ⟨_, _, rfl, rfl, ⟨_, _, rfl, ⟨v14, rfl, g14⟩, ⟨_, _, rfl, ⟨v15, rfl, g15⟩, ⟨_, _, rfl, rfl, rfl⟩⟩⟩⟩⟩⟩⟩⟩⟩⟩⟩⟩⟩ := h
  obtain ⟨v1, rfl, g1⟩ := k37_openM s0
  obtain ⟨v4, rfl, g4⟩ := k37_openM s3
  exact ⟨v1, v4, v14, v15, rfl, g1, g4, g14, g15⟩
theorem k47_mk (w : World) (x : S47) {A1 : Option Addr} {c1 : Nat} (l1 : x.f0.f1.length ≤ c1) (g1 : Kd.string.C w A1 x.f0.f1.length x.f0.f1) {A4 : Option Addr} {c4 : Nat} (l4 : x.f1.f1.length ≤ c4) (g4 : Kd.string.C w A4 x.f1.f1.length x.f1.f1) {A14 : Option Addr} {c14 : Nat} (l14 : x.f10.length ≤ c14) (g14 : k101.C w A14 x.f10.length x.f10) {A15 : Option Addr} {c15 : Nat} (l15 : x.f11.length ≤ c15) (g15 : k101.C w A15 x.f11.length x.f11) : k47.K w x [.string x.f0.f0, .slice A1 x.f0.f1.length c1, .int .i32 x.f0.f2, .string x.f1.f0, .slice A4 x.f1.f1.length c4, .int .i32 x.f1.f2, .int .i32 x.f2, .string x.f3, .int .i64 x.f4, .int .i64 x.f5, .int .i64 x.f6, .int .i64 x.f7, .bool x.f8, .int .u32 x.f9, .slice A14 x.f10.length c14, .slice A15 x.f11.length c15, .string x.f12, .string x.f13] := ⟨[.string x.f0.f0, .slice A1 x.f0.f1.length c1, .int .i32 x.f0.f2], [.string x.f1.f0, .slice A4 x.f1.f1.length c4, .int .i32 x.f1.f2, .int .i32 x.f2, .string x.f3, .int .i64 x.f4, .int .i64 x.f5, .int .i64 x.f6, .int .i64 x.f7, .bool x.f8, .int .u32 x.f9, .slice A14 x.f10.length c14, .slice A15 x.f11.length c15, .string x.f12, .string x.f13], rfl, (k37_mk w x.f0 l1 g1), ⟨[.string x.f1.f0, .slice A4 x.f1.f1.length c4, .int .i32 x.f1.f2], [.int .i32 x.f2, .string x.f3, .int .i64 x.f4, .int .i64 x.f5, .int .i64 x.f6, .int .i64 x.f7, .bool x.f8, .int .u32 x.f9, .slice A14 x.f10.length c14, .slice A15 x.f11.length c15, .string x.f12, .string x.f13], rfl, (k37_mk w x.f1 l4 g4), ⟨[.int .i32 x.f2], [.string x.f3, .int .i64 x.f4, .int .i64 x.f5, .int .i64 x.f6, .int .i64 x.f7, .bool x.f8, .int .u32 x.f9, .slice A14 x.f10.length c14, .slice A15 x.f11.length c15, .string x.f12, .string x.f13], rfl, rfl, ⟨[.string x.f3], [.int .i64 x.f4, .int .i64 x.f5, .int .i64 x.f6, .int .i64 x.f7, .bool x.f8, .int .u32 x.f9, .slice A14 x.f10.length c14, .slice A15 x.f11.length c15, .string x.f12, .string x.f13], rfl, rfl, ⟨[.int .i64 x.f4], [.int .i64 x.f5, .int .i64 x.f6, .int .i64 x.f7, .bool x.f8, .int .u32 x.f9, .slice A14 x.f10.length c14, .slice A15 x.f11.length c15, .string x.f12, .string x.f13], rfl, rfl, ⟨[.int .i64 x.f5], [.int .i64 x.f6, .int .i64 x.f7, .bool x.f8, .int .u32 x.f9, .slice A14 x.f10.length c14, .slice A15 x.f11.length c15, .string x.f12, .string x.f13], rfl, rfl, ⟨[.int .i64 x.f6], [.int .i64 x.f7, .bool x.f8, .int .u32 x.f9, .slice A14 x.f10.length c14, .slice A15 x.f11.length c15, .string x.f12, .string x.f13], rfl, rfl, ⟨[.int .i64 x.f7], [.bool x.f8, .int .u32 x.f9, .slice A14 x.f10.length c14, .slice A15 x.f11.length c15, .string x.f12, .string x.f13], rfl, rfl, ⟨[.bool x.f8], [.int .u32 x.f9, .slice A14 x.f10.length c14, .slice A15 x.f11.length c15, .string x.f12, .string x.f13], rfl, rfl, ⟨[.int .u32 x.f9], [.slice A14 x.f10.length c14, .slice A15 x.f11.length c15, .string x.f12, .string x.f13], rfl, rfl, ⟨[.slice A14 x.f10.length c14], [.slice A15 x.f11.length c15, .string x.f12, .string x.f13], rfl, ⟨A14, c14, rfl, l14, g14⟩, ⟨[.slice A15 x.f11.length c15], [.string x.f12, .string x.f13], rfl, ⟨A15, c15, rfl, l15, g15⟩, ⟨[.string x.f12], [.string x.f13], rfl, rfl, rfl⟩⟩⟩⟩⟩⟩⟩⟩⟩⟩⟩⟩⟩
theorem k47_mkM (w : World) (base : Nat) (ok : Nat → Prop) (x : S47) {v1 : Value} (g1 : Kd.string.R 9 w base ok v1 x.f0.f1) {v4 : Value} (g4 : Kd.string.R 9 w base ok v4 x.f1.f1) {v14 : Value} (g14 : k101.R 101 w base ok v14 x.f10) {v15 : Value} (g15 : k101.R 101 w base ok v15 x.f11) : k47.M w base ok x [.string x.f0.f0, v1, .int .i32 x.f0.f2, .string x.f1.f0, v4, .int .i32 x.f1.f2, .int .i32 x.f2, .string x.f3, .int .i64 x.f4, .int .i64 x.f5, .int .i64 x.f6, .int .i64 x.f7, .bool x.f8, .int .u32 x.f9, v14, v15, .string x.f12, .string x.f13] := ⟨[.string x.f0.f0, v1, .int .i32 x.f0.f2], [.string x.f1.f0, v4, .int .i32 x.f1.f2, .int .i32 x.f2, .string x.f3, .int .i64 x.f4, .int .i64 x.f5, .int .i64 x.f6, .int .i64 x.f7, .bool x.f8, .int .u32 x.f9, v14, v15, .string x.f12, .string x.f13], rfl, (k37_mkM w base ok x.f0 g1), ⟨[.string x.f1.f0, v4, .int .i32 x.f1.f2], [.int .i32 x.f2, .string x.f3, .int .i64 x.f4, .int .i64 x.f5, .int .i64 x.f6, .int .i64 x.f7, .bool x.f8, .int .u32 x.f9, v14, v15, .string x.f12, .string x.f13], rfl, (k37_mkM w base ok x.f1 g4), ⟨[.int .i32 x.f2], [.string x.f3, .int .i64 x.f4, .int .i64 x.f5, .int .i64 x.f6, .int .i64 x.f7, .bool x.f8, .int .u32 x.f9, v14, v15, .string x.f12, .string x.f13], rfl, rfl, ⟨[.string x.f3], [.int .i64 x.f4, .int .i64 x.f5, .int .i64 x.f6, .int .i64 x.f7, .bool x.f8, .int .u32 x.f9, v14, v15, .string x.f12, .string x.f13], rfl, rfl, ⟨[.int .i64 x.f4], [.int .i64 x.f5, .int .i64 x.f6, .int .i64 x.f7, .bool x.f8, .int .u32 x.f9, v14, v15, .string x.f12, .string x.f13], rfl, rfl, ⟨[.int .i64 x.f5], [.int .i64 x.f6, .int .i64 x.f7, .bool x.f8, .int .u32 x.f9, v14, v15, .string x.f12, .string x.f13], rfl, rfl, ⟨[.int .i64 x.f6], [.int .i64 x.f7, .bool x.f8, .int .u32 x.f9, v14, v15, .string x.f12, .string x.f13], rfl, rfl, ⟨[.int .i64 x.f7], [.bool x.f8, .int .u32 x.f9, v14, v15, .string x.f12, .string x.f13], rfl, rfl, ⟨[.bool x.f8], [.int .u32 x.f9, v14, v15, .string x.f12, .string x.f13], rfl, rfl, ⟨[.int .u32 x.f9], [v14, v15, .string x.f12, .string x.f13], rfl, rfl, ⟨[v14], [v15, .string x.f12, .string x.f13], rfl, ⟨v14, rfl, g14⟩, ⟨[v15], [.string x.f12, .string x.f13], rfl, ⟨v15, rfl, g15⟩, ⟨[.string x.f12], [.string x.f13], rfl, rfl, rfl⟩⟩⟩⟩⟩⟩⟩⟩⟩⟩⟩⟩⟩
def rd_T47 (xs : List S47) (i : Int) : S47 := xs.getD i.toNat z47
theorem at_T47 {w : World} {A : Option Addr} {n : Nat} {xs : List S47} (h : Kd.C k47 w A n xs) (i : Int) (h0 : 0 ≤ i) (h1 : i < n) : ∃ ad A1 c1 A4 c4 A14 c14 A15 c15, A = some ad ∧ w.cell? (ad.add (i.toNat * 18)) = some (.string (rd_T47 xs i).f0.f0) ∧ w.cell? ⟨(ad.add (i.toNat * 18)).block, (ad.add (i.toNat * 18)).off + 1, none⟩ = some (.slice A1 (rd_T47 xs i).f0.f1.length c1) ∧ w.cell? ⟨(ad.add (i.toNat * 18)).block, (ad.add (i.toNat * 18)).off + 2, none⟩ = some (.int .i32 (rd_T47 xs i).f0.f2) ∧ w.cell? ⟨(ad.add (i.toNat * 18)).block, (ad.add (i.toNat * 18)).off + 3, none⟩ = some (.string (rd_T47 xs i).f1.f0) ∧ w.cell? ⟨(ad.add (i.toNat * 18)).block, (ad.add (i.toNat * 18)).off + 4, none⟩ = some (.slice A4 (rd_T47 xs i).f1.f1.length c4) ∧ w.cell? ⟨(ad.add (i.toNat * 18)).block, (ad.add (i.toNat * 18)).off + 5, none⟩ = some (.int .i32 (rd_T47 xs i).f1.f2) ∧ w.cell? ⟨(ad.add (i.toNat * 18)).block, (ad.add (i.toNat * 18)).off + 6, none⟩ = some (.int .i32 (rd_T47 xs i).f2) ∧ w.cell? ⟨(ad.add (i.toNat * 18)).block, (ad.add (i.toNat * 18)).off + 7, none⟩ = some (.string (rd_T47 xs i).f3) ∧ w.cell? ⟨(ad.add (i.toNat * 18)).block, (ad.add (i.toNat * 18)).off + 8, none⟩ = some (.int .i64 (rd_T47 xs i).f4) ∧ w.cell? ⟨(ad.add (i.toNat * 18)).block, (ad.add (i.toNat * 18)).off + 9, none⟩ = some (.int .i64 (rd_T47 xs i).f5) ∧ w.cell? ⟨(ad.add (i.toNat * 18)).block, (ad.add (i.toNat * 18)).off + 10, none⟩ = some (.int .i64 (rd_T47 xs i).f6) ∧ w.cell? ⟨(ad.add (i.toNat * 18)).block, (ad.add (i.toNat * 18)).off + 11, none⟩ = some (.int .i64 (rd_T47 xs i).f7) ∧ w.cell? ⟨(ad.add (i.toNat * 18)).block, (ad.add (i.toNat * 18)).off + 12, none⟩ = some (.bool (rd_T47 xs i).f8) ∧ w.cell? ⟨(ad.add (i.toNat * 18)).block, (ad.add (i.toNat * 18)).off + 13, none⟩ = some (.int .u32 (rd_T47 xs i).f9) ∧ w.cell? ⟨(ad.add (i.toNat * 18)).block, (ad.add (i.toNat * 18)).off + 14, none⟩ = some (.slice A14 (rd_T47 xs i).f10.length c14) ∧ w.cell? ⟨(ad.add (i.toNat * 18)).block, (ad.add (i.toNat * 18)).off + 15, none⟩ = some (.slice A15 (rd_T47 xs i).f11.length c15) ∧ w.cell? ⟨(ad.add (i.toNat * 18)).block, (ad.add (i.toNat * 18)).off + 16, none⟩ = some (.string (rd_T47 xs i).f12) ∧ w.cell? ⟨(ad.add (i.toNat * 18)).block, (ad.add (i.toNat * 18)).off + 17, none⟩ = some (.string (rd_T47 xs i).f13) ∧ (rd_T47 xs i).f0.f1.length ≤ c1 ∧ Kd.string.C w A1 (rd_T47 xs i).f0.f1.length (rd_T47 xs i).f0.f1 ∧ (rd_T47 xs i).f1.f1.length ≤ c4 ∧ Kd.string.C w A4 (rd_T47 xs i).f1.f1.length (rd_T47 xs i).f1.f1 ∧ (rd_T47 xs i).f10.length ≤ c14 ∧ k101.C w A14 (rd_T47 xs i).f10.length (rd_T47 xs i).f10 ∧ (rd_T47 xs i).f11.length ≤ c15 ∧ k101.C w A15 (rd_T47 xs i).f11.length (rd_T47 xs i).f11 := by
  obtain ⟨ad, c, e, _, hK, hc0⟩ := Kd.C_get h z47 i h0 h1
  have hc : ∀ j u, c[j]? = some u → w.cell? (ad.add (i.toNat * 18 + j)) = some u := hc0
  obtain ⟨A1, c1, A4, c4, A14, c14, A15, c15, rfl, l1, g1, l4, g4, l14, g14, l15, g15⟩ := k47_open hK
  exact ⟨ad, A1, c1, A4, c4, A14, c14, A15, c15, e, hc 0 _ rfl, by rw [← add_field _ _ 1 (by omega)]; exact hc 1 _ rfl, by rw [← add_field _ _ 2 (by omega)]; exact hc 2 _ rfl, by rw [← add_field _ _ 3 (by omega)]; exact hc 3 _ rfl, by rw [← add_field _ _ 4 (by omega)]; exact hc 4 _ rfl, by rw [← add_field _ _ 5 (by omega)]; exact hc 5 _ rfl, by rw [← add_field _ _ 6 (by omega)]; exact hc 6 _ rfl, by rw [← add_field _ _ 7 (by omega)]; exact hc 7 _ rfl, by rw [← add_field _ _ 8 (by omega)]; exact hc 8 _ rfl, by rw [← add_field _ _ 9 (by omega)]; exact hc 9 _ rfl, by rw [← add_field _ _ 10 (by omega)]; exact hc 10 _ rfl, by rw [← add_field _ _ 11 (by omega)]; exact hc 11 _ rfl, by rw [← add_field _ _ 12 (by omega)]; exact hc 12 _ rfl, by rw [← add_field _ _ 13 (by omega)]; exact hc 13 _ rfl, by rw [← add_field _ _ 14 (by omega)]; exact hc 14 _ rfl, by rw [← add_field _ _ 15 (by omega)]; exact hc 15 _ rfl, by rw [← add_field _ _ 16 (by omega)]; exact hc 16 _ rfl, by rw [← add_field _ _ 17 (by omega)]; exact hc 17 _ rfl, l1, g1, l4, g4, l14, g14, l15, g15⟩

def rd_L18 (xs : List (List S47)) (i : Int) : (List S47) := xs.getD i.toNat ([] : List S47)
theorem at_L18 {w : World} {A : Option Addr} {n : Nat} {xs : List (List S47)} (h : Kd.C (Kd.slice 47 k47) w A n xs) (i : Int) (h0 : 0 ≤ i) (h1 : i < n) : ∃ ad A0 c0, A = some ad ∧ w.cell? (ad.add i.toNat) = some (.slice A0 (rd_L18 xs i).length c0) ∧ (rd_L18 xs i).length ≤ c0 ∧ k47.C w A0 (rd_L18 xs i).length (rd_L18 xs i) := by
  obtain ⟨ad, c, e, _, hK, hc0⟩ := Kd.C_get h ([] : List S47) i h0 h1
  have hc : ∀ j u, c[j]? = some u → w.cell? (ad.add (i.toNat * 1 + j)) = some u := hc0
  obtain ⟨A0, c0, rfl, l0, g0⟩ := hK
  exact ⟨ad, A0, c0, e, by have hq := hc 0 _ rfl; rwa [Nat.mul_one, Nat.add_zero] at hq, l0, g0⟩

end Go.Proofs.Ytnipcocllhfaoaa.A

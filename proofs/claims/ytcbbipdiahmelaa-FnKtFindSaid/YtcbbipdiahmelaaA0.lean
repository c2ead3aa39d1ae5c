/- Go functions of this seat come to the answers of the Lean functions that stand here ('.calls'), under what each theorem states and nothing else. Written by pw.py, a program of this session, with texts of its own. -/
import Derived.Test.YtcbbipdiahmelaaProg
import Derived.Below
import Derived.Deep.Draws
import Derived.Deep.AppendLies
import Derived.Maps.AppendAt
import Derived.OwnWalk
import Derived.Laws.BytesArg
import Derived.Laws.MakeOwn
import Derived.Laws.OwnMore
import Derived.Deep.OwnRows
import Derived.Tactics
import Derived.Lib.ConvBytes
import Derived.Laws.Slices
import Derived.WalkKit
import Derived.KernelRfl
import Derived.RowKit3
import Derived.Deep.LoopGhost
import Derived.Deep.QuietTactic
import Derived.BigQuiet
import Derived.WideLaws
import Derived.Deep.DeepCutAuto
import Derived.Deep.CutBlock
import Derived.Deep.RegionHeld3
import Derived.Laws.Rows
import Derived.Lib.AppendStr
import Derived.ArgAppend
import Derived.Laws.IdiomCopy
import Derived.OrdersHeld
import Derived.Laws.BitsLemmas
import Derived.RowKit
import Derived.Test.YtcbbipdiahmelaaWWords
import Derived.Test.YtcbbipdiahmelaaWLast
import Derived.Test.YtcbbipdiahmelaaWTab
import Derived.Test.YtcbbipdiahmelaaWQPut
import Derived.Test.YtcbbipdiahmelaaWApart
import Derived.Test.YtcbbipdiahmelaaWRepsOne
import Derived.Test.YtcbbipdiahmelaaWGuard
import Derived.Test.YtcbbipdiahmelaaL0
namespace Go.Proofs.Ytcbbipdiahmelaa.A
open Go.RowKit Go.Proofs.YtcbbipdiahmelaaW.PrintWords Go.Proofs.YtcbbipdiahmelaaW.PrintLast
open Go.Proofs.Ytcbbipdiahmelaa.B (gate_callee gate_builtin)
set_option linter.unusedVariables false
set_option linter.unusedSimpArgs false
set_option maxRecDepth 100000



def errW : Option Int → Value
  | none => .nilIface
  | some c => .iface 0 (.int .i64 c)
theorem errW_none : errW none = .nilIface := rfl
theorem errW_some (c : Int) : errW (some c) = .iface 0 (.int .i64 c) := rfl

-- the values' own types
def rd_L1 (xs : List (List ByteArray)) (i : Int) : (List ByteArray) := xs.getD i.toNat ([] : List ByteArray)
theorem at_L1 {w : World} {A : Option Addr} {n : Nat} {xs : List (List ByteArray)} (h : Kd.C (Kd.slice 9 Kd.string) w A n xs) (i : Int) (h0 : 0 ≤ i) (h1 : i < n) : ∃ ad A0 c0, A = some ad ∧ w.cell? (ad.add i.toNat) = some (.slice A0 (rd_L1 xs i).length c0) ∧ (rd_L1 xs i).length ≤ c0 ∧ Kd.string.C w A0 (rd_L1 xs i).length (rd_L1 xs i) := by
  obtain ⟨ad, c, e, _, hK, hc0⟩ := Kd.C_get h ([] : List ByteArray) i h0 h1
  have hc : ∀ j u, c[j]? = some u → w.cell? (ad.add (i.toNat * 1 + j)) = some u := hc0
  obtain ⟨A0, c0, rfl, l0, g0⟩ := hK
  exact ⟨ad, A0, c0, e, by have hq := hc 0 _ rfl; rwa [Nat.mul_one, Nat.add_zero] at hq, l0, g0⟩

/-! #### struct type 25 -/
structure S25 where
  f0 : ByteArray
  f1 : (List ByteArray)
  f2 : Int
  f3 : Int
  f4 : Int
  f5 : Int
  f6 : Int
  f7 : ByteArray
def z25 : S25 := ⟨(⟨#[]⟩ : ByteArray), ([] : List ByteArray), (0 : Int), (0 : Int), (0 : Int), (0 : Int), (0 : Int), (⟨#[]⟩ : ByteArray)⟩
def k25 : Kd S25 := Kd.iso (Kd.pair Kd.string (Kd.pair (Kd.slice 9 Kd.string) (Kd.pair (Kd.int .i32) (Kd.pair (Kd.int .i64) (Kd.pair (Kd.int .u8) (Kd.pair (Kd.int .u32) (Kd.pair (Kd.int .i32) Kd.string))))))) (fun x : S25 => (x.f0, x.f1, x.f2, x.f3, x.f4, x.f5, x.f6, x.f7))
theorem k25_open {w : World} {x : S25} {cs : List Value} (h : k25.K w x cs) : ∃ A1 c1, cs = [.string x.f0, .slice A1 x.f1.length c1, .int .i32 x.f2, .int .i64 x.f3, .int .u8 x.f4, .int .u32 x.f5, .int .i32 x.f6, .string x.f7] ∧ x.f1.length ≤ c1 ∧ Kd.string.C w A1 x.f1.length x.f1 := by
  obtain ⟨_, _, rfl, rfl, ⟨_, _, rfl, ⟨A1, c1, rfl, l1, g1⟩, ⟨_, _, rfl, rfl, ⟨_, _, rfl, rfl, ⟨_, _, rfl, rfl, ⟨_, _, rfl, rfl, ⟨_, _, rfl, rfl, rfl⟩⟩⟩⟩⟩⟩⟩ := h
  exact ⟨A1, c1, rfl, l1, g1⟩
theorem k25_openM {w : World} {base : Nat} {ok : Nat → Prop} {x : S25} {cs : List Value} (h : k25.M w base ok x cs) : ∃ v1, cs = [.string x.f0, v1, .int .i32 x.f2, .int .i64 x.f3, .int .u8 x.f4, .int .u32 x.f5, .int .i32 x.f6, .string x.f7] ∧ Kd.string.R 9 w base ok v1 x.f1 := by
  obtain ⟨_, _, rfl, rfl, ⟨_, _, rfl, ⟨v1, rfl, g1⟩, ⟨_, _, rfl, rfl, ⟨_, _, rfl, rfl, ⟨_, _, rfl, rfl, ⟨_, _, rfl, rfl, ⟨_, _, rfl, rfl, rfl⟩⟩⟩⟩⟩⟩⟩ := h
  exact ⟨v1, rfl, g1⟩
theorem k25_mk (w : World) (x : S25) {A1 : Option Addr} {c1 : Nat} (l1 : x.f1.length ≤ c1) (g1 : Kd.string.C w A1 x.f1.length x.f1) : k25.K w x [.string x.f0, .slice A1 x.f1.length c1, .int .i32 x.f2, .int .i64 x.f3, .int .u8 x.f4, .int .u32 x.f5, .int .i32 x.f6, .string x.f7] := ⟨[.string x.f0], [.slice A1 x.f1.length c1, .int .i32 x.f2, .int .i64 x.f3, .int .u8 x.f4, .int .u32 x.f5, .int .i32 x.f6, .string x.f7], rfl, rfl, ⟨[.slice A1 x.f1.length c1], [.int .i32 x.f2, .int .i64 x.f3, .int .u8 x.f4, .int .u32 x.f5, .int .i32 x.f6, .string x.f7], rfl, ⟨A1, c1, rfl, l1, g1⟩, ⟨[.int .i32 x.f2], [.int .i64 x.f3, .int .u8 x.f4, .int .u32 x.f5, .int .i32 x.f6, .string x.f7], rfl, rfl, ⟨[.int .i64 x.f3], [.int .u8 x.f4, .int .u32 x.f5, .int .i32 x.f6, .string x.f7], rfl, rfl, ⟨[.int .u8 x.f4], [.int .u32 x.f5, .int .i32 x.f6, .string x.f7], rfl, rfl, ⟨[.int .u32 x.f5], [.int .i32 x.f6, .string x.f7], rfl, rfl, ⟨[.int .i32 x.f6], [.string x.f7], rfl, rfl, rfl⟩⟩⟩⟩⟩⟩⟩
theorem k25_mkM (w : World) (base : Nat) (ok : Nat → Prop) (x : S25) {v1 : Value} (g1 : Kd.string.R 9 w base ok v1 x.f1) : k25.M w base ok x [.string x.f0, v1, .int .i32 x.f2, .int .i64 x.f3, .int .u8 x.f4, .int .u32 x.f5, .int .i32 x.f6, .string x.f7] := ⟨[.string x.f0], [v1, .int .i32 x.f2, .int .i64 x.f3, .int .u8 x.f4, .int .u32 x.f5, .int .i32 x.f6, .string x.f7], rfl, rfl, ⟨[v1], [.int .i32 x.f2, .int .i64 x.f3, .int .u8 x.f4, .int .u32 x.f5, .int .i32 x.f6, .string x.f7], rfl, ⟨v1, rfl, g1⟩, ⟨[.int .i32 x.f2], [.int .i64 x.f3, .int .u8 x.f4, .int .u32 x.f5, .int .i32 x.f6, .string x.f7], rfl, rfl, ⟨[.int .i64 x.f3], [.int .u8 x.f4, .int .u32 x.f5, .int .i32 x.f6, .string x.f7], rfl, rfl, ⟨[.int .u8 x.f4], [.int .u32 x.f5, .int .i32 x.f6, .string x.f7], rfl, rfl, ⟨[.int .u32 x.f5], [.int .i32 x.f6, .string x.f7], rfl, rfl, ⟨[.int .i32 x.f6], [.string x.f7], rfl, rfl, rfl⟩⟩⟩⟩⟩⟩⟩
def rd_T25 (xs : List S25) (i : Int) : S25 := xs.getD i.toNat z25
theorem at_T25 {w : World} {A : Option Addr} {n : Nat} {xs : List S25} (h : Kd.C k25 w A n xs) (i : Int) (h0 : 0 ≤ i) (h1 : i < n) : ∃ ad A1 c1, A = some ad ∧ w.cell? (ad.add (i.toNat * 8)) = some (.string (rd_T25 xs i).f0) ∧ w.cell? ⟨(ad.add (i.toNat * 8)).block, (ad.add (i.toNat * 8)).off + 1, none⟩ = some (.slice A1 (rd_T25 xs i).f1.length c1) ∧ w.cell? ⟨(ad.add (i.toNat * 8)).block, (ad.add (i.toNat * 8)).off + 2, none⟩ = some (.int .i32 (rd_T25 xs i).f2) ∧ w.cell? ⟨(ad.add (i.toNat * 8)).block, (ad.add (i.toNat * 8)).off + 3, none⟩ = some (.int .i64 (rd_T25 xs i).f3) ∧ w.cell? ⟨(ad.add (i.toNat * 8)).block, (ad.add (i.toNat * 8)).off + 4, none⟩ = some (.int .u8 (rd_T25 xs i).f4) ∧ w.cell? ⟨(ad.add (i.toNat * 8)).block, (ad.add (i.toNat * 8)).off + 5, none⟩ = some (.int .u32 (rd_T25 xs i).f5) ∧ w.cell? ⟨(ad.add (i.toNat * 8)).block, (ad.add (i.toNat * 8)).off + 6, none⟩ = some (.int .i32 (rd_T25 xs i).f6) ∧ w.cell? ⟨(ad.add (i.toNat * 8)).block, (ad.add (i.toNat * 8)).off + 7, none⟩ = some (.string (rd_T25 xs i).f7) ∧ (rd_T25 xs i).f1.length ≤ c1 ∧ Kd.string.C w A1 (rd_T25 xs i).f1.length (rd_T25 xs i).f1 := by
  obtain ⟨ad, c, e, _, hK, hc0⟩ := Kd.C_get h z25 i h0 h1
  have hc : ∀ j u, c[j]? = some u → w.cell? (ad.add (i.toNat * 8 + j)) = some u := hc0
  obtain ⟨A1, c1, rfl, l1, g1⟩ := k25_open hK
  exact ⟨ad, A1, c1, e, hc 0 _ rfl, by rw [← add_field _ _ 1 (by omega)]; exact hc 1 _ rfl, by rw [← add_field _ _ 2 (by omega)]; exact hc 2 _ rfl, by rw [← add_field _ _ 3 (by omega)]; exact hc 3 _ rfl, by rw [← add_field _ _ 4 (by omega)]; exact hc 4 _ rfl, by rw [← add_field _ _ 5 (by omega)]; exact hc 5 _ rfl, by rw [← add_field _ _ 6 (by omega)]; exact hc 6 _ rfl, by rw [← add_field _ _ 7 (by omega)]; exact hc 7 _ rfl, l1, g1⟩

def rd_L7 (xs : List (List S25)) (i : Int) : (List S25) := xs.getD i.toNat ([] : List S25)
theorem at_L7 {w : World} {A : Option Addr} {n : Nat} {xs : List (List S25)} (h : Kd.C (Kd.slice 25 k25) w A n xs) (i : Int) (h0 : 0 ≤ i) (h1 : i < n) : ∃ ad A0 c0, A = some ad ∧ w.cell? (ad.add i.toNat) = some (.slice A0 (rd_L7 xs i).length c0) ∧ (rd_L7 xs i).length ≤ c0 ∧ k25.C w A0 (rd_L7 xs i).length (rd_L7 xs i) := by
  obtain ⟨ad, c, e, _, hK, hc0⟩ := Kd.C_get h ([] : List S25) i h0 h1
  have hc : ∀ j u, c[j]? = some u → w.cell? (ad.add (i.toNat * 1 + j)) = some u := hc0
  obtain ⟨A0, c0, rfl, l0, g0⟩ := hK
  exact ⟨ad, A0, c0, e, by have hq := hc 0 _ rfl; rwa [Nat.mul_one, Nat.add_zero] at hq, l0, g0⟩

/-! #### struct type 87 -/
structure S87 where
  f0 : Int
  f1 : ByteArray
  f2 : (List ByteArray)
  f3 : Int
def z87 : S87 := ⟨(0 : Int), (⟨#[]⟩ : ByteArray), ([] : List ByteArray), (0 : Int)⟩
def k87 : Kd S87 := Kd.iso (Kd.pair (Kd.int .i16) (Kd.pair Kd.string (Kd.pair (Kd.slice 9 Kd.string) (Kd.int .i32)))) (fun x : S87 => (x.f0, x.f1, x.f2, x.f3))
theorem k87_open {w : World} {x : S87} {cs : List Value} (h : k87.K w x cs) : ∃ A2 c2, cs = [.int .i16 x.f0, .string x.f1, .slice A2 x.f2.length c2, .int .i32 x.f3] ∧ x.f2.length ≤ c2 ∧ Kd.string.C w A2 x.f2.length x.f2 := by
  obtain ⟨_, _, rfl, rfl, ⟨_, _, rfl, rfl, ⟨_, _, rfl, ⟨A2, c2, rfl, l2, g2⟩, rfl⟩⟩⟩ := h
  exact ⟨A2, c2, rfl, l2, g2⟩
theorem k87_openM {w : World} {base : Nat} {ok : Nat → Prop} {x : S87} {cs : List Value} (h : k87.M w base ok x cs) : ∃ v2, cs = [.int .i16 x.f0, .string x.f1, v2, .int .i32 x.f3] ∧ Kd.string.R 9 w base ok v2 x.f2 := by
  obtain ⟨_, _, rfl, rfl, ⟨_, _, rfl, rfl, ⟨_, _, rfl, ⟨v2, rfl, g2⟩, rfl⟩⟩⟩ := h
  exact ⟨v2, rfl, g2⟩
theorem k87_mk (w : World) (x : S87) {A2 : Option Addr} {c2 : Nat} (l2 : x.f2.length ≤ c2) (g2 : Kd.string.C w A2 x.f2.length x.f2) : k87.K w x [.int .i16 x.f0, .string x.f1, .slice A2 x.f2.length c2, .int .i32 x.f3] := ⟨[.int .i16 x.f0], [.string x.f1, .slice A2 x.f2.length c2, .int .i32 x.f3], rfl, rfl, ⟨[.string x.f1], [.slice A2 x.f2.length c2, .int .i32 x.f3], rfl, rfl, ⟨[.slice A2 x.f2.length c2], [.int .i32 x.f3], rfl, ⟨A2, c2, rfl, l2, g2⟩, rfl⟩⟩⟩
theorem k87_mkM (w : World) (base : Nat) (ok : Nat → Prop) (x : S87) {v2 : Value} (g2 : Kd.string.R 9 w base ok v2 x.f2) : k87.M w base ok x [.int .i16 x.f0, .string x.f1, v2, .int .i32 x.f3] := ⟨[.int .i16 x.f0], [.string x.f1, v2, .int .i32 x.f3], rfl, rfl, ⟨[.string x.f1], [v2, .int .i32 x.f3], rfl, rfl, ⟨[v2], [.int .i32 x.f3], rfl, ⟨v2, rfl, g2⟩, rfl⟩⟩⟩
def rd_T87 (xs : List S87) (i : Int) : S87 := xs.getD i.toNat z87
theorem at_T87 {w : World} {A : Option Addr} {n : Nat} {xs : List S87} (h : Kd.C k87 w A n xs) (i : Int) (h0 : 0 ≤ i) (h1 : i < n) : ∃ ad A2 c2, A = some ad ∧ w.cell? (ad.add (i.toNat * 4)) = some (.int .i16 (rd_T87 xs i).f0) ∧ w.cell? ⟨(ad.add (i.toNat * 4)).block, (ad.add (i.toNat * 4)).off + 1, none⟩ = some (.string (rd_T87 xs i).f1) ∧ w.cell? ⟨(ad.add (i.toNat * 4)).block, (ad.add (i.toNat * 4)).off + 2, none⟩ = some (.slice A2 (rd_T87 xs i).f2.length c2) ∧ w.cell? ⟨(ad.add (i.toNat * 4)).block, (ad.add (i.toNat * 4)).off + 3, none⟩ = some (.int .i32 (rd_T87 xs i).f3) ∧ (rd_T87 xs i).f2.length ≤ c2 ∧ Kd.string.C w A2 (rd_T87 xs i).f2.length (rd_T87 xs i).f2 := by
  obtain ⟨ad, c, e, _, hK, hc0⟩ := Kd.C_get h z87 i h0 h1
  have hc : ∀ j u, c[j]? = some u → w.cell? (ad.add (i.toNat * 4 + j)) = some u := hc0
  obtain ⟨A2, c2, rfl, l2, g2⟩ := k87_open hK
  exact ⟨ad, A2, c2, e, hc 0 _ rfl, by rw [← add_field _ _ 1 (by omega)]; exact hc 1 _ rfl, by rw [← add_field _ _ 2 (by omega)]; exact hc 2 _ rfl, by rw [← add_field _ _ 3 (by omega)]; exact hc 3 _ rfl, l2, g2⟩

/-! #### struct type 89 -/
structure S89 where
  f0 : Int
  f1 : Bool
def z89 : S89 := ⟨(0 : Int), false⟩
def k89 : Kd S89 := Kd.iso (Kd.pair (Kd.int .i64) Kd.bool) (fun x : S89 => (x.f0, x.f1))
theorem k89_open {w : World} {x : S89} {cs : List Value} (h : k89.K w x cs) : cs = [.int .i64 x.f0, .bool x.f1] := by
  obtain ⟨_, _, rfl, rfl, rfl⟩ := h
  exact rfl
theorem k89_openM {w : World} {base : Nat} {ok : Nat → Prop} {x : S89} {cs : List Value} (h : k89.M w base ok x cs) : cs = [.int .i64 x.f0, .bool x.f1] := by
  obtain ⟨_, _, rfl, rfl, rfl⟩ := h
  exact rfl
theorem k89_mk (w : World) (x : S89)  : k89.K w x [.int .i64 x.f0, .bool x.f1] := ⟨[.int .i64 x.f0], [.bool x.f1], rfl, rfl, rfl⟩
theorem k89_mkM (w : World) (base : Nat) (ok : Nat → Prop) (x : S89)  : k89.M w base ok x [.int .i64 x.f0, .bool x.f1] := ⟨[.int .i64 x.f0], [.bool x.f1], rfl, rfl, rfl⟩
def rd_T89 (xs : List S89) (i : Int) : S89 := xs.getD i.toNat z89
theorem at_T89 {w : World} {A : Option Addr} {n : Nat} {xs : List S89} (h : Kd.C k89 w A n xs) (i : Int) (h0 : 0 ≤ i) (h1 : i < n) : ∃ ad , A = some ad ∧ w.cell? (ad.add (i.toNat * 2)) = some (.int .i64 (rd_T89 xs i).f0) ∧ w.cell? ⟨(ad.add (i.toNat * 2)).block, (ad.add (i.toNat * 2)).off + 1, none⟩ = some (.bool (rd_T89 xs i).f1) := by
  obtain ⟨ad, c, e, _, hK, hc0⟩ := Kd.C_get h z89 i h0 h1
  have hc : ∀ j u, c[j]? = some u → w.cell? (ad.add (i.toNat * 2 + j)) = some u := hc0
  obtain rfl := k89_open hK
  exact ⟨ad, e, hc 0 _ rfl, by rw [← add_field _ _ 1 (by omega)]; exact hc 1 _ rfl⟩

def rd_L13 (xs : List (List Int)) (i : Int) : (List Int) := xs.getD i.toNat ([] : List Int)
theorem at_L13 {w : World} {A : Option Addr} {n : Nat} {xs : List (List Int)} (h : Kd.C (Kd.slice 5 (Kd.int .u8)) w A n xs) (i : Int) (h0 : 0 ≤ i) (h1 : i < n) : ∃ ad A0 c0, A = some ad ∧ w.cell? (ad.add i.toNat) = some (.slice A0 (rd_L13 xs i).length c0) ∧ (rd_L13 xs i).length ≤ c0 ∧ (Kd.int .u8).C w A0 (rd_L13 xs i).length (rd_L13 xs i) := by
  obtain ⟨ad, c, e, _, hK, hc0⟩ := Kd.C_get h ([] : List Int) i h0 h1
  have hc : ∀ j u, c[j]? = some u → w.cell? (ad.add (i.toNat * 1 + j)) = some u := hc0
  obtain ⟨A0, c0, rfl, l0, g0⟩ := hK
  exact ⟨ad, A0, c0, e, by have hq := hc 0 _ rfl; rwa [Nat.mul_one, Nat.add_zero] at hq, l0, g0⟩

/-! #### struct type 65 -/
structure S65 where
  f0 : Int
  f1 : (List Int)
def z65 : S65 := ⟨(0 : Int), ([] : List Int)⟩
def k65 : Kd S65 := Kd.iso (Kd.pair (Kd.int .i32) (Kd.slice 5 (Kd.int .u8))) (fun x : S65 => (x.f0, x.f1))
theorem k65_open {w : World} {x : S65} {cs : List Value} (h : k65.K w x cs) : ∃ A1 c1, cs = [.int .i32 x.f0, .slice A1 x.f1.length c1] ∧ x.f1.length ≤ c1 ∧ (Kd.int .u8).C w A1 x.f1.length x.f1 := by
  obtain ⟨_, _, rfl, rfl, ⟨A1, c1, rfl, l1, g1⟩⟩ := h
  exact ⟨A1, c1, rfl, l1, g1⟩
theorem k65_openM {w : World} {base : Nat} {ok : Nat → Prop} {x : S65} {cs : List Value} (h : k65.M w base ok x cs) : ∃ v1, cs = [.int .i32 x.f0, v1] ∧ (Kd.int .u8).R 5 w base ok v1 x.f1 := by
  obtain ⟨_, _, rfl, rfl, ⟨v1, rfl, g1⟩⟩ := h
  exact ⟨v1, rfl, g1⟩
theorem k65_mk (w : World) (x : S65) {A1 : Option Addr} {c1 : Nat} (l1 : x.f1.length ≤ c1) (g1 : (Kd.int .u8).C w A1 x.f1.length x.f1) : k65.K w x [.int .i32 x.f0, .slice A1 x.f1.length c1] := ⟨[.int .i32 x.f0], [.slice A1 x.f1.length c1], rfl, rfl, ⟨A1, c1, rfl, l1, g1⟩⟩
theorem k65_mkM (w : World) (base : Nat) (ok : Nat → Prop) (x : S65) {v1 : Value} (g1 : (Kd.int .u8).R 5 w base ok v1 x.f1) : k65.M w base ok x [.int .i32 x.f0, v1] := ⟨[.int .i32 x.f0], [v1], rfl, rfl, ⟨v1, rfl, g1⟩⟩
def rd_T65 (xs : List S65) (i : Int) : S65 := xs.getD i.toNat z65
theorem at_T65 {w : World} {A : Option Addr} {n : Nat} {xs : List S65} (h : Kd.C k65 w A n xs) (i : Int) (h0 : 0 ≤ i) (h1 : i < n) : ∃ ad A1 c1, A = some ad ∧ w.cell? (ad.add (i.toNat * 2)) = some (.int .i32 (rd_T65 xs i).f0) ∧ w.cell? ⟨(ad.add (i.toNat * 2)).block, (ad.add (i.toNat * 2)).off + 1, none⟩ = some (.slice A1 (rd_T65 xs i).f1.length c1) ∧ (rd_T65 xs i).f1.length ≤ c1 ∧ (Kd.int .u8).C w A1 (rd_T65 xs i).f1.length (rd_T65 xs i).f1 := by
  obtain ⟨ad, c, e, _, hK, hc0⟩ := Kd.C_get h z65 i h0 h1
  have hc : ∀ j u, c[j]? = some u → w.cell? (ad.add (i.toNat * 2 + j)) = some u := hc0
  obtain ⟨A1, c1, rfl, l1, g1⟩ := k65_open hK
  exact ⟨ad, A1, c1, e, hc 0 _ rfl, by rw [← add_field _ _ 1 (by omega)]; exact hc 1 _ rfl, l1, g1⟩

/-! #### struct type 91 -/
structure S91 where
  f0 : S87
  f1 : S89
  f2 : Int
  f3 : S65
  f4 : Int
def z91 : S91 := ⟨z87, z89, (0 : Int), z65, (0 : Int)⟩
def k91 : Kd S91 := Kd.iso (Kd.pair k87 (Kd.pair k89 (Kd.pair (Kd.int .u8) (Kd.pair k65 (Kd.int .u32))))) (fun x : S91 => (x.f0, x.f1, x.f2, x.f3, x.f4))
theorem k91_open {w : World} {x : S91} {cs : List Value} (h : k91.K w x cs) : ∃ A2 c2 A8 c8, cs = [.int .i16 x.f0.f0, .string x.f0.f1, .slice A2 x.f0.f2.length c2, .int .i32 x.f0.f3, .int .i64 x.f1.f0, .bool x.f1.f1, .int .u8 x.f2, .int .i32 x.f3.f0, .slice A8 x.f3.f1.length c8, .int .u32 x.f4] ∧ x.f0.f2.length ≤ c2 ∧ Kd.string.C w A2 x.f0.f2.length x.f0.f2 ∧ x.f3.f1.length ≤ c8 ∧ (Kd.int .u8).C w A8 x.f3.f1.length x.f3.f1 := by
  obtain ⟨_, _, rfl, s0, ⟨_, _, rfl, s4, ⟨_, _, rfl, rfl, ⟨_, _, rfl, s7, rfl⟩⟩⟩⟩ := h
  obtain ⟨A2, c2, rfl, l2, g2⟩ := k87_open s0
  obtain rfl := k89_open s4
  obtain ⟨A8, c8, rfl, l8, g8⟩ := k65_open s7
  exact ⟨A2, c2, A8, c8, rfl, l2, g2, l8, g8⟩
theorem k91_openM {w : World} {base : Nat} {ok : Nat → Prop} {x : S91} {cs : List Value} (h : k91.M w base ok x cs) : ∃ v2 v8, cs = [.int .i16 x.f0.f0, .string x.f0.f1, v2, .int .i32 x.f0.f3, .int .i64 x.f1.f0, .bool x.f1.f1, .int .u8 x.f2, .int .i32 x.f3.f0, v8, .int .u32 x.f4] ∧ Kd.string.R 9 w base ok v2 x.f0.f2 ∧ (Kd.int .u8).R 5 w base ok v8 x.f3.f1 := by
  obtain ⟨_, _, rfl, s0, ⟨_, _, rfl, s4, ⟨_, _, rfl, rfl, ⟨_, _, rfl, s7, rfl⟩⟩⟩⟩ := h
  obtain ⟨v2, rfl, g2⟩ := k87_openM s0
  obtain rfl := k89_openM s4
  obtain ⟨v8, rfl, g8⟩ := k65_openM s7
  exact ⟨v2, v8, rfl, g2, g8⟩
theorem k91_mk (w : World) (x : S91) {A2 : Option Addr} {c2 : Nat} (l2 : x.f0.f2.length ≤ c2) (g2 : Kd.string.C w A2 x.f0.f2.length x.f0.f2) {A8 : Option Addr} {c8 : Nat} (l8 : x.f3.f1.length ≤ c8) (g8 : (Kd.int .u8).C w A8 x.f3.f1.length x.f3.f1) : k91.K w x [.int .i16 x.f0.f0, .string x.f0.f1, .slice A2 x.f0.f2.length c2, .int .i32 x.f0.f3, .int .i64 x.f1.f0, .bool x.f1.f1, .int .u8 x.f2, .int .i32 x.f3.f0, .slice A8 x.f3.f1.length c8, .int .u32 x.f4] := ⟨[.int .i16 x.f0.f0, .string x.f0.f1, .slice A2 x.f0.f2.length c2, .int .i32 x.f0.f3], [.int .i64 x.f1.f0, .bool x.f1.f1, .int .u8 x.f2, .int .i32 x.f3.f0, .slice A8 x.f3.f1.length c8, .int .u32 x.f4], rfl, (k87_mk w x.f0 l2 g2), ⟨[.int .i64 x.f1.f0, .bool x.f1.f1], [.int .u8 x.f2, .int .i32 x.f3.f0, .slice A8 x.f3.f1.length c8, .int .u32 x.f4], rfl, (k89_mk w x.f1 ), ⟨[.int .u8 x.f2], [.int .i32 x.f3.f0, .slice A8 x.f3.f1.length c8, .int .u32 x.f4], rfl, rfl, ⟨[.int .i32 x.f3.f0, .slice A8 x.f3.f1.length c8], [.int .u32 x.f4], rfl, (k65_mk w x.f3 l8 g8), rfl⟩⟩⟩⟩
theorem k91_mkM (w : World) (base : Nat) (ok : Nat → Prop) (x : S91) {v2 : Value} (g2 : Kd.string.R 9 w base ok v2 x.f0.f2) {v8 : Value} (g8 : (Kd.int .u8).R 5 w base ok v8 x.f3.f1) : k91.M w base ok x [.int .i16 x.f0.f0, .string x.f0.f1, v2, .int .i32 x.f0.f3, .int .i64 x.f1.f0, .bool x.f1.f1, .int .u8 x.f2, .int .i32 x.f3.f0, v8, .int .u32 x.f4] := ⟨[.int .i16 x.f0.f0, .string x.f0.f1, v2, .int .i32 x.f0.f3], [.int .i64 x.f1.f0, .bool x.f1.f1, .int .u8 x.f2, .int .i32 x.f3.f0, v8, .int .u32 x.f4], rfl, (k87_mkM w base ok x.f0 g2), ⟨[.int .i64 x.f1.f0, .bool x.f1.f1], [.int .u8 x.f2, .int .i32 x.f3.f0, v8, .int .u32 x.f4], rfl, (k89_mkM w base ok x.f1 ), ⟨[.int .u8 x.f2], [.int .i32 x.f3.f0, v8, .int .u32 x.f4], rfl, rfl, ⟨[.int .i32 x.f3.f0, v8], [.int .u32 x.f4], rfl, (k65_mkM w base ok x.f3 g8), rfl⟩⟩⟩⟩
def rd_T91 (xs : List S91) (i : Int) : S91 := xs.getD i.toNat z91
theorem at_T91 {w : World} {A : Option Addr} {n : Nat} {xs : List S91} (h : Kd.C k91 w A n xs) (i : Int) (h0 : 0 ≤ i) (h1 : i < n) : ∃ ad A2 c2 A8 c8, A = some ad ∧ w.cell? (ad.add (i.toNat * 10)) = some (.int .i16 (rd_T91 xs i).f0.f0) ∧ w.cell? ⟨(ad.add (i.toNat * 10)).block, (ad.add (i.toNat * 10)).off + 1, none⟩ = some (.string (rd_T91 xs i).f0.f1) ∧ w.cell? ⟨(ad.add (i.toNat * 10)).block, (ad.add (i.toNat * 10)).off + 2, none⟩ = some (.slice A2 (rd_T91 xs i).f0.f2.length c2) ∧ w.cell? ⟨(ad.add (i.toNat * 10)).block, (ad.add (i.toNat * 10)).off + 3, none⟩ = some (.int .i32 (rd_T91 xs i).f0.f3) ∧ w.cell? ⟨(ad.add (i.toNat * 10)).block, (ad.add (i.toNat * 10)).off + 4, none⟩ = some (.int .i64 (rd_T91 xs i).f1.f0) ∧ w.cell? ⟨(ad.add (i.toNat * 10)).block, (ad.add (i.toNat * 10)).off + 5, none⟩ = some (.bool (rd_T91 xs i).f1.f1) ∧ w.cell? ⟨(ad.add (i.toNat * 10)).block, (ad.add (i.toNat * 10)).off + 6, none⟩ = some (.int .u8 (rd_T91 xs i).f2) ∧ w.cell? ⟨(ad.add (i.toNat * 10)).block, (ad.add (i.toNat * 10)).off + 7, none⟩ = some (.int .i32 (rd_T91 xs i).f3.f0) ∧ w.cell? ⟨(ad.add (i.toNat * 10)).block, (ad.add (i.toNat * 10)).off + 8, none⟩ = some (.slice A8 (rd_T91 xs i).f3.f1.length c8) ∧ w.cell? ⟨(ad.add (i.toNat * 10)).block, (ad.add (i.toNat * 10)).off + 9, none⟩ = some (.int .u32 (rd_T91 xs i).f4) ∧ (rd_T91 xs i).f0.f2.length ≤ c2 ∧ Kd.string.C w A2 (rd_T91 xs i).f0.f2.length (rd_T91 xs i).f0.f2 ∧ (rd_T91 xs i).f3.f1.length ≤ c8 ∧ (Kd.int .u8).C w A8 (rd_T91 xs i).f3.f1.length (rd_T91 xs i).f3.f1 := by
  obtain ⟨ad, c, e, _, hK, hc0⟩ := Kd.C_get h z91 i h0 h1
  have hc : ∀ j u, c[j]? = some u → w.cell? (ad.add (i.toNat * 10 + j)) = some u := hc0
  obtain ⟨A2, c2, A8, c8, rfl, l2, g2, l8, g8⟩ := k91_open hK
  exact ⟨ad, A2, c2, A8, c8, e, hc 0 _ rfl, by rw [← add_field _ _ 1 (by omega)]; exact hc 1 _ rfl, by rw [← add_field _ _ 2 (by omega)]; exact hc 2 _ rfl, by rw [← add_field _ _ 3 (by omega)]; exact hc 3 _ rfl, by rw [← add_field _ _ 4 (by omega)]; exact hc 4 _ rfl, by rw [← add_field _ _ 5 (by omega)]; exact hc 5 _ rfl, by rw [← add_field _ _ 6 (by omega)]; exact hc 6 _ rfl, by rw [← add_field _ _ 7 (by omega)]; exact hc 7 _ rfl, by rw [← add_field _ _ 8 (by omega)]; exact hc 8 _ rfl, by rw [← add_field _ _ 9 (by omega)]; exact hc 9 _ rfl, l2, g2, l8, g8⟩

/-! #### struct type 106 -/
structure S106 where
  f0 : ByteArray
  f1 : (List ByteArray)
  f2 : Int
  f3 : Int
  f4 : Int
  f5 : Int
  f6 : Int
  f7 : (List Int)
def z106 : S106 := ⟨(⟨#[]⟩ : ByteArray), ([] : List ByteArray), (0 : Int), (0 : Int), (0 : Int), (0 : Int), (0 : Int), ([] : List Int)⟩
def k106 : Kd S106 := Kd.iso (Kd.pair Kd.string (Kd.pair (Kd.slice 9 Kd.string) (Kd.pair (Kd.int .i32) (Kd.pair (Kd.int .i64) (Kd.pair (Kd.int .u8) (Kd.pair (Kd.int .u32) (Kd.pair (Kd.int .i32) (Kd.slice 5 (Kd.int .u8))))))))) (fun x : S106 => (x.f0, x.f1, x.f2, x.f3, x.f4, x.f5, x.f6, x.f7))
theorem k106_open {w : World} {x : S106} {cs : List Value} (h : k106.K w x cs) : ∃ A1 c1 A7 c7, cs = [.string x.f0, .slice A1 x.f1.length c1, .int .i32 x.f2, .int .i64 x.f3, .int .u8 x.f4, .int .u32 x.f5, .int .i32 x.f6, .slice A7 x.f7.length c7] ∧ x.f1.length ≤ c1 ∧ Kd.string.C w A1 x.f1.length x.f1 ∧ x.f7.length ≤ c7 ∧ (Kd.int .u8).C w A7 x.f7.length x.f7 := by
  obtain ⟨_, _, rfl, rfl, ⟨_, _, rfl, ⟨A1, c1, rfl, l1, g1⟩, ⟨_, _, rfl, rfl, ⟨_, _, rfl, rfl, ⟨_, _, rfl, rfl, ⟨_, _, rfl, rfl, ⟨_, _, rfl, rfl, ⟨A7, c7, rfl, l7, g7⟩⟩⟩⟩⟩⟩⟩⟩ := h
  exact ⟨A1, c1, A7, c7, rfl, l1, g1, l7, g7⟩
theorem k106_openM {w : World} {base : Nat} {ok : Nat → Prop} {x : S106} {cs : List Value} (h : k106.M w base ok x cs) : ∃ v1 v7, cs = [.string x.f0, v1, .int .i32 x.f2, .int .i64 x.f3, .int .u8 x.f4, .int .u32 x.f5, .int .i32 x.f6, v7] ∧ Kd.string.R 9 w base ok v1 x.f1 ∧ (Kd.int .u8).R 5 w base ok v7 x.f7 := by
  obtain ⟨_, _, rfl, rfl, ⟨_, _, rfl, ⟨v1, rfl, g1⟩, ⟨_, _, rfl, rfl, ⟨_, _, rfl, rfl, ⟨_, _, rfl, rfl, ⟨_, _, rfl, rfl, ⟨_, _, rfl, rfl, ⟨v7, rfl, g7⟩⟩⟩⟩⟩⟩⟩⟩ := h
  exact ⟨v1, v7, rfl, g1, g7⟩
theorem k106_mk (w : World) (x : S106) {A1 : Option Addr} {c1 : Nat} (l1 : x.f1.length ≤ c1) (g1 : Kd.string.C w A1 x.f1.length x.f1) {A7 : Option Addr} {c7 : Nat} (l7 : x.f7.length ≤ c7) (g7 : (Kd.int .u8).C w A7 x.f7.length x.f7) : k106.K w x [.string x.f0, .slice A1 x.f1.length c1, .int .i32 x.f2, .int .i64 x.f3, .int .u8 x.f4, .int .u32 x.f5, .int .i32 x.f6, .slice A7 x.f7.length c7] := ⟨[.string x.f0], [.slice A1 x.f1.length c1, .int .i32 x.f2, .int .i64 x.f3, .int .u8 x.f4, .int .u32 x.f5, .int .i32 x.f6, .slice A7 x.f7.length c7], rfl, rfl, ⟨[.slice A1 x.f1.length c1], [.int .i32 x.f2, .int .i64 x.f3, .int .u8 x.f4, .int .u32 x.f5, .int .i32 x.f6, .slice A7 x.f7.length c7], rfl, ⟨A1, c1, rfl, l1, g1⟩, ⟨[.int .i32 x.f2], [.int .i64 x.f3, .int .u8 x.f4, .int .u32 x.f5, .int .i32 x.f6, .slice A7 x.f7.length c7], rfl, rfl, ⟨[.int .i64 x.f3], [.int .u8 x.f4, .int .u32 x.f5, .int .i32 x.f6, .slice A7 x.f7.length c7], rfl, rfl, ⟨[.int .u8 x.f4], [.int .u32 x.f5, .int .i32 x.f6, .slice A7 x.f7.length c7], rfl, rfl, ⟨[.int .u32 x.f5], [.int .i32 x.f6, .slice A7 x.f7.length c7], rfl, rfl, ⟨[.int .i32 x.f6], [.slice A7 x.f7.length c7], rfl, rfl, ⟨A7, c7, rfl, l7, g7⟩⟩⟩⟩⟩⟩⟩⟩
theorem k106_mkM (w : World) (base : Nat) (ok : Nat → Prop) (x : S106) {v1 : Value} (g1 : Kd.string.R 9 w base ok v1 x.f1) {v7 : Value} (g7 : (Kd.int .u8).R 5 w base ok v7 x.f7) : k106.M w base ok x [.string x.f0, v1, .int .i32 x.f2, .int .i64 x.f3, .int .u8 x.f4, .int .u32 x.f5, .int .i32 x.f6, v7] := ⟨[.string x.f0], [v1, .int .i32 x.f2, .int .i64 x.f3, .int .u8 x.f4, .int .u32 x.f5, .int .i32 x.f6, v7], rfl, rfl, ⟨[v1], [.int .i32 x.f2, .int .i64 x.f3, .int .u8 x.f4, .int .u32 x.f5, .int .i32 x.f6, v7], rfl, ⟨v1, rfl, g1⟩, ⟨[.int .i32 x.f2], [.int .i64 x.f3, .int .u8 x.f4, .int .u32 x.f5, .int .i32 x.f6, v7], rfl, rfl, ⟨[.int .i64 x.f3], [.int .u8 x.f4, .int .u32 x.f5, .int .i32 x.f6, v7], rfl, rfl, ⟨[.int .u8 x.f4], [.int .u32 x.f5, .int .i32 x.f6, v7], rfl, rfl, ⟨[.int .u32 x.f5], [.int .i32 x.f6, v7], rfl, rfl, ⟨[.int .i32 x.f6], [v7], rfl, rfl, ⟨v7, rfl, g7⟩⟩⟩⟩⟩⟩⟩⟩
def rd_T106 (xs : List S106) (i : Int) : S106 := xs.getD i.toNat z106
theorem at_T106 {w : World} {A : Option Addr} {n : Nat} {xs : List S106} (h : Kd.C k106 w A n xs) (i : Int) (h0 : 0 ≤ i) (h1 : i < n) : ∃ ad A1 c1 A7 c7, A = some ad ∧ w.cell? (ad.add (i.toNat * 8)) = some (.string (rd_T106 xs i).f0) ∧ w.cell? ⟨(ad.add (i.toNat * 8)).block, (ad.add (i.toNat * 8)).off + 1, none⟩ = some (.slice A1 (rd_T106 xs i).f1.length c1) ∧ w.cell? ⟨(ad.add (i.toNat * 8)).block, (ad.add (i.toNat * 8)).off + 2, none⟩ = some (.int .i32 (rd_T106 xs i).f2) ∧ w.cell? ⟨(ad.add (i.toNat * 8)).block, (ad.add (i.toNat * 8)).off + 3, none⟩ = some (.int .i64 (rd_T106 xs i).f3) ∧ w.cell? ⟨(ad.add (i.toNat * 8)).block, (ad.add (i.toNat * 8)).off + 4, none⟩ = some (.int .u8 (rd_T106 xs i).f4) ∧ w.cell? ⟨(ad.add (i.toNat * 8)).block, (ad.add (i.toNat * 8)).off + 5, none⟩ = some (.int .u32 (rd_T106 xs i).f5) ∧ w.cell? ⟨(ad.add (i.toNat * 8)).block, (ad.add (i.toNat * 8)).off + 6, none⟩ = some (.int .i32 (rd_T106 xs i).f6) ∧ w.cell? ⟨(ad.add (i.toNat * 8)).block, (ad.add (i.toNat * 8)).off + 7, none⟩ = some (.slice A7 (rd_T106 xs i).f7.length c7) ∧ (rd_T106 xs i).f1.length ≤ c1 ∧ Kd.string.C w A1 (rd_T106 xs i).f1.length (rd_T106 xs i).f1 ∧ (rd_T106 xs i).f7.length ≤ c7 ∧ (Kd.int .u8).C w A7 (rd_T106 xs i).f7.length (rd_T106 xs i).f7 := by
  obtain ⟨ad, c, e, _, hK, hc0⟩ := Kd.C_get h z106 i h0 h1
  have hc : ∀ j u, c[j]? = some u → w.cell? (ad.add (i.toNat * 8 + j)) = some u := hc0
  obtain ⟨A1, c1, A7, c7, rfl, l1, g1, l7, g7⟩ := k106_open hK
  exact ⟨ad, A1, c1, A7, c7, e, hc 0 _ rfl, by rw [← add_field _ _ 1 (by omega)]; exact hc 1 _ rfl, by rw [← add_field _ _ 2 (by omega)]; exact hc 2 _ rfl, by rw [← add_field _ _ 3 (by omega)]; exact hc 3 _ rfl, by rw [← add_field _ _ 4 (by omega)]; exact hc 4 _ rfl, by rw [← add_field _ _ 5 (by omega)]; exact hc 5 _ rfl, by rw [← add_field _ _ 6 (by omega)]; exact hc 6 _ rfl, by rw [← add_field _ _ 7 (by omega)]; exact hc 7 _ rfl, l1, g1, l7, g7⟩

/-! #### struct type 49 -/
structure S49 where
  f0 : ByteArray
  f1 : (List ByteArray)
  f2 : Int
  f3 : Int
  f4 : Int
  f5 : Int
  f6 : Int
  f7 : ByteArray
def z49 : S49 := ⟨(⟨#[]⟩ : ByteArray), ([] : List ByteArray), (0 : Int), (0 : Int), (0 : Int), (0 : Int), (0 : Int), (⟨#[]⟩ : ByteArray)⟩
def k49 : Kd S49 := Kd.iso (Kd.pair Kd.string (Kd.pair (Kd.slice 9 Kd.string) (Kd.pair (Kd.int .i32) (Kd.pair (Kd.int .i64) (Kd.pair (Kd.int .u8) (Kd.pair (Kd.int .u32) (Kd.pair (Kd.int .i32) Kd.string))))))) (fun x : S49 => (x.f0, x.f1, x.f2, x.f3, x.f4, x.f5, x.f6, x.f7))
theorem k49_open {w : World} {x : S49} {cs : List Value} (h : k49.K w x cs) : ∃ A1 c1, cs = [.string x.f0, .slice A1 x.f1.length c1, .int .i32 x.f2, .int .i64 x.f3, .int .u8 x.f4, .int .u32 x.f5, .int .i32 x.f6, .string x.f7] ∧ x.f1.length ≤ c1 ∧ Kd.string.C w A1 x.f1.length x.f1 := by
  obtain ⟨_, _, rfl, rfl, ⟨_, _, rfl, ⟨A1, c1, rfl, l1, g1⟩, ⟨_, _, rfl, rfl, ⟨_, _, rfl, rfl, ⟨_, _, rfl, rfl, ⟨_, _, rfl, rfl, ⟨_, _, rfl, rfl, rfl⟩⟩⟩⟩⟩⟩⟩ := h
  exact ⟨A1, c1, rfl, l1, g1⟩
theorem k49_openM {w : World} {base : Nat} {ok : Nat → Prop} {x : S49} {cs : List Value} (h : k49.M w base ok x cs) : ∃ v1, cs = [.string x.f0, v1, .int .i32 x.f2, .int .i64 x.f3, .int .u8 x.f4, .int .u32 x.f5, .int .i32 x.f6, .string x.f7] ∧ Kd.string.R 9 w base ok v1 x.f1 := by
  obtain ⟨_, _, rfl, rfl, ⟨_, _, rfl, ⟨v1, rfl, g1⟩, ⟨_, _, rfl, rfl, ⟨_, _, rfl, rfl, ⟨_, _, rfl, rfl, ⟨_, _, rfl, rfl, ⟨_, _, rfl, rfl, rfl⟩⟩⟩⟩⟩⟩⟩ := h
  exact ⟨v1, rfl, g1⟩
theorem k49_mk (w : World) (x : S49) {A1 : Option Addr} {c1 : Nat} (l1 : x.f1.length ≤ c1) (g1 : Kd.string.C w A1 x.f1.length x.f1) : k49.K w x [.string x.f0, .slice A1 x.f1.length c1, .int .i32 x.f2, .int .i64 x.f3, .int .u8 x.f4, .int .u32 x.f5, .int .i32 x.f6, .string x.f7] := ⟨[.string x.f0], [.slice A1 x.f1.length c1, .int .i32 x.f2, .int .i64 x.f3, .int .u8 x.f4, .int .u32 x.f5, .int .i32 x.f6, .string x.f7], rfl, rfl, ⟨[.slice A1 x.f1.length c1], [.int .i32 x.f2, .int .i64 x.f3, .int .u8 x.f4, .int .u32 x.f5, .int .i32 x.f6, .string x.f7], rfl, ⟨A1, c1, rfl, l1, g1⟩, ⟨[.int .i32 x.f2], [.int .i64 x.f3, .int .u8 x.f4, .int .u32 x.f5, .int .i32 x.f6, .string x.f7], rfl, rfl, ⟨[.int .i64 x.f3], [.int .u8 x.f4, .int .u32 x.f5, .int .i32 x.f6, .string x.f7], rfl, rfl, ⟨[.int .u8 x.f4], [.int .u32 x.f5, .int .i32 x.f6, .string x.f7], rfl, rfl, ⟨[.int .u32 x.f5], [.int .i32 x.f6, .string x.f7], rfl, rfl, ⟨[.int .i32 x.f6], [.string x.f7], rfl, rfl, rfl⟩⟩⟩⟩⟩⟩⟩
theorem k49_mkM (w : World) (base : Nat) (ok : Nat → Prop) (x : S49) {v1 : Value} (g1 : Kd.string.R 9 w base ok v1 x.f1) : k49.M w base ok x [.string x.f0, v1, .int .i32 x.f2, .int .i64 x.f3, .int .u8 x.f4, .int .u32 x.f5, .int .i32 x.f6, .string x.f7] := ⟨[.string x.f0], [v1, .int .i32 x.f2, .int .i64 x.f3, .int .u8 x.f4, .int .u32 x.f5, .int .i32 x.f6, .string x.f7], rfl, rfl, ⟨[v1], [.int .i32 x.f2, .int .i64 x.f3, .int .u8 x.f4, .int .u32 x.f5, .int .i32 x.f6, .string x.f7], rfl, ⟨v1, rfl, g1⟩, ⟨[.int .i32 x.f2], [.int .i64 x.f3, .int .u8 x.f4, .int .u32 x.f5, .int .i32 x.f6, .string x.f7], rfl, rfl, ⟨[.int .i64 x.f3], [.int .u8 x.f4, .int .u32 x.f5, .int .i32 x.f6, .string x.f7], rfl, rfl, ⟨[.int .u8 x.f4], [.int .u32 x.f5, .int .i32 x.f6, .string x.f7], rfl, rfl, ⟨[.int .u32 x.f5], [.int .i32 x.f6, .string x.f7], rfl, rfl, ⟨[.int .i32 x.f6], [.string x.f7], rfl, rfl, rfl⟩⟩⟩⟩⟩⟩⟩
def rd_T49 (xs : List S49) (i : Int) : S49 := xs.getD i.toNat z49
theorem at_T49 {w : World} {A : Option Addr} {n : Nat} {xs : List S49} (h : Kd.C k49 w A n xs) (i : Int) (h0 : 0 ≤ i) (h1 : i < n) : ∃ ad A1 c1, A = some ad ∧ w.cell? (ad.add (i.toNat * 8)) = some (.string (rd_T49 xs i).f0) ∧ w.cell? ⟨(ad.add (i.toNat * 8)).block, (ad.add (i.toNat * 8)).off + 1, none⟩ = some (.slice A1 (rd_T49 xs i).f1.length c1) ∧ w.cell? ⟨(ad.add (i.toNat * 8)).block, (ad.add (i.toNat * 8)).off + 2, none⟩ = some (.int .i32 (rd_T49 xs i).f2) ∧ w.cell? ⟨(ad.add (i.toNat * 8)).block, (ad.add (i.toNat * 8)).off + 3, none⟩ = some (.int .i64 (rd_T49 xs i).f3) ∧ w.cell? ⟨(ad.add (i.toNat * 8)).block, (ad.add (i.toNat * 8)).off + 4, none⟩ = some (.int .u8 (rd_T49 xs i).f4) ∧ w.cell? ⟨(ad.add (i.toNat * 8)).block, (ad.add (i.toNat * 8)).off + 5, none⟩ = some (.int .u32 (rd_T49 xs i).f5) ∧ w.cell? ⟨(ad.add (i.toNat * 8)).block, (ad.add (i.toNat * 8)).off + 6, none⟩ = some (.int .i32 (rd_T49 xs i).f6) ∧ w.cell? ⟨(ad.add (i.toNat * 8)).block, (ad.add (i.toNat * 8)).off + 7, none⟩ = some (.string (rd_T49 xs i).f7) ∧ (rd_T49 xs i).f1.length ≤ c1 ∧ Kd.string.C w A1 (rd_T49 xs i).f1.length (rd_T49 xs i).f1 := by
  obtain ⟨ad, c, e, _, hK, hc0⟩ := Kd.C_get h z49 i h0 h1
  have hc : ∀ j u, c[j]? = some u → w.cell? (ad.add (i.toNat * 8 + j)) = some u := hc0
  obtain ⟨A1, c1, rfl, l1, g1⟩ := k49_open hK
  exact ⟨ad, A1, c1, e, hc 0 _ rfl, by rw [← add_field _ _ 1 (by omega)]; exact hc 1 _ rfl, by rw [← add_field _ _ 2 (by omega)]; exact hc 2 _ rfl, by rw [← add_field _ _ 3 (by omega)]; exact hc 3 _ rfl, by rw [← add_field _ _ 4 (by omega)]; exact hc 4 _ rfl, by rw [← add_field _ _ 5 (by omega)]; exact hc 5 _ rfl, by rw [← add_field _ _ 6 (by omega)]; exact hc 6 _ rfl, by rw [← add_field _ _ 7 (by omega)]; exact hc 7 _ rfl, l1, g1⟩

end Go.Proofs.Ytcbbipdiahmelaa.A

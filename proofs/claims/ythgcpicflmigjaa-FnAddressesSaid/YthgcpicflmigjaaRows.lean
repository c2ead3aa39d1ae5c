/-
  No cell of these rows narrows 'for every input' (looked for: loops, veiled, ifaces, maps, wideKeys, modest, calm, conditions, laid).
  DERIVED. THE GIVEN ROWS OF THIS SEAT. 6 by the template 'for every input the law returns true; each argument reads behind the call as it read before'; 0 by the template 'total and deterministic' (their statements: YthgcpicflmigjaaTotals.lean).
  GIVEN WITH THE SEED: the statements are not yours to turn. If you find one false, say at which input.
  Laid BY PROGRAM, IN A SANDBOX (cutbox-rows.mjs): the forced cells as the released guide's own fill.sh prints them over the translation 20b407d240807e0c… (all of the seat's roots in one cut). By AI agents, Wed Nov 11 2026. No macro, syntax, notation, axiom, sorry.
-/
import Derived.Test.YthgcpicflmigjaaChecked
import GoSem.Claim
import GoSem.ClaimJoined
import GoSem.ClaimMapViews
import Derived.JoinedTies
import Derived.KernelRfl
namespace Go.Proofs.Ythgcpicflmigjaa
/- THE CELL 'sum', in the pinned program and in every row, IS THE sha256 OF THE DUMP (.gsa) THAT YthgcpicflmigjaaProg.lean LOADS. Nothing in Lean hashes anything: it is a label: what it is worth is what the hold of that sum in a sandbox is worth. -/
noncomputable def Try.pinned : Pinned := { name := "ythgcpicflmigjaa", sum := "20b407d240807e0c868c89549abdd8b5dc1e43b7a603b485eba502e59f438657", checked := Try.checked }
namespace Rows
def none {H : Type} : Left H := { results := [], args := [] }

/-- 'laws.FnLength': WHATEVER THE INPUT: true; the input reads as it did. -/
def fnLengthSpec : ChangeSpec := { name := "fnLength", fn := fun _ => fun
  | [d1, d2, d3] => { results := [.lit (.bool true)], args := [d1, d2, d3] }
  | _ => none }
def fnLengthRow : OpenClaim := { program := "ythgcpicflmigjaa", sum := "20b407d240807e0c868c89549abdd8b5dc1e43b7a603b485eba502e59f438657", func := "pub-portress/laws.FnLength", spec := "fnLength", unfollowed := true, recurses := true, apart := false }
def FnLengthSaid : Prop := fnLengthRow.holds Try.pinned (OpenSpec.ofChange fnLengthSpec)

/-- ITS FALSE NEIGHBOUR: 'it returns false'. Refute it at one input. -/
def fnLengthWrong : ChangeSpec := { name := "fnLength", fn := fun _ => fun
  | [d1, d2, d3] => { results := [.lit (.bool false)], args := [d1, d2, d3] }
  | _ => none }
def FnLengthWrongFalsely : Prop := fnLengthRow.holds Try.pinned (OpenSpec.ofChange fnLengthWrong)

/-- 'laws.FnAddresses': WHATEVER THE INPUT: true; the input reads as it did. -/
def fnAddressesSpec : ChangeSpec := { name := "fnAddresses", fn := fun _ => fun
  | [d1, d2, d3] => { results := [.lit (.bool true)], args := [d1, d2, d3] }
  | _ => none }
def fnAddressesRow : OpenClaim := { program := "ythgcpicflmigjaa", sum := "20b407d240807e0c868c89549abdd8b5dc1e43b7a603b485eba502e59f438657", func := "pub-portress/laws.FnAddresses", spec := "fnAddresses", apart := false }
def FnAddressesSaid : Prop := fnAddressesRow.holds Try.pinned (OpenSpec.ofChange fnAddressesSpec)

/-- ITS FALSE NEIGHBOUR: 'it returns false'. Refute it at one input. -/
def fnAddressesWrong : ChangeSpec := { name := "fnAddresses", fn := fun _ => fun
  | [d1, d2, d3] => { results := [.lit (.bool false)], args := [d1, d2, d3] }
  | _ => none }
def FnAddressesWrongFalsely : Prop := fnAddressesRow.holds Try.pinned (OpenSpec.ofChange fnAddressesWrong)

/-- 'laws.FnAppTag': WHATEVER THE INPUT: true; the input reads as it did. -/
def fnAppTagSpec : ChangeSpec := { name := "fnAppTag", fn := fun _ => fun
  | [d1, d2] => { results := [.lit (.bool true)], args := [d1, d2] }
  | _ => none }
def fnAppTagRow : OpenClaim := { program := "ythgcpicflmigjaa", sum := "20b407d240807e0c868c89549abdd8b5dc1e43b7a603b485eba502e59f438657", func := "pub-portress/laws.FnAppTag", spec := "fnAppTag", unfollowed := true, recurses := true, apart := false }
def FnAppTagSaid : Prop := fnAppTagRow.holds Try.pinned (OpenSpec.ofChange fnAppTagSpec)

/-- ITS FALSE NEIGHBOUR: 'it returns false'. Refute it at one input. -/
def fnAppTagWrong : ChangeSpec := { name := "fnAppTag", fn := fun _ => fun
  | [d1, d2] => { results := [.lit (.bool false)], args := [d1, d2] }
  | _ => none }
def FnAppTagWrongFalsely : Prop := fnAppTagRow.holds Try.pinned (OpenSpec.ofChange fnAppTagWrong)

/-- 'laws.FnFlags': WHATEVER THE INPUT: true; the input reads as it did. -/
def fnFlagsSpec : ChangeSpec := { name := "fnFlags", fn := fun _ => fun
  | [d1, d2, d3, d4] => { results := [.lit (.bool true)], args := [d1, d2, d3, d4] }
  | _ => none }
def fnFlagsRow : OpenClaim := { program := "ythgcpicflmigjaa", sum := "20b407d240807e0c868c89549abdd8b5dc1e43b7a603b485eba502e59f438657", func := "pub-portress/laws.FnFlags", spec := "fnFlags", apart := false }
def FnFlagsSaid : Prop := fnFlagsRow.holds Try.pinned (OpenSpec.ofChange fnFlagsSpec)

/-- ITS FALSE NEIGHBOUR: 'it returns false'. Refute it at one input. -/
def fnFlagsWrong : ChangeSpec := { name := "fnFlags", fn := fun _ => fun
  | [d1, d2, d3, d4] => { results := [.lit (.bool false)], args := [d1, d2, d3, d4] }
  | _ => none }
def FnFlagsWrongFalsely : Prop := fnFlagsRow.holds Try.pinned (OpenSpec.ofChange fnFlagsWrong)

/-- 'laws.FnPrincipalEqual': WHATEVER THE INPUT: true; the input reads as it did. -/
def fnPrincipalEqualSpec : ChangeSpec := { name := "fnPrincipalEqual", fn := fun _ => fun
  | [d1, d2, d3] => { results := [.lit (.bool true)], args := [d1, d2, d3] }
  | _ => none }
def fnPrincipalEqualRow : OpenClaim := { program := "ythgcpicflmigjaa", sum := "20b407d240807e0c868c89549abdd8b5dc1e43b7a603b485eba502e59f438657", func := "pub-portress/laws.FnPrincipalEqual", spec := "fnPrincipalEqual", apart := false }
def FnPrincipalEqualSaid : Prop := fnPrincipalEqualRow.holds Try.pinned (OpenSpec.ofChange fnPrincipalEqualSpec)

/-- ITS FALSE NEIGHBOUR: 'it returns false'. Refute it at one input. -/
def fnPrincipalEqualWrong : ChangeSpec := { name := "fnPrincipalEqual", fn := fun _ => fun
  | [d1, d2, d3] => { results := [.lit (.bool false)], args := [d1, d2, d3] }
  | _ => none }
def FnPrincipalEqualWrongFalsely : Prop := fnPrincipalEqualRow.holds Try.pinned (OpenSpec.ofChange fnPrincipalEqualWrong)

/-- 'laws.FnPrincipal': WHATEVER THE INPUT: true; the input reads as it did. -/
def fnPrincipalSpec : ChangeSpec := { name := "fnPrincipal", fn := fun _ => fun
  | [d1, d2, d3, d4] => { results := [.lit (.bool true)], args := [d1, d2, d3, d4] }
  | _ => none }
def fnPrincipalRow : OpenClaim := { program := "ythgcpicflmigjaa", sum := "20b407d240807e0c868c89549abdd8b5dc1e43b7a603b485eba502e59f438657", func := "pub-portress/laws.FnPrincipal", spec := "fnPrincipal", inPlace := ["internal/abi.NoEscape", "internal/bytealg.MakeNoZero"], apart := false }
def FnPrincipalSaid : Prop := fnPrincipalRow.holds Try.pinned (OpenSpec.ofChange fnPrincipalSpec)

/-- ITS FALSE NEIGHBOUR: 'it returns false'. Refute it at one input. -/
def fnPrincipalWrong : ChangeSpec := { name := "fnPrincipal", fn := fun _ => fun
  | [d1, d2, d3, d4] => { results := [.lit (.bool false)], args := [d1, d2, d3, d4] }
  | _ => none }
def FnPrincipalWrongFalsely : Prop := fnPrincipalRow.holds Try.pinned (OpenSpec.ofChange fnPrincipalWrong)

/- THE SECOND FORM. 'bulk': how many values and letters a reading holds, each counted each time it is reached (what is shared counts as often as it is met; a slice's spare places count too). A statement '..UptoSaid' is the law's where the arguments, and the package variables that the reading takes, are together of bulk at most 1048576: NARROWER than '..Said'. Prove '..Said' where nothing that the law and all that it calls make is longer than what came in: it says more and counts as full. Else prove '..UptoSaid'. A law counts once. -/
mutual
def uptoBulk {H : Type} : DataW H → Nat
  | .lit (.string bytes) => bytes.length + 1
  | .lit _ => 1
  | .nil => 1
  | .ptr d => uptoBulk d + 1
  | .slice elems spare => uptoBulkAll elems + uptoBulkAll spare + 1
  | .agg parts => uptoBulkAll parts + 1
  | .iface _ d => uptoBulk d + 1
  | .map entries => uptoBulkEntries entries + 1
  | .held _ => 1
def uptoBulkAll {H : Type} : List (DataW H) → Nat
  | [] => 0
  | d :: r => uptoBulk d + uptoBulkAll r
def uptoBulkEntries {H : Type} : List (Lit × DataW H) → Nat
  | [] => 0
  | x :: r => uptoBulkEntry x + uptoBulkEntries r
def uptoBulkEntry {H : Type} : Lit × DataW H → Nat
  | (.string bytes, d) => bytes.length + uptoBulk d + 1
  | (_, d) => uptoBulk d + 1
 end
def uptoSmall : (H : Type) → List (DataW H) → Bool := fun _ ds => decide (uptoBulkAll ds ≤ 1048576)
def OpenSpec.upto (s : _root_.Go.ChangeSpec) : _root_.Go.OpenSpec := { _root_.Go.OpenSpec.ofChange s with cond := some uptoSmall }

/-- 'laws.FnLength', WHERE WHAT IT READS IS OF BULK AT MOST 1048576: true; the input reads as it did. -/
def fnLengthUptoRow : OpenClaim := { program := "ythgcpicflmigjaa", sum := "20b407d240807e0c868c89549abdd8b5dc1e43b7a603b485eba502e59f438657", func := "pub-portress/laws.FnLength", spec := "fnLength", unfollowed := true, recurses := true, apart := false, narrowed := true }
def FnLengthUptoSaid : Prop := fnLengthUptoRow.holds Try.pinned (OpenSpec.upto fnLengthSpec)

/-- 'laws.FnAddresses', WHERE WHAT IT READS IS OF BULK AT MOST 1048576: true; the input reads as it did. -/
def fnAddressesUptoRow : OpenClaim := { program := "ythgcpicflmigjaa", sum := "20b407d240807e0c868c89549abdd8b5dc1e43b7a603b485eba502e59f438657", func := "pub-portress/laws.FnAddresses", spec := "fnAddresses", apart := false, narrowed := true }
def FnAddressesUptoSaid : Prop := fnAddressesUptoRow.holds Try.pinned (OpenSpec.upto fnAddressesSpec)

/-- 'laws.FnAppTag', WHERE WHAT IT READS IS OF BULK AT MOST 1048576: true; the input reads as it did. -/
def fnAppTagUptoRow : OpenClaim := { program := "ythgcpicflmigjaa", sum := "20b407d240807e0c868c89549abdd8b5dc1e43b7a603b485eba502e59f438657", func := "pub-portress/laws.FnAppTag", spec := "fnAppTag", unfollowed := true, recurses := true, apart := false, narrowed := true }
def FnAppTagUptoSaid : Prop := fnAppTagUptoRow.holds Try.pinned (OpenSpec.upto fnAppTagSpec)

/-- 'laws.FnFlags', WHERE WHAT IT READS IS OF BULK AT MOST 1048576: true; the input reads as it did. -/
def fnFlagsUptoRow : OpenClaim := { program := "ythgcpicflmigjaa", sum := "20b407d240807e0c868c89549abdd8b5dc1e43b7a603b485eba502e59f438657", func := "pub-portress/laws.FnFlags", spec := "fnFlags", apart := false, narrowed := true }
def FnFlagsUptoSaid : Prop := fnFlagsUptoRow.holds Try.pinned (OpenSpec.upto fnFlagsSpec)

/-- 'laws.FnPrincipalEqual', WHERE WHAT IT READS IS OF BULK AT MOST 1048576: true; the input reads as it did. -/
def fnPrincipalEqualUptoRow : OpenClaim := { program := "ythgcpicflmigjaa", sum := "20b407d240807e0c868c89549abdd8b5dc1e43b7a603b485eba502e59f438657", func := "pub-portress/laws.FnPrincipalEqual", spec := "fnPrincipalEqual", apart := false, narrowed := true }
def FnPrincipalEqualUptoSaid : Prop := fnPrincipalEqualUptoRow.holds Try.pinned (OpenSpec.upto fnPrincipalEqualSpec)

/-- 'laws.FnPrincipal', WHERE WHAT IT READS IS OF BULK AT MOST 1048576: true; the input reads as it did. -/
def fnPrincipalUptoRow : OpenClaim := { program := "ythgcpicflmigjaa", sum := "20b407d240807e0c868c89549abdd8b5dc1e43b7a603b485eba502e59f438657", func := "pub-portress/laws.FnPrincipal", spec := "fnPrincipal", inPlace := ["internal/abi.NoEscape", "internal/bytealg.MakeNoZero"], apart := false, narrowed := true }
def FnPrincipalUptoSaid : Prop := fnPrincipalUptoRow.holds Try.pinned (OpenSpec.upto fnPrincipalSpec)

end Rows
end Go.Proofs.Ythgcpicflmigjaa

/-
  No cell of these rows narrows 'for every input' (looked for: loops, veiled, ifaces, maps, wideKeys, modest, calm, conditions, laid).
  DERIVED. THE GIVEN ROWS OF THIS SEAT. 5 by the template 'for every input the law returns true; each argument reads behind the call as it read before'; 0 by the template 'total and deterministic' (their statements: YtcbbipdiahmelaaTotals.lean).
  GIVEN WITH THE SEED: the statements are not yours to turn. If you find one false, say at which input.
  Laid BY PROGRAM, IN A SANDBOX (cutbox-rows.mjs): the forced cells as the released guide's own fill.sh prints them over the translation da0279519450d96c… (all of the seat's roots in one cut). By AI agents, Wed Nov 11 2026. No macro, syntax, notation, axiom, sorry.
-/
import Derived.Test.YtcbbipdiahmelaaChecked
import GoSem.Claim
import GoSem.ClaimJoined
import GoSem.ClaimMapViews
import Derived.JoinedTies
import Derived.KernelRfl
namespace Go.Proofs.Ytcbbipdiahmelaa
/- THE CELL 'sum', in the pinned program and in every row, IS THE sha256 OF THE DUMP (.gsa) THAT YtcbbipdiahmelaaProg.lean LOADS. Nothing in Lean hashes anything: it is a label: what it is worth is what the hold of that sum in a sandbox is worth. -/
noncomputable def Try.pinned : Pinned := { name := "ytcbbipdiahmelaa", sum := "da0279519450d96cac5a847a03e4ea488a52dadffc408b3b0c4760c3eaac0893", checked := Try.checked }
namespace Rows
def none {H : Type} : Left H := { results := [], args := [] }

/-- 'laws.FnKtCut': WHATEVER THE INPUT: true; the input reads as it did. -/
def fnKtCutSpec : ChangeSpec := { name := "fnKtCut", fn := fun _ => fun
  | [d1, d2, d3, d4] => { results := [.lit (.bool true)], args := [d1, d2, d3, d4] }
  | _ => none }
def fnKtCutRow : OpenClaim := { program := "ytcbbipdiahmelaa", sum := "da0279519450d96cac5a847a03e4ea488a52dadffc408b3b0c4760c3eaac0893", func := "pub-portress/laws.FnKtCut", spec := "fnKtCut", unfollowed := true, recurses := true, named := ["encoding/binary.BigEndian", "encoding/binary.LittleEndian"], apart := false }
def FnKtCutSaid : Prop := fnKtCutRow.holds Try.pinned (OpenSpec.ofChange fnKtCutSpec)

/-- ITS FALSE NEIGHBOUR: 'it returns false'. Refute it at one input. -/
def fnKtCutWrong : ChangeSpec := { name := "fnKtCut", fn := fun _ => fun
  | [d1, d2, d3, d4] => { results := [.lit (.bool false)], args := [d1, d2, d3, d4] }
  | _ => none }
def FnKtCutWrongFalsely : Prop := fnKtCutRow.holds Try.pinned (OpenSpec.ofChange fnKtCutWrong)

/-- 'laws.FnKtRead': WHATEVER THE INPUT: true; the input reads as it did. -/
def fnKtReadSpec : ChangeSpec := { name := "fnKtRead", fn := fun _ => fun
  | [d1, d2, d3] => { results := [.lit (.bool true)], args := [d1, d2, d3] }
  | _ => none }
def fnKtReadRow : OpenClaim := { program := "ytcbbipdiahmelaa", sum := "da0279519450d96cac5a847a03e4ea488a52dadffc408b3b0c4760c3eaac0893", func := "pub-portress/laws.FnKtRead", spec := "fnKtRead", unfollowed := true, recurses := true, named := ["encoding/binary.BigEndian", "encoding/binary.LittleEndian"], apart := false }
def FnKtReadSaid : Prop := fnKtReadRow.holds Try.pinned (OpenSpec.ofChange fnKtReadSpec)

/-- ITS FALSE NEIGHBOUR: 'it returns false'. Refute it at one input. -/
def fnKtReadWrong : ChangeSpec := { name := "fnKtRead", fn := fun _ => fun
  | [d1, d2, d3] => { results := [.lit (.bool false)], args := [d1, d2, d3] }
  | _ => none }
def FnKtReadWrongFalsely : Prop := fnKtReadRow.holds Try.pinned (OpenSpec.ofChange fnKtReadWrong)

/-- 'laws.FnKtJoined': WHATEVER THE INPUT: true; the input reads as it did. -/
def fnKtJoinedSpec : ChangeSpec := { name := "fnKtJoined", fn := fun _ => fun
  | [d1, d2] => { results := [.lit (.bool true)], args := [d1, d2] }
  | _ => none }
def fnKtJoinedRow : OpenClaim := { program := "ytcbbipdiahmelaa", sum := "da0279519450d96cac5a847a03e4ea488a52dadffc408b3b0c4760c3eaac0893", func := "pub-portress/laws.FnKtJoined", spec := "fnKtJoined", unfollowed := true, recurses := true, named := ["encoding/binary.BigEndian", "encoding/binary.LittleEndian"], apart := false }
def FnKtJoinedSaid : Prop := fnKtJoinedRow.holds Try.pinned (OpenSpec.ofChange fnKtJoinedSpec)

/-- ITS FALSE NEIGHBOUR: 'it returns false'. Refute it at one input. -/
def fnKtJoinedWrong : ChangeSpec := { name := "fnKtJoined", fn := fun _ => fun
  | [d1, d2] => { results := [.lit (.bool false)], args := [d1, d2] }
  | _ => none }
def FnKtJoinedWrongFalsely : Prop := fnKtJoinedRow.holds Try.pinned (OpenSpec.ofChange fnKtJoinedWrong)

/-- 'laws.FnKtFind': WHATEVER THE INPUT: true; the input reads as it did. -/
def fnKtFindSpec : ChangeSpec := { name := "fnKtFind", fn := fun _ => fun
  | [d1, d2, d3, d4, d5] => { results := [.lit (.bool true)], args := [d1, d2, d3, d4, d5] }
  | _ => none }
def fnKtFindRow : OpenClaim := { program := "ytcbbipdiahmelaa", sum := "da0279519450d96cac5a847a03e4ea488a52dadffc408b3b0c4760c3eaac0893", func := "pub-portress/laws.FnKtFind", spec := "fnKtFind", unfollowed := true, recurses := true, named := ["encoding/binary.BigEndian", "encoding/binary.LittleEndian"], apart := false }
def FnKtFindSaid : Prop := fnKtFindRow.holds Try.pinned (OpenSpec.ofChange fnKtFindSpec)

/-- ITS FALSE NEIGHBOUR: 'it returns false'. Refute it at one input. -/
def fnKtFindWrong : ChangeSpec := { name := "fnKtFind", fn := fun _ => fun
  | [d1, d2, d3, d4, d5] => { results := [.lit (.bool false)], args := [d1, d2, d3, d4, d5] }
  | _ => none }
def FnKtFindWrongFalsely : Prop := fnKtFindRow.holds Try.pinned (OpenSpec.ofChange fnKtFindWrong)

/-- 'laws.FnKtAgain': WHATEVER THE INPUT: true; the input reads as it did. -/
def fnKtAgainSpec : ChangeSpec := { name := "fnKtAgain", fn := fun _ => fun
  | [d1, d2, d3] => { results := [.lit (.bool true)], args := [d1, d2, d3] }
  | _ => none }
def fnKtAgainRow : OpenClaim := { program := "ytcbbipdiahmelaa", sum := "da0279519450d96cac5a847a03e4ea488a52dadffc408b3b0c4760c3eaac0893", func := "pub-portress/laws.FnKtAgain", spec := "fnKtAgain", unfollowed := true, recurses := true, named := ["encoding/binary.BigEndian", "encoding/binary.LittleEndian"], apart := false }
def FnKtAgainSaid : Prop := fnKtAgainRow.holds Try.pinned (OpenSpec.ofChange fnKtAgainSpec)

/-- ITS FALSE NEIGHBOUR: 'it returns false'. Refute it at one input. -/
def fnKtAgainWrong : ChangeSpec := { name := "fnKtAgain", fn := fun _ => fun
  | [d1, d2, d3] => { results := [.lit (.bool false)], args := [d1, d2, d3] }
  | _ => none }
def FnKtAgainWrongFalsely : Prop := fnKtAgainRow.holds Try.pinned (OpenSpec.ofChange fnKtAgainWrong)

/- THE SECOND FORM. 'bulk': how many values and letters a reading holds, each counted each time it is reached (what is shared counts as often as it is met; a slice's spare places count too). A statement '..UptoSaid' is the law's where the arguments, and the package variables that the reading takes, are together of bulk at most 1048576: NARROWER than '..Said'. Prove '..Said' where nothing that the law and all that it calls make is longer than what came in: it says more and counts as full. Else prove '..UptoSaid'. A law counts once. -/
mutual
def uptoBulk {H : Type} : DataW H → Nat
  | .lit (.string bytes) => bytes.length + 1
  | .lit _ => 1
  | .nil => 1
  | .ptr d => uptoBulk d + 1
  | .slice elems spare => uptoBulkAll elems + uptoBulkAll spare + 1
  | .agg parts => uptoBulkAll parts + 1
  | .iface _ d => uptoBulk d + 1
  | .map entries => uptoBulkEntries entries + 1
  | .held _ => 1
def uptoBulkAll {H : Type} : List (DataW H) → Nat
  | [] => 0
  | d :: r => uptoBulk d + uptoBulkAll r
def uptoBulkEntries {H : Type} : List (Lit × DataW H) → Nat
  | [] => 0
  | x :: r => uptoBulkEntry x + uptoBulkEntries r
def uptoBulkEntry {H : Type} : Lit × DataW H → Nat
  | (.string bytes, d) => bytes.length + uptoBulk d + 1
  | (_, d) => uptoBulk d + 1
 end
def uptoSmall : (H : Type) → List (DataW H) → Bool := fun _ ds => decide (uptoBulkAll ds ≤ 1048576)
def OpenSpec.upto (s : _root_.Go.ChangeSpec) : _root_.Go.OpenSpec := { _root_.Go.OpenSpec.ofChange s with cond := some uptoSmall }

/-- 'laws.FnKtCut', WHERE WHAT IT READS IS OF BULK AT MOST 1048576: true; the input reads as it did. -/
def fnKtCutUptoRow : OpenClaim := { program := "ytcbbipdiahmelaa", sum := "da0279519450d96cac5a847a03e4ea488a52dadffc408b3b0c4760c3eaac0893", func := "pub-portress/laws.FnKtCut", spec := "fnKtCut", unfollowed := true, recurses := true, named := ["encoding/binary.BigEndian", "encoding/binary.LittleEndian"], apart := false, narrowed := true }
def FnKtCutUptoSaid : Prop := fnKtCutUptoRow.holds Try.pinned (OpenSpec.upto fnKtCutSpec)

/-- 'laws.FnKtRead', WHERE WHAT IT READS IS OF BULK AT MOST 1048576: true; the input reads as it did. -/
def fnKtReadUptoRow : OpenClaim := { program := "ytcbbipdiahmelaa", sum := "da0279519450d96cac5a847a03e4ea488a52dadffc408b3b0c4760c3eaac0893", func := "pub-portress/laws.FnKtRead", spec := "fnKtRead", unfollowed := true, recurses := true, named := ["encoding/binary.BigEndian", "encoding/binary.LittleEndian"], apart := false, narrowed := true }
def FnKtReadUptoSaid : Prop := fnKtReadUptoRow.holds Try.pinned (OpenSpec.upto fnKtReadSpec)

/-- 'laws.FnKtJoined', WHERE WHAT IT READS IS OF BULK AT MOST 1048576: true; the input reads as it did. -/
def fnKtJoinedUptoRow : OpenClaim := { program := "ytcbbipdiahmelaa", sum := "da0279519450d96cac5a847a03e4ea488a52dadffc408b3b0c4760c3eaac0893", func := "pub-portress/laws.FnKtJoined", spec := "fnKtJoined", unfollowed := true, recurses := true, named := ["encoding/binary.BigEndian", "encoding/binary.LittleEndian"], apart := false, narrowed := true }
def FnKtJoinedUptoSaid : Prop := fnKtJoinedUptoRow.holds Try.pinned (OpenSpec.upto fnKtJoinedSpec)

/-- 'laws.FnKtFind', WHERE WHAT IT READS IS OF BULK AT MOST 1048576: true; the input reads as it did. -/
def fnKtFindUptoRow : OpenClaim := { program := "ytcbbipdiahmelaa", sum := "da0279519450d96cac5a847a03e4ea488a52dadffc408b3b0c4760c3eaac0893", func := "pub-portress/laws.FnKtFind", spec := "fnKtFind", unfollowed := true, recurses := true, named := ["encoding/binary.BigEndian", "encoding/binary.LittleEndian"], apart := false, narrowed := true }
def FnKtFindUptoSaid : Prop := fnKtFindUptoRow.holds Try.pinned (OpenSpec.upto fnKtFindSpec)

/-- 'laws.FnKtAgain', WHERE WHAT IT READS IS OF BULK AT MOST 1048576: true; the input reads as it did. -/
def fnKtAgainUptoRow : OpenClaim := { program := "ytcbbipdiahmelaa", sum := "da0279519450d96cac5a847a03e4ea488a52dadffc408b3b0c4760c3eaac0893", func := "pub-portress/laws.FnKtAgain", spec := "fnKtAgain", unfollowed := true, recurses := true, named := ["encoding/binary.BigEndian", "encoding/binary.LittleEndian"], apart := false, narrowed := true }
def FnKtAgainUptoSaid : Prop := fnKtAgainUptoRow.holds Try.pinned (OpenSpec.upto fnKtAgainSpec)

end Rows
end Go.Proofs.Ytcbbipdiahmelaa

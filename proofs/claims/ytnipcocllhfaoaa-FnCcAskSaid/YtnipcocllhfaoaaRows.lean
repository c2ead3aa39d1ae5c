/-
  No cell of these rows narrows 'for every input' (looked for: loops, veiled, ifaces, maps, wideKeys, modest, calm, conditions, laid).
  DERIVED. THE GIVEN ROWS OF THIS SEAT. 4 by the template 'for every input the law returns true; each argument reads behind the call as it read before'; 0 by the template 'total and deterministic' (their statements: YtnipcocllhfaoaaTotals.lean).
  GIVEN WITH THE SEED: the statements are not yours to turn. If you find one false, say at which input.
  Laid BY PROGRAM, IN A SANDBOX (cutbox-rows.mjs): the forced cells as the released guide's own fill.sh prints them over the translation 588119331d1b4bd1… (all of the seat's roots in one cut). By AI agents, Wed Nov 11 2026. No macro, syntax, notation, axiom, sorry.
-/
import Derived.Test.YtnipcocllhfaoaaChecked
import GoSem.Claim
import GoSem.ClaimJoined
import GoSem.ClaimMapViews
import Derived.JoinedTies
import Derived.KernelRfl
namespace Go.Proofs.Ytnipcocllhfaoaa
/- THE CELL 'sum', in the pinned program and in every row, IS THE sha256 OF THE DUMP (.gsa) THAT YtnipcocllhfaoaaProg.lean LOADS. Nothing in Lean hashes anything: it is a label: what it is worth is what the hold of that sum in a sandbox is worth. -/
noncomputable def Try.pinned : Pinned := { name := "ytnipcocllhfaoaa", sum := "588119331d1b4bd181bc6707625f5f9d628ed62c046c7a7773f7d669dc6cd8ba", checked := Try.checked }
namespace Rows
def none {H : Type} : Left H := { results := [], args := [] }

/-- 'laws.FnCcCut': WHATEVER THE INPUT: true; the input reads as it did. -/
def fnCcCutSpec : ChangeSpec := { name := "fnCcCut", fn := fun _ => fun
  | [d1, d2, d3, d4] => { results := [.lit (.bool true)], args := [d1, d2, d3, d4] }
  | _ => none }
def fnCcCutRow : OpenClaim := { program := "ytnipcocllhfaoaa", sum := "588119331d1b4bd181bc6707625f5f9d628ed62c046c7a7773f7d669dc6cd8ba", func := "pub-portress/laws.FnCcCut", spec := "fnCcCut", unfollowed := true, recurses := true, named := ["encoding/binary.BigEndian", "encoding/binary.LittleEndian"], apart := false }
def FnCcCutSaid : Prop := fnCcCutRow.holds Try.pinned (OpenSpec.ofChange fnCcCutSpec)

/-- ITS FALSE NEIGHBOUR: 'it returns false'. Refute it at one input. -/
def fnCcCutWrong : ChangeSpec := { name := "fnCcCut", fn := fun _ => fun
  | [d1, d2, d3, d4] => { results := [.lit (.bool false)], args := [d1, d2, d3, d4] }
  | _ => none }
def FnCcCutWrongFalsely : Prop := fnCcCutRow.holds Try.pinned (OpenSpec.ofChange fnCcCutWrong)

/-- 'laws.FnCcHeader': WHATEVER THE INPUT: true; the input reads as it did. -/
def fnCcHeaderSpec : ChangeSpec := { name := "fnCcHeader", fn := fun _ => fun
  | [d1, d2, d3, d4] => { results := [.lit (.bool true)], args := [d1, d2, d3, d4] }
  | _ => none }
def fnCcHeaderRow : OpenClaim := { program := "ytnipcocllhfaoaa", sum := "588119331d1b4bd181bc6707625f5f9d628ed62c046c7a7773f7d669dc6cd8ba", func := "pub-portress/laws.FnCcHeader", spec := "fnCcHeader", unfollowed := true, recurses := true, named := ["encoding/binary.BigEndian", "encoding/binary.LittleEndian"], apart := false }
def FnCcHeaderSaid : Prop := fnCcHeaderRow.holds Try.pinned (OpenSpec.ofChange fnCcHeaderSpec)

/-- ITS FALSE NEIGHBOUR: 'it returns false'. Refute it at one input. -/
def fnCcHeaderWrong : ChangeSpec := { name := "fnCcHeader", fn := fun _ => fun
  | [d1, d2, d3, d4] => { results := [.lit (.bool false)], args := [d1, d2, d3, d4] }
  | _ => none }
def FnCcHeaderWrongFalsely : Prop := fnCcHeaderRow.holds Try.pinned (OpenSpec.ofChange fnCcHeaderWrong)

/-- 'laws.FnCcRead': WHATEVER THE INPUT: true; the input reads as it did. -/
def fnCcReadSpec : ChangeSpec := { name := "fnCcRead", fn := fun _ => fun
  | [d1, d2, d3, d4] => { results := [.lit (.bool true)], args := [d1, d2, d3, d4] }
  | _ => none }
def fnCcReadRow : OpenClaim := { program := "ytnipcocllhfaoaa", sum := "588119331d1b4bd181bc6707625f5f9d628ed62c046c7a7773f7d669dc6cd8ba", func := "pub-portress/laws.FnCcRead", spec := "fnCcRead", unfollowed := true, recurses := true, named := ["encoding/binary.BigEndian", "encoding/binary.LittleEndian"], apart := false }
def FnCcReadSaid : Prop := fnCcReadRow.holds Try.pinned (OpenSpec.ofChange fnCcReadSpec)

/-- ITS FALSE NEIGHBOUR: 'it returns false'. Refute it at one input. -/
def fnCcReadWrong : ChangeSpec := { name := "fnCcRead", fn := fun _ => fun
  | [d1, d2, d3, d4] => { results := [.lit (.bool false)], args := [d1, d2, d3, d4] }
  | _ => none }
def FnCcReadWrongFalsely : Prop := fnCcReadRow.holds Try.pinned (OpenSpec.ofChange fnCcReadWrong)

/-- 'laws.FnCcAsk': WHATEVER THE INPUT: true; the input reads as it did. -/
def fnCcAskSpec : ChangeSpec := { name := "fnCcAsk", fn := fun _ => fun
  | [d1, d2, d3, d4] => { results := [.lit (.bool true)], args := [d1, d2, d3, d4] }
  | _ => none }
def fnCcAskRow : OpenClaim := { program := "ytnipcocllhfaoaa", sum := "588119331d1b4bd181bc6707625f5f9d628ed62c046c7a7773f7d669dc6cd8ba", func := "pub-portress/laws.FnCcAsk", spec := "fnCcAsk", unfollowed := true, recurses := true, named := ["encoding/binary.BigEndian", "encoding/binary.LittleEndian"], apart := false }
def FnCcAskSaid : Prop := fnCcAskRow.holds Try.pinned (OpenSpec.ofChange fnCcAskSpec)

/-- ITS FALSE NEIGHBOUR: 'it returns false'. Refute it at one input. -/
def fnCcAskWrong : ChangeSpec := { name := "fnCcAsk", fn := fun _ => fun
  | [d1, d2, d3, d4] => { results := [.lit (.bool false)], args := [d1, d2, d3, d4] }
  | _ => none }
def FnCcAskWrongFalsely : Prop := fnCcAskRow.holds Try.pinned (OpenSpec.ofChange fnCcAskWrong)

/- THE SECOND FORM. 'bulk': how many values and letters a reading holds, each counted each time it is reached (what is shared counts as often as it is met; a slice's spare places count too). A statement '..UptoSaid' is the law's where the arguments, and the package variables that the reading takes, are together of bulk at most 1048576: NARROWER than '..Said'. Prove '..Said' where nothing that the law and all that it calls make is longer than what came in: it says more and counts as full. Else prove '..UptoSaid'. A law counts once. -/
mutual
def uptoBulk {H : Type} : DataW H → Nat
  | .lit (.string bytes) => bytes.length + 1
  | .lit _ => 1
  | .nil => 1
  | .ptr d => uptoBulk d + 1
  | .slice elems spare => uptoBulkAll elems + uptoBulkAll spare + 1
  | .agg parts => uptoBulkAll parts + 1
  | .iface _ d => uptoBulk d + 1
  | .map entries => uptoBulkEntries entries + 1
  | .held _ => 1
def uptoBulkAll {H : Type} : List (DataW H) → Nat
  | [] => 0
  | d :: r => uptoBulk d + uptoBulkAll r
def uptoBulkEntries {H : Type} : List (Lit × DataW H) → Nat
  | [] => 0
  | x :: r => uptoBulkEntry x + uptoBulkEntries r
def uptoBulkEntry {H : Type} : Lit × DataW H → Nat
  | (.string bytes, d) => bytes.length + uptoBulk d + 1
  | (_, d) => uptoBulk d + 1
 end
def uptoSmall : (H : Type) → List (DataW H) → Bool := fun _ ds => decide (uptoBulkAll ds ≤ 1048576)
def OpenSpec.upto (s : _root_.Go.ChangeSpec) : _root_.Go.OpenSpec := { _root_.Go.OpenSpec.ofChange s with cond := some uptoSmall }

/-- 'laws.FnCcCut', WHERE WHAT IT READS IS OF BULK AT MOST 1048576: true; the input reads as it did. -/
def fnCcCutUptoRow : OpenClaim := { program := "ytnipcocllhfaoaa", sum := "588119331d1b4bd181bc6707625f5f9d628ed62c046c7a7773f7d669dc6cd8ba", func := "pub-portress/laws.FnCcCut", spec := "fnCcCut", unfollowed := true, recurses := true, named := ["encoding/binary.BigEndian", "encoding/binary.LittleEndian"], apart := false, narrowed := true }
def FnCcCutUptoSaid : Prop := fnCcCutUptoRow.holds Try.pinned (OpenSpec.upto fnCcCutSpec)

/-- 'laws.FnCcHeader', WHERE WHAT IT READS IS OF BULK AT MOST 1048576: true; the input reads as it did. -/
def fnCcHeaderUptoRow : OpenClaim := { program := "ytnipcocllhfaoaa", sum := "588119331d1b4bd181bc6707625f5f9d628ed62c046c7a7773f7d669dc6cd8ba", func := "pub-portress/laws.FnCcHeader", spec := "fnCcHeader", unfollowed := true, recurses := true, named := ["encoding/binary.BigEndian", "encoding/binary.LittleEndian"], apart := false, narrowed := true }
def FnCcHeaderUptoSaid : Prop := fnCcHeaderUptoRow.holds Try.pinned (OpenSpec.upto fnCcHeaderSpec)

/-- 'laws.FnCcRead', WHERE WHAT IT READS IS OF BULK AT MOST 1048576: true; the input reads as it did. -/
def fnCcReadUptoRow : OpenClaim := { program := "ytnipcocllhfaoaa", sum := "588119331d1b4bd181bc6707625f5f9d628ed62c046c7a7773f7d669dc6cd8ba", func := "pub-portress/laws.FnCcRead", spec := "fnCcRead", unfollowed := true, recurses := true, named := ["encoding/binary.BigEndian", "encoding/binary.LittleEndian"], apart := false, narrowed := true }
def FnCcReadUptoSaid : Prop := fnCcReadUptoRow.holds Try.pinned (OpenSpec.upto fnCcReadSpec)

/-- 'laws.FnCcAsk', WHERE WHAT IT READS IS OF BULK AT MOST 1048576: true; the input reads as it did. -/
def fnCcAskUptoRow : OpenClaim := { program := "ytnipcocllhfaoaa", sum := "588119331d1b4bd181bc6707625f5f9d628ed62c046c7a7773f7d669dc6cd8ba", func := "pub-portress/laws.FnCcAsk", spec := "fnCcAsk", unfollowed := true, recurses := true, named := ["encoding/binary.BigEndian", "encoding/binary.LittleEndian"], apart := false, narrowed := true }
def FnCcAskUptoSaid : Prop := fnCcAskUptoRow.holds Try.pinned (OpenSpec.upto fnCcAskSpec)

end Rows
end Go.Proofs.Ytnipcocllhfaoaa

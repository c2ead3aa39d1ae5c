/-
  NARROWER THAN 'FOR EVERY INPUT', by the rows' own cells (each row's printed sentence says how): FnTypes: laid.
  DERIVED. THE GIVEN ROWS OF THIS SEAT. 1 by the template 'for every input the law returns true; each argument reads behind the call as it read before'; 0 by the template 'total and deterministic' (their statements: YthgcpicflmigjaaDoorTotals.lean).
  GIVEN WITH THE SEED: the statements are not yours to turn. If you find one false, say at which input.
  Laid BY PROGRAM, IN A SANDBOX (cutbox-rows.mjs): the forced cells as the released guide's own fill.sh prints them over the translation cd75d762a70b72cd… (all of the seat's roots in one cut). By AI agents, Wed Nov 11 2026. No macro, syntax, notation, axiom, sorry.
-/
import Derived.Test.YthgcpicflmigjaaDoorChecked
import GoSem.Claim
import GoSem.ClaimJoined
import GoSem.ClaimMapViews
import Derived.JoinedTies
import Derived.KernelRfl
namespace Go.Proofs.YthgcpicflmigjaaDoor
/- THE CELL 'sum', in the pinned program and in every row, IS THE sha256 OF THE DUMP (.gsa) THAT YthgcpicflmigjaaDoorProg.lean LOADS. Nothing in Lean hashes anything: it is a label: what it is worth is what the hold of that sum in a sandbox is worth. -/
noncomputable def Tryd.pinned : Pinned := { name := "ythgcpicflmigjaadoor", sum := "cd75d762a70b72cdb8685a2f6b66d5e9e1acebcdee9f0462d5bca7fe88ae0ce4", checked := Tryd.checked }
namespace Rows
def none {H : Type} : Left H := { results := [], args := [] }

/- WHAT THE LISTED PACKAGE-LEVEL VARIABLES READ AS WHEN THE CALL BEGINS. Each datum BY PROGRAM (the guide's laid-datum.mjs) off the statement by which the dump's own 'gosem.cut.vars' lays the variable. In a bare row this is a premise. The card (YthgcpicflmigjaaDoorCards.lean) ties it to the program's text. -/
def laid_pub_portress_pub_gokrb5_iana_etypeID_ETypesByName {H : Type} : DataW H := .map [(.string [97, 101, 115, 49, 50, 56, 45, 99, 116, 115], .lit (.int .i32 17)), (.string [97, 101, 115, 49, 50, 56, 45, 99, 116, 115, 45, 104, 109, 97, 99, 45, 115, 104, 97, 49, 45, 57, 54], .lit (.int .i32 17)), (.string [97, 101, 115, 49, 50, 56, 45, 99, 116, 115, 45, 104, 109, 97, 99, 45, 115, 104, 97, 50, 53, 54, 45, 49, 50, 56], .lit (.int .i32 19)), (.string [97, 101, 115, 49, 50, 56, 45, 115, 104, 97, 49], .lit (.int .i32 17)), (.string [97, 101, 115, 49, 50, 56, 45, 115, 104, 97, 50], .lit (.int .i32 19)), (.string [97, 101, 115, 50, 53, 54, 45, 99, 116, 115], .lit (.int .i32 18)), (.string [97, 101, 115, 50, 53, 54, 45, 99, 116, 115, 45, 104, 109, 97, 99, 45, 115, 104, 97, 49, 45, 57, 54], .lit (.int .i32 18)), (.string [97, 101, 115, 50, 53, 54, 45, 99, 116, 115, 45, 104, 109, 97, 99, 45, 115, 104, 97, 51, 56, 52, 45, 49, 57, 50], .lit (.int .i32 20)), (.string [97, 101, 115, 50, 53, 54, 45, 115, 104, 97, 49], .lit (.int .i32 18)), (.string [97, 101, 115, 50, 53, 54, 45, 115, 104, 97, 50], .lit (.int .i32 20)), (.string [97, 114, 99, 102, 111, 117, 114, 45, 104, 109, 97, 99], .lit (.int .i32 23)), (.string [97, 114, 99, 102, 111, 117, 114, 45, 104, 109, 97, 99, 45, 101, 120, 112], .lit (.int .i32 24)), (.string [97, 114, 99, 102, 111, 117, 114, 45, 104, 109, 97, 99, 45, 109, 100, 53], .lit (.int .i32 23)), (.string [97, 114, 99, 102, 111, 117, 114, 45, 104, 109, 97, 99, 45, 109, 100, 53, 45, 101, 120, 112], .lit (.int .i32 24)), (.string [99, 97, 109, 101, 108, 108, 105, 97, 49, 50, 56, 45, 99, 116, 115], .lit (.int .i32 25)), (.string [99, 97, 109, 101, 108, 108, 105, 97, 49, 50, 56, 45, 99, 116, 115, 45, 99, 109, 97, 99], .lit (.int .i32 25)), (.string [99, 97, 109, 101, 108, 108, 105, 97, 50, 53, 54, 45, 99, 116, 115], .lit (.int .i32 26)), (.string [99, 97, 109, 101, 108, 108, 105, 97, 50, 53, 54, 45, 99, 116, 115, 45, 99, 109, 97, 99], .lit (.int .i32 26)), (.string [100, 101, 115, 45, 99, 98, 99, 45, 99, 114, 99], .lit (.int .i32 1)), (.string [100, 101, 115, 45, 99, 98, 99, 45, 109, 100, 52], .lit (.int .i32 2)), (.string [100, 101, 115, 45, 99, 98, 99, 45, 109, 100, 53], .lit (.int .i32 3)), (.string [100, 101, 115, 45, 99, 98, 99, 45, 114, 97, 119], .lit (.int .i32 4)), (.string [100, 101, 115, 45, 101, 100, 101, 51, 45, 99, 98, 99, 45, 69, 110, 118, 45, 79, 73, 68], .lit (.int .i32 15)), (.string [100, 101, 115, 45, 104, 109, 97, 99, 45, 115, 104, 97, 49], .lit (.int .i32 8)), (.string [100, 101, 115, 51, 45, 99, 98, 99, 45, 109, 100, 53], .lit (.int .i32 5)), (.string [100, 101, 115, 51, 45, 99, 98, 99, 45, 114, 97, 119], .lit (.int .i32 6)), (.string [100, 101, 115, 51, 45, 99, 98, 99, 45, 115, 104, 97, 49], .lit (.int .i32 7)), (.string [100, 101, 115, 51, 45, 99, 98, 99, 45, 115, 104, 97, 49, 45, 107, 100], .lit (.int .i32 16)), (.string [100, 101, 115, 51, 45, 104, 109, 97, 99, 45, 115, 104, 97, 49], .lit (.int .i32 8)), (.string [100, 115, 97, 87, 105, 116, 104, 83, 72, 65, 49, 45, 67, 109, 115, 79, 73, 68], .lit (.int .i32 9)), (.string [109, 100, 53, 87, 105, 116, 104, 82, 83, 65, 69, 110, 99, 114, 121, 112, 116, 105, 111, 110, 45, 67, 109, 115, 79, 73, 68], .lit (.int .i32 10)), (.string [114, 99, 50, 67, 66, 67, 45, 69, 110, 118, 79, 73, 68], .lit (.int .i32 12)), (.string [114, 99, 52, 45, 104, 109, 97, 99], .lit (.int .i32 23)), (.string [114, 99, 52, 45, 104, 109, 97, 99, 45, 101, 120, 112], .lit (.int .i32 24)), (.string [114, 115, 97, 69, 83, 45, 79, 65, 69, 80, 45, 69, 78, 86, 45, 79, 73, 68], .lit (.int .i32 14)), (.string [114, 115, 97, 69, 110, 99, 114, 121, 112, 116, 105, 111, 110, 45, 69, 110, 118, 79, 73, 68], .lit (.int .i32 13)), (.string [115, 104, 97, 49, 87, 105, 116, 104, 82, 83, 65, 69, 110, 99, 114, 121, 112, 116, 105, 111, 110, 45, 67, 109, 115, 79, 73, 68], .lit (.int .i32 11)), (.string [115, 117, 98, 107, 101, 121, 45, 107, 101, 121, 109, 97, 116, 101, 114, 105, 97, 108], .lit (.int .i32 65))]

/-- 'laws.FnTypes': WHATEVER THE INPUT: true; the input reads as it did. -/
def fnTypesSpec : ChangeSpec := { name := "fnTypes", fn := fun _ => fun
  | [d] => { results := [.lit (.bool true)], args := [d] }
  | _ => none }
def fnTypesRow : OpenClaim := { program := "ythgcpicflmigjaadoor", sum := "cd75d762a70b72cdb8685a2f6b66d5e9e1acebcdee9f0462d5bca7fe88ae0ce4", func := "pub-portress/laws.FnTypes", spec := "fnTypes", named := ["pub-portress/pub/gokrb5/iana/etypeID.ETypesByName"], apart := false, laid := [("pub-portress/pub/gokrb5/iana/etypeID.ETypesByName", laid_pub_portress_pub_gokrb5_iana_etypeID_ETypesByName)] }
def FnTypesSaid : Prop := fnTypesRow.holds Tryd.pinned (OpenSpec.ofChange fnTypesSpec)

/-- ITS FALSE NEIGHBOUR: 'it returns false'. Refute it at one input. -/
def fnTypesWrong : ChangeSpec := { name := "fnTypes", fn := fun _ => fun
  | [d] => { results := [.lit (.bool false)], args := [d] }
  | _ => none }
def FnTypesWrongFalsely : Prop := fnTypesRow.holds Tryd.pinned (OpenSpec.ofChange fnTypesWrong)

/- THE SECOND FORM. 'bulk': how many values and letters a reading holds, each counted each time it is reached (what is shared counts as often as it is met; a slice's spare places count too). A statement '..UptoSaid' is the law's where the arguments, and the package variables that the reading takes, are together of bulk at most 1048576: NARROWER than '..Said'. Prove '..Said' where nothing that the law and all that it calls make is longer than what came in: it says more and counts as full. Else prove '..UptoSaid'. A law counts once. -/
mutual
def uptoBulk {H : Type} : DataW H → Nat
  | .lit (.string bytes) => bytes.length + 1
  | .lit _ => 1
  | .nil => 1
  | .ptr d => uptoBulk d + 1
  | .slice elems spare => uptoBulkAll elems + uptoBulkAll spare + 1
  | .agg parts => uptoBulkAll parts + 1
  | .iface _ d => uptoBulk d + 1
  | .map entries => uptoBulkEntries entries + 1
  | .held _ => 1
def uptoBulkAll {H : Type} : List (DataW H) → Nat
  | [] => 0
  | d :: r => uptoBulk d + uptoBulkAll r
def uptoBulkEntries {H : Type} : List (Lit × DataW H) → Nat
  | [] => 0
  | x :: r => uptoBulkEntry x + uptoBulkEntries r
def uptoBulkEntry {H : Type} : Lit × DataW H → Nat
  | (.string bytes, d) => bytes.length + uptoBulk d + 1
  | (_, d) => uptoBulk d + 1
 end
def uptoSmall : (H : Type) → List (DataW H) → Bool := fun _ ds => decide (uptoBulkAll ds ≤ 1048576)
def OpenSpec.upto (s : _root_.Go.ChangeSpec) : _root_.Go.OpenSpec := { _root_.Go.OpenSpec.ofChange s with cond := some uptoSmall }

/-- 'laws.FnTypes', WHERE WHAT IT READS IS OF BULK AT MOST 1048576: true; the input reads as it did. -/
def fnTypesUptoRow : OpenClaim := { program := "ythgcpicflmigjaadoor", sum := "cd75d762a70b72cdb8685a2f6b66d5e9e1acebcdee9f0462d5bca7fe88ae0ce4", func := "pub-portress/laws.FnTypes", spec := "fnTypes", named := ["pub-portress/pub/gokrb5/iana/etypeID.ETypesByName"], apart := false, laid := [("pub-portress/pub/gokrb5/iana/etypeID.ETypesByName", laid_pub_portress_pub_gokrb5_iana_etypeID_ETypesByName)], narrowed := true }
def FnTypesUptoSaid : Prop := fnTypesUptoRow.holds Tryd.pinned (OpenSpec.upto fnTypesSpec)

end Rows
end Go.Proofs.YthgcpicflmigjaaDoor

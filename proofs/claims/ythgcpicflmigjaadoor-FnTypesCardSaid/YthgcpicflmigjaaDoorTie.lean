/-
  DERIVED. GIVEN WITH THE SEED: THE PROGRAM's TIES (one call each: nine closed facts by the kernel) AND EACH ROW's TIE, after the 31st guide's Derived/Test/Toyas{Tie, Card}.lean. No idea stands in it: it is a product of the set-up. Laid BY PROGRAM, IN A SANDBOX (cutbox-door.mjs). By AI agents, Wed Nov 11 2026. No macro, syntax, notation, axiom, sorry.
-/
import Derived.Test.YthgcpicflmigjaaDoorRows
import Derived.LaidByTextLater
import Derived.SevenTiedAt
import Derived.LaidSub
import Derived.LaidOnce
namespace Go.Proofs.YthgcpicflmigjaaDoor
open Go
set_option maxRecDepth 100000
theorem seatTie1 : Tryd.prog.laidByTextLater [("pub-portress/pub/gokrb5/iana/etypeID.ETypesByName", Rows.laid_pub_portress_pub_gokrb5_iana_etypeID_ETypesByName)] [.mapped] true :=
  Program.laidByTextLater_by_one 204 8 2 (by kernel_rfl) (by kernel_rfl) (by kernel_rfl) (by kernel_rfl) (by kernel_rfl) (by kernel_rfl) (fun _ _ => by kernel_rfl)
theorem noOwnUnsafe : Tryd.pinned.checked.prog.headLifts.contains "ownunsafe" = false := by kernel_rfl
theorem tie : Tryd.prog.laidByTextLater [("pub-portress/pub/gokrb5/iana/etypeID.ETypesByName", Rows.laid_pub_portress_pub_gokrb5_iana_etypeID_ETypesByName)] [.mapped] true :=
  Program.laidByTextLater.sub seatTie1 ["pub-portress/pub/gokrb5/iana/etypeID.ETypesByName"] (by kernel_rfl) (by kernel_rfl)
theorem fnTypes_row_tie : Rows.fnTypesRow.laidByTextAt .later Tryd.pinned [.mapped] true :=
  OpenClaim.laidByTextAt_later rfl rfl tie noOwnUnsafe
theorem fnTypesUpto_row_tie : Rows.fnTypesUptoRow.laidByTextAt .later Tryd.pinned [.mapped] true :=
  OpenClaim.laidByTextAt_later rfl rfl tie noOwnUnsafe
end Go.Proofs.YthgcpicflmigjaaDoor

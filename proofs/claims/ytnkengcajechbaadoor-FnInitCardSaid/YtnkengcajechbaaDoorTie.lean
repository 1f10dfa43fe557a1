/-
  DERIVED. GIVEN WITH THE SEED: THE PROGRAM's TIES (one call each: nine closed facts by the kernel) AND EACH ROW's TIE, after the 31st guide's Derived/Test/Toyas{Tie, Card}.lean. No idea stands in it: it is a product of the set-up. Laid BY PROGRAM, IN A SANDBOX (cutbox-door.mjs). By AI agents, Wed Nov 11 2026. No macro, syntax, notation, axiom, sorry.
-/
import Derived.Test.YtnkengcajechbaaDoorRows
import Derived.LaidByTextLater
import Derived.SevenTiedAt
import Derived.LaidSub
import Derived.LaidOnce
namespace Go.Proofs.YtnkengcajechbaaDoor
open Go
set_option maxRecDepth 100000
theorem seatTie1 : Tryd.prog.laidByTextLater [("given.example/pub-anacrusis/pub/gohdb/driver/inner/protocol.initRequestFiller", Rows.laid_given_example_pub_anacrusis_pub_gohdb_driver_inner_protocol_initRequestFiller)] [.data] true :=
  Program.laidByTextLater_by_one 13 8 2 (by kernel_rfl) (by kernel_rfl) (by kernel_rfl) (by kernel_rfl) (by kernel_rfl) (by kernel_rfl) (fun _ _ => by kernel_rfl)
theorem noOwnUnsafe : Tryd.pinned.checked.prog.headLifts.contains "ownunsafe" = false := by kernel_rfl
theorem tie : Tryd.prog.laidByTextLater [("given.example/pub-anacrusis/pub/gohdb/driver/inner/protocol.initRequestFiller", Rows.laid_given_example_pub_anacrusis_pub_gohdb_driver_inner_protocol_initRequestFiller)] [.data] true :=
  Program.laidByTextLater.sub seatTie1 ["given.example/pub-anacrusis/pub/gohdb/driver/inner/protocol.initRequestFiller"] (by kernel_rfl) (by kernel_rfl)
theorem fnInit_row_tie : Rows.fnInitRow.laidByTextAt .later Tryd.pinned [.data] true :=
  OpenClaim.laidByTextAt_later rfl rfl tie noOwnUnsafe
theorem fnInitUpto_row_tie : Rows.fnInitUptoRow.laidByTextAt .later Tryd.pinned [.data] true :=
  OpenClaim.laidByTextAt_later rfl rfl tie noOwnUnsafe
end Go.Proofs.YtnkengcajechbaaDoor

/-
  DERIVED. GIVEN WITH THE SEED: THE PROGRAM's TIES (one call each: nine closed facts by the kernel) AND EACH ROW's TIE, after the 31st guide's Derived/Test/Toyas{Tie, Card}.lean. No idea stands in it: it is a product of the set-up. Laid BY PROGRAM, IN A SANDBOX (cutbox-door.mjs). By AI agents, Wed Nov 11 2026. No macro, syntax, notation, axiom, sorry.
-/
import Derived.Test.YtkibnongmkhbaaaGreatDoorRows
import Derived.LaidByTextLater
import Derived.SevenTiedAt
import Derived.LaidSub
import Derived.LaidOnce
namespace Go.Proofs.YtkibnongmkhbaaaGreatDoor
open Go
set_option maxRecDepth 100000
theorem seatTie1 : Tryz.prog.laidByTextLater [("loop.example/pub-g03349/pub/field.feZero", Rows.laid_loop_example_pub_g03349_pub_field_feZero), ("loop.example/pub-g03349/pub/field.feOne", Rows.laid_loop_example_pub_g03349_pub_field_feOne), ("loop.example/pub-g03349/pub/field.sqrtM1", Rows.laid_loop_example_pub_g03349_pub_field_sqrtM1), ("loop.example/pub-g03349/pub/edwards25519.scalarMinusOneBytes", Rows.laid_loop_example_pub_g03349_pub_edwards25519_scalarMinusOneBytes)] [.widerDeep, .widerDeep, .widerDeep, .widerDeep] true :=
  Program.laidByTextLater_by_one 32 8 33 (by kernel_rfl) (by kernel_rfl) (by kernel_rfl) (by kernel_rfl) (by kernel_rfl) (by kernel_rfl) (fun _ _ => by kernel_rfl)
theorem noOwnUnsafe : Tryz.pinned.checked.prog.headLifts.contains "ownunsafe" = false := by kernel_rfl
theorem tie : Tryz.prog.laidByTextLater [("loop.example/pub-g03349/pub/field.feZero", Rows.laid_loop_example_pub_g03349_pub_field_feZero), ("loop.example/pub-g03349/pub/field.feOne", Rows.laid_loop_example_pub_g03349_pub_field_feOne), ("loop.example/pub-g03349/pub/field.sqrtM1", Rows.laid_loop_example_pub_g03349_pub_field_sqrtM1), ("loop.example/pub-g03349/pub/edwards25519.scalarMinusOneBytes", Rows.laid_loop_example_pub_g03349_pub_edwards25519_scalarMinusOneBytes)] [.widerDeep, .widerDeep, .widerDeep, .widerDeep] true :=
  Program.laidByTextLater.sub seatTie1 ["loop.example/pub-g03349/pub/field.feZero", "loop.example/pub-g03349/pub/field.feOne", "loop.example/pub-g03349/pub/field.sqrtM1", "loop.example/pub-g03349/pub/edwards25519.scalarMinusOneBytes"] (by kernel_rfl) (by kernel_rfl)
theorem fnGroup_row_tie : Rows.fnGroupRow.laidByTextAt .later Tryz.pinned [.widerDeep, .widerDeep, .widerDeep, .widerDeep] true :=
  OpenClaim.laidByTextAt_later rfl rfl tie noOwnUnsafe
theorem fnGroupUpto_row_tie : Rows.fnGroupUptoRow.laidByTextAt .later Tryz.pinned [.widerDeep, .widerDeep, .widerDeep, .widerDeep] true :=
  OpenClaim.laidByTextAt_later rfl rfl tie noOwnUnsafe
end Go.Proofs.YtkibnongmkhbaaaGreatDoor

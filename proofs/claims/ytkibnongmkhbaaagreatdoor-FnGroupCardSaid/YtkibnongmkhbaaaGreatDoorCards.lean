/-
  DERIVED. GIVEN WITH THE SEED: THE CARDS: each row of YtkibnongmkhbaaaGreatDoorRows.lean that lists a variable, with what it lists TIED to the program's text (the seventh form; the later family's looks); each row that meets fmt, with fmt's text TOLD by the authors' own Lean function (tested against real Go, not proved from fmt's source: count such statements apart). THE CARD IS WHAT COUNTS. Prove the row's statement (the work); the ties are given (YtkibnongmkhbaaaGreatDoorTie.lean); close each card by the builder's one call (the guide's Derived/Test/ToyasCard.lean, 'card_holds'). Laid BY PROGRAM, IN A SANDBOX (cutbox-door.mjs). By AI agents, Wed Nov 11 2026. No macro, syntax, notation, axiom, sorry.
-/
import Derived.Test.YtkibnongmkhbaaaGreatDoorRows
import GoSem.ClaimSeven
namespace Go.Proofs.YtkibnongmkhbaaaGreatDoor
namespace Rows

/-- THE TIED CARD OF 'laws.FnGroup'. -/
def fnGroupCard : Claim7 := { stood := { row := fnGroupRow, standIns := [], harness := (true, "fb57b7392007afb45b9e79c7c9c455b55a61917c2406f08c6649f5b9dae3ca17"), looks := false }, kinds := [], alts := [], laidByText := true, laidKinds := [.widerDeep, .widerDeep, .widerDeep, .widerDeep], laidTests := true, laidLooks := .later }
def FnGroupCardSaid : Prop := Claim7.holds Tryz.pinned (.plain (OpenSpec.ofChange fnGroupSpec)) fnGroupCard

/-- THE SECOND FORM's CARD OF 'laws.FnGroup'. -/
def fnGroupUptoCard : Claim7 := { stood := { row := fnGroupUptoRow, standIns := [], harness := (true, "fb57b7392007afb45b9e79c7c9c455b55a61917c2406f08c6649f5b9dae3ca17"), looks := false }, kinds := [], alts := [], laidByText := true, laidKinds := [.widerDeep, .widerDeep, .widerDeep, .widerDeep], laidTests := true, laidLooks := .later }
def FnGroupUptoCardSaid : Prop := Claim7.holds Tryz.pinned (.plain (OpenSpec.upto fnGroupSpec)) fnGroupUptoCard
end Rows
end Go.Proofs.YtkibnongmkhbaaaGreatDoor

/-
  DERIVED. GIVEN WITH THE SEED: THE CARDS: each row of YthiododffhdooaaGreatDoorRows.lean that lists a variable, with what it lists TIED to the program's text (the seventh form; the later family's looks); each row that meets fmt, with fmt's text TOLD by the authors' own Lean function (tested against real Go, not proved from fmt's source: count such statements apart). THE CARD IS WHAT COUNTS. Prove the row's statement (the work); the ties are given (YthiododffhdooaaGreatDoorTie.lean); close each card by the builder's one call (the guide's Derived/Test/ToyasCard.lean, 'card_holds'). Laid BY PROGRAM, IN A SANDBOX (cutbox-door.mjs). By AI agents, Wed Nov 11 2026. No macro, syntax, notation, axiom, sorry.
-/
import Derived.Test.YthiododffhdooaaGreatDoorRows
import GoSem.ClaimSeven
namespace Go.Proofs.YthiododffhdooaaGreatDoor
namespace Rows

/-- THE TIED CARD OF 'laws.FnMacro'. -/
def fnMacroCard : Claim7 := { stood := { row := fnMacroRow, standIns := [], harness := (true, "2c6e8c7d102598c1d84e38e4c0bd0e5154f1d7d73f5e8774fbc06bd2b4f748ca"), looks := true }, kinds := [], alts := [], laidByText := true, laidKinds := [.data, .data, .sentinel, .data], laidTests := true, laidLooks := .later }
def FnMacroCardSaid : Prop := Claim7.holds Tryz.pinned (.plain (OpenSpec.ofChange fnMacroSpec)) fnMacroCard

/-- THE SECOND FORM's CARD OF 'laws.FnMacro'. -/
def fnMacroUptoCard : Claim7 := { stood := { row := fnMacroUptoRow, standIns := [], harness := (true, "2c6e8c7d102598c1d84e38e4c0bd0e5154f1d7d73f5e8774fbc06bd2b4f748ca"), looks := true }, kinds := [], alts := [], laidByText := true, laidKinds := [.data, .data, .sentinel, .data], laidTests := true, laidLooks := .later }
def FnMacroUptoCardSaid : Prop := Claim7.holds Tryz.pinned (.plain (OpenSpec.upto fnMacroSpec)) fnMacroUptoCard
end Rows
end Go.Proofs.YthiododffhdooaaGreatDoor

/-
  DERIVED. GIVEN WITH THE SEED: THE CARDS: each row of YtkoeeolmbhobkaaGreatDoorRows.lean that lists a variable, with what it lists TIED to the program's text (the seventh form; the later family's looks); each row that meets fmt, with fmt's text TOLD by the authors' own Lean function (tested against real Go, not proved from fmt's source: count such statements apart). THE CARD IS WHAT COUNTS. Prove the row's statement (the work); the ties are given (YtkoeeolmbhobkaaGreatDoorTie.lean); close each card by the builder's one call (the guide's Derived/Test/ToyasCard.lean, 'card_holds'). Laid BY PROGRAM, IN A SANDBOX (cutbox-door.mjs). By AI agents, Wed Nov 11 2026. No macro, syntax, notation, axiom, sorry.
-/
import Derived.Test.YtkoeeolmbhobkaaGreatDoorRows
import GoSem.ClaimSeven
namespace Go.Proofs.YtkoeeolmbhobkaaGreatDoor
namespace Rows

/-- THE TIED CARD OF 'laws.FnMacroArgs'. -/
def fnMacroArgsCard : Claim7 := { stood := { row := fnMacroArgsRow, standIns := [], harness := (true, "28f09cf1cdf47df92aa5e0c2c6e9c38e28a9bc1528394d1ad04cfb71b9a996a4"), looks := true }, kinds := [], alts := [], laidByText := true, laidKinds := [.data, .data, .sentinel, .data], laidTests := true, laidLooks := .later }
def FnMacroArgsCardSaid : Prop := Claim7.holds Tryz.pinned (.plain (OpenSpec.ofChange fnMacroArgsSpec)) fnMacroArgsCard

/-- THE TIED CARD OF 'laws.FnMacroNone'. -/
def fnMacroNoneCard : Claim7 := { stood := { row := fnMacroNoneRow, standIns := [], harness := (true, "28f09cf1cdf47df92aa5e0c2c6e9c38e28a9bc1528394d1ad04cfb71b9a996a4"), looks := true }, kinds := [], alts := [], laidByText := true, laidKinds := [.data, .data, .sentinel, .data], laidTests := true, laidLooks := .later }
def FnMacroNoneCardSaid : Prop := Claim7.holds Tryz.pinned (.plain (OpenSpec.ofChange fnMacroNoneSpec)) fnMacroNoneCard

/-- THE TIED CARD OF 'laws.FnDefine'. -/
def fnDefineCard : Claim7 := { stood := { row := fnDefineRow, standIns := [], harness := (true, "28f09cf1cdf47df92aa5e0c2c6e9c38e28a9bc1528394d1ad04cfb71b9a996a4"), looks := true }, kinds := [], alts := [], laidByText := true, laidKinds := [.data, .data, .sentinel, .data], laidTests := true, laidLooks := .later }
def FnDefineCardSaid : Prop := Claim7.holds Tryz.pinned (.plain (OpenSpec.ofChange fnDefineSpec)) fnDefineCard

/-- THE SECOND FORM's CARD OF 'laws.FnMacroArgs'. -/
def fnMacroArgsUptoCard : Claim7 := { stood := { row := fnMacroArgsUptoRow, standIns := [], harness := (true, "28f09cf1cdf47df92aa5e0c2c6e9c38e28a9bc1528394d1ad04cfb71b9a996a4"), looks := true }, kinds := [], alts := [], laidByText := true, laidKinds := [.data, .data, .sentinel, .data], laidTests := true, laidLooks := .later }
def FnMacroArgsUptoCardSaid : Prop := Claim7.holds Tryz.pinned (.plain (OpenSpec.upto fnMacroArgsSpec)) fnMacroArgsUptoCard

/-- THE SECOND FORM's CARD OF 'laws.FnMacroNone'. -/
def fnMacroNoneUptoCard : Claim7 := { stood := { row := fnMacroNoneUptoRow, standIns := [], harness := (true, "28f09cf1cdf47df92aa5e0c2c6e9c38e28a9bc1528394d1ad04cfb71b9a996a4"), looks := true }, kinds := [], alts := [], laidByText := true, laidKinds := [.data, .data, .sentinel, .data], laidTests := true, laidLooks := .later }
def FnMacroNoneUptoCardSaid : Prop := Claim7.holds Tryz.pinned (.plain (OpenSpec.upto fnMacroNoneSpec)) fnMacroNoneUptoCard

/-- THE SECOND FORM's CARD OF 'laws.FnDefine'. -/
def fnDefineUptoCard : Claim7 := { stood := { row := fnDefineUptoRow, standIns := [], harness := (true, "28f09cf1cdf47df92aa5e0c2c6e9c38e28a9bc1528394d1ad04cfb71b9a996a4"), looks := true }, kinds := [], alts := [], laidByText := true, laidKinds := [.data, .data, .sentinel, .data], laidTests := true, laidLooks := .later }
def FnDefineUptoCardSaid : Prop := Claim7.holds Tryz.pinned (.plain (OpenSpec.upto fnDefineSpec)) fnDefineUptoCard
end Rows
end Go.Proofs.YtkoeeolmbhobkaaGreatDoor

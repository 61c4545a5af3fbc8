/-
  DERIVED. GIVEN WITH THE SEED: THE CARDS: each row of YtpoimmpdncickaaGreatDoorRows.lean that lists a variable, with what it lists TIED to the program's text (the seventh form; the later family's looks); each row that meets fmt, with fmt's text TOLD by the authors' own Lean function (tested against real Go, not proved from fmt's source: count such statements apart). THE CARD IS WHAT COUNTS. Prove the row's statement (the work); the ties are given (YtpoimmpdncickaaGreatDoorTie.lean); close each card by the builder's one call (the guide's Derived/Test/ToyasCard.lean, 'card_holds'). Laid BY PROGRAM, IN A SANDBOX (cutbox-door.mjs). By AI agents, Wed Nov 11 2026. No macro, syntax, notation, axiom, sorry.
-/
import Derived.Test.YtpoimmpdncickaaGreatDoorRows
import GoSem.ClaimSeven
namespace Go.Proofs.YtpoimmpdncickaaGreatDoor
namespace Rows

/-- THE TIED CARD OF 'laws.FnDefineArgs'. -/
def fnDefineArgsCard : Claim7 := { stood := { row := fnDefineArgsRow, standIns := [], harness := (true, "e6e5a0925e6b1c4dd951fd8db28655361a39016227e909c7b00929af79624189"), looks := true }, kinds := [], alts := [], laidByText := true, laidKinds := [.data, .data, .sentinel, .data], laidTests := true, laidLooks := .later }
def FnDefineArgsCardSaid : Prop := Claim7.holds Tryz.pinned (.plain (OpenSpec.ofChange fnDefineArgsSpec)) fnDefineArgsCard

/-- THE TIED CARD OF 'laws.FnIncludeDir'. -/
def fnIncludeDirCard : Claim7 := { stood := { row := fnIncludeDirRow, standIns := [], harness := (true, "e6e5a0925e6b1c4dd951fd8db28655361a39016227e909c7b00929af79624189"), looks := true }, kinds := [], alts := [], laidByText := true, laidKinds := [.data, .data, .sentinel, .data, .pinned], laidTests := true, laidLooks := .later }
def FnIncludeDirCardSaid : Prop := Claim7.holds Tryz.pinned (.plain (OpenSpec.ofChange fnIncludeDirSpec)) fnIncludeDirCard

/-- THE TIED CARD OF 'laws.FnWrongArgs'. -/
def fnWrongArgsCard : Claim7 := { stood := { row := fnWrongArgsRow, standIns := [], harness := (true, "e6e5a0925e6b1c4dd951fd8db28655361a39016227e909c7b00929af79624189"), looks := true }, kinds := [], alts := [], laidByText := true, laidKinds := [.data, .data, .sentinel, .data, .pinned], laidTests := true, laidLooks := .later }
def FnWrongArgsCardSaid : Prop := Claim7.holds Tryz.pinned (.plain (OpenSpec.ofChange fnWrongArgsSpec)) fnWrongArgsCard

/-- THE TIED CARD OF 'laws.FnWrongEnd'. -/
def fnWrongEndCard : Claim7 := { stood := { row := fnWrongEndRow, standIns := [], harness := (true, "e6e5a0925e6b1c4dd951fd8db28655361a39016227e909c7b00929af79624189"), looks := true }, kinds := [], alts := [], laidByText := true, laidKinds := [.data, .data, .sentinel, .data, .pinned], laidTests := true, laidLooks := .later }
def FnWrongEndCardSaid : Prop := Claim7.holds Tryz.pinned (.plain (OpenSpec.ofChange fnWrongEndSpec)) fnWrongEndCard

/-- THE TIED CARD OF 'laws.FnWrongFile'. -/
def fnWrongFileCard : Claim7 := { stood := { row := fnWrongFileRow, standIns := [], harness := (true, "e6e5a0925e6b1c4dd951fd8db28655361a39016227e909c7b00929af79624189"), looks := true }, kinds := [], alts := [], laidByText := true, laidKinds := [.data, .data, .sentinel, .data, .pinned], laidTests := true, laidLooks := .later }
def FnWrongFileCardSaid : Prop := Claim7.holds Tryz.pinned (.plain (OpenSpec.ofChange fnWrongFileSpec)) fnWrongFileCard

/-- THE TIED CARD OF 'laws.FnWrongPlace'. -/
def fnWrongPlaceCard : Claim7 := { stood := { row := fnWrongPlaceRow, standIns := [], harness := (true, "e6e5a0925e6b1c4dd951fd8db28655361a39016227e909c7b00929af79624189"), looks := true }, kinds := [], alts := [], laidByText := true, laidKinds := [.data, .data, .sentinel, .data, .pinned], laidTests := true, laidLooks := .later }
def FnWrongPlaceCardSaid : Prop := Claim7.holds Tryz.pinned (.plain (OpenSpec.ofChange fnWrongPlaceSpec)) fnWrongPlaceCard

/-- THE TIED CARD OF 'laws.FnWrongTwice'. -/
def fnWrongTwiceCard : Claim7 := { stood := { row := fnWrongTwiceRow, standIns := [], harness := (true, "e6e5a0925e6b1c4dd951fd8db28655361a39016227e909c7b00929af79624189"), looks := true }, kinds := [], alts := [], laidByText := true, laidKinds := [.data, .data, .sentinel, .data, .pinned], laidTests := true, laidLooks := .later }
def FnWrongTwiceCardSaid : Prop := Claim7.holds Tryz.pinned (.plain (OpenSpec.ofChange fnWrongTwiceSpec)) fnWrongTwiceCard

/-- THE SECOND FORM's CARD OF 'laws.FnDefineArgs'. -/
def fnDefineArgsUptoCard : Claim7 := { stood := { row := fnDefineArgsUptoRow, standIns := [], harness := (true, "e6e5a0925e6b1c4dd951fd8db28655361a39016227e909c7b00929af79624189"), looks := true }, kinds := [], alts := [], laidByText := true, laidKinds := [.data, .data, .sentinel, .data], laidTests := true, laidLooks := .later }
def FnDefineArgsUptoCardSaid : Prop := Claim7.holds Tryz.pinned (.plain (OpenSpec.upto fnDefineArgsSpec)) fnDefineArgsUptoCard

/-- THE SECOND FORM's CARD OF 'laws.FnIncludeDir'. -/
def fnIncludeDirUptoCard : Claim7 := { stood := { row := fnIncludeDirUptoRow, standIns := [], harness := (true, "e6e5a0925e6b1c4dd951fd8db28655361a39016227e909c7b00929af79624189"), looks := true }, kinds := [], alts := [], laidByText := true, laidKinds := [.data, .data, .sentinel, .data, .pinned], laidTests := true, laidLooks := .later }
def FnIncludeDirUptoCardSaid : Prop := Claim7.holds Tryz.pinned (.plain (OpenSpec.upto fnIncludeDirSpec)) fnIncludeDirUptoCard

/-- THE SECOND FORM's CARD OF 'laws.FnWrongArgs'. -/
def fnWrongArgsUptoCard : Claim7 := { stood := { row := fnWrongArgsUptoRow, standIns := [], harness := (true, "e6e5a0925e6b1c4dd951fd8db28655361a39016227e909c7b00929af79624189"), looks := true }, kinds := [], alts := [], laidByText := true, laidKinds := [.data, .data, .sentinel, .data, .pinned], laidTests := true, laidLooks := .later }
def FnWrongArgsUptoCardSaid : Prop := Claim7.holds Tryz.pinned (.plain (OpenSpec.upto fnWrongArgsSpec)) fnWrongArgsUptoCard

/-- THE SECOND FORM's CARD OF 'laws.FnWrongEnd'. -/
def fnWrongEndUptoCard : Claim7 := { stood := { row := fnWrongEndUptoRow, standIns := [], harness := (true, "e6e5a0925e6b1c4dd951fd8db28655361a39016227e909c7b00929af79624189"), looks := true }, kinds := [], alts := [], laidByText := true, laidKinds := [.data, .data, .sentinel, .data, .pinned], laidTests := true, laidLooks := .later }
def FnWrongEndUptoCardSaid : Prop := Claim7.holds Tryz.pinned (.plain (OpenSpec.upto fnWrongEndSpec)) fnWrongEndUptoCard

/-- THE SECOND FORM's CARD OF 'laws.FnWrongFile'. -/
def fnWrongFileUptoCard : Claim7 := { stood := { row := fnWrongFileUptoRow, standIns := [], harness := (true, "e6e5a0925e6b1c4dd951fd8db28655361a39016227e909c7b00929af79624189"), looks := true }, kinds := [], alts := [], laidByText := true, laidKinds := [.data, .data, .sentinel, .data, .pinned], laidTests := true, laidLooks := .later }
def FnWrongFileUptoCardSaid : Prop := Claim7.holds Tryz.pinned (.plain (OpenSpec.upto fnWrongFileSpec)) fnWrongFileUptoCard

/-- THE SECOND FORM's CARD OF 'laws.FnWrongPlace'. -/
def fnWrongPlaceUptoCard : Claim7 := { stood := { row := fnWrongPlaceUptoRow, standIns := [], harness := (true, "e6e5a0925e6b1c4dd951fd8db28655361a39016227e909c7b00929af79624189"), looks := true }, kinds := [], alts := [], laidByText := true, laidKinds := [.data, .data, .sentinel, .data, .pinned], laidTests := true, laidLooks := .later }
def FnWrongPlaceUptoCardSaid : Prop := Claim7.holds Tryz.pinned (.plain (OpenSpec.upto fnWrongPlaceSpec)) fnWrongPlaceUptoCard

/-- THE SECOND FORM's CARD OF 'laws.FnWrongTwice'. -/
def fnWrongTwiceUptoCard : Claim7 := { stood := { row := fnWrongTwiceUptoRow, standIns := [], harness := (true, "e6e5a0925e6b1c4dd951fd8db28655361a39016227e909c7b00929af79624189"), looks := true }, kinds := [], alts := [], laidByText := true, laidKinds := [.data, .data, .sentinel, .data, .pinned], laidTests := true, laidLooks := .later }
def FnWrongTwiceUptoCardSaid : Prop := Claim7.holds Tryz.pinned (.plain (OpenSpec.upto fnWrongTwiceSpec)) fnWrongTwiceUptoCard
end Rows
end Go.Proofs.YtpoimmpdncickaaGreatDoor

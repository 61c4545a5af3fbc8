/-
  DERIVED. GIVEN WITH THE SEED: THE CARDS: each row of YtmkehbjpnajilaaGreatDoorRows.lean that lists a variable, with what it lists TIED to the program's text (the seventh form; the later family's looks); each row that meets fmt, with fmt's text TOLD by the authors' own Lean function (tested against real Go, not proved from fmt's source: count such statements apart). THE CARD IS WHAT COUNTS. Prove the row's statement (the work); the ties are given (YtmkehbjpnajilaaGreatDoorTie.lean); close each card by the builder's one call (the guide's Derived/Test/ToyasCard.lean, 'card_holds'). Laid BY PROGRAM, IN A SANDBOX (cutbox-door.mjs). By AI agents, Wed Nov 11 2026. No macro, syntax, notation, axiom, sorry.
-/
import Derived.Test.YtmkehbjpnajilaaGreatDoorRows
import GoSem.ClaimSeven
namespace Go.Proofs.YtmkehbjpnajilaaGreatDoor
namespace Rows

/-- THE TIED CARD OF 'laws.FnUndef'. -/
def fnUndefCard : Claim7 := { stood := { row := fnUndefRow, standIns := [], harness := (true, "ec660be4f0fc725f5995219abe6b4f093bb52c0f299611835aba6083943046b4"), looks := true }, kinds := [], alts := [], laidByText := true, laidKinds := [.data, .data, .sentinel, .data], laidTests := true, laidLooks := .later }
def FnUndefCardSaid : Prop := Claim7.holds Tryz.pinned (.plain (OpenSpec.ofChange fnUndefSpec)) fnUndefCard

/-- THE TIED CARD OF 'laws.FnIfNothing'. -/
def fnIfNothingCard : Claim7 := { stood := { row := fnIfNothingRow, standIns := [], harness := (true, "ec660be4f0fc725f5995219abe6b4f093bb52c0f299611835aba6083943046b4"), looks := true }, kinds := [], alts := [], laidByText := true, laidKinds := [.data, .data, .sentinel, .data], laidTests := true, laidLooks := .later }
def FnIfNothingCardSaid : Prop := Claim7.holds Tryz.pinned (.plain (OpenSpec.ofChange fnIfNothingSpec)) fnIfNothingCard

/-- THE TIED CARD OF 'laws.FnExpandPlain'. -/
def fnExpandPlainCard : Claim7 := { stood := { row := fnExpandPlainRow, standIns := [], harness := (true, "ec660be4f0fc725f5995219abe6b4f093bb52c0f299611835aba6083943046b4"), looks := true }, kinds := [], alts := [], laidByText := true, laidKinds := [.data, .data, .sentinel], laidTests := true, laidLooks := .later }
def FnExpandPlainCardSaid : Prop := Claim7.holds Tryz.pinned (.plain (OpenSpec.ofChange fnExpandPlainSpec)) fnExpandPlainCard

/-- THE TIED CARD OF 'laws.FnLines'. -/
def fnLinesCard : Claim7 := { stood := { row := fnLinesRow, standIns := [], harness := (true, "ec660be4f0fc725f5995219abe6b4f093bb52c0f299611835aba6083943046b4"), looks := true }, kinds := [], alts := [], laidByText := true, laidKinds := [.data, .data, .sentinel], laidTests := true, laidLooks := .later }
def FnLinesCardSaid : Prop := Claim7.holds Tryz.pinned (.plain (OpenSpec.ofChange fnLinesSpec)) fnLinesCard

/-- THE TIED CARD OF 'laws.FnDefineFirst'. -/
def fnDefineFirstCard : Claim7 := { stood := { row := fnDefineFirstRow, standIns := [], harness := (true, "ec660be4f0fc725f5995219abe6b4f093bb52c0f299611835aba6083943046b4"), looks := true }, kinds := [], alts := [], laidByText := true, laidKinds := [.data, .data, .sentinel, .data, .pinned], laidTests := true, laidLooks := .later }
def FnDefineFirstCardSaid : Prop := Claim7.holds Tryz.pinned (.plain (OpenSpec.ofChange fnDefineFirstSpec)) fnDefineFirstCard

/-- THE TIED CARD OF 'laws.FnDefineOne'. -/
def fnDefineOneCard : Claim7 := { stood := { row := fnDefineOneRow, standIns := [], harness := (true, "ec660be4f0fc725f5995219abe6b4f093bb52c0f299611835aba6083943046b4"), looks := true }, kinds := [], alts := [], laidByText := true, laidKinds := [.data, .data, .sentinel, .data, .pinned], laidTests := true, laidLooks := .later }
def FnDefineOneCardSaid : Prop := Claim7.holds Tryz.pinned (.plain (OpenSpec.ofChange fnDefineOneSpec)) fnDefineOneCard

/-- THE TIED CARD OF 'laws.FnIf'. -/
def fnIfCard : Claim7 := { stood := { row := fnIfRow, standIns := [], harness := (true, "ec660be4f0fc725f5995219abe6b4f093bb52c0f299611835aba6083943046b4"), looks := true }, kinds := [], alts := [], laidByText := true, laidKinds := [.data, .data, .sentinel, .data, .pinned], laidTests := true, laidLooks := .later }
def FnIfCardSaid : Prop := Claim7.holds Tryz.pinned (.plain (OpenSpec.ofChange fnIfSpec)) fnIfCard

/-- THE TIED CARD OF 'laws.FnInclude'. -/
def fnIncludeCard : Claim7 := { stood := { row := fnIncludeRow, standIns := [], harness := (true, "ec660be4f0fc725f5995219abe6b4f093bb52c0f299611835aba6083943046b4"), looks := true }, kinds := [], alts := [], laidByText := true, laidKinds := [.data, .data, .sentinel, .data], laidTests := true, laidLooks := .later }
def FnIncludeCardSaid : Prop := Claim7.holds Tryz.pinned (.plain (OpenSpec.ofChange fnIncludeSpec)) fnIncludeCard

/-- THE TIED CARD OF 'laws.FnIncludeDir'. -/
def fnIncludeDirCard : Claim7 := { stood := { row := fnIncludeDirRow, standIns := [], harness := (true, "ec660be4f0fc725f5995219abe6b4f093bb52c0f299611835aba6083943046b4"), looks := true }, kinds := [], alts := [], laidByText := true, laidKinds := [.data, .data, .sentinel, .data, .pinned], laidTests := true, laidLooks := .later }
def FnIncludeDirCardSaid : Prop := Claim7.holds Tryz.pinned (.plain (OpenSpec.ofChange fnIncludeDirSpec)) fnIncludeDirCard

/-- THE SECOND FORM's CARD OF 'laws.FnUndef'. -/
def fnUndefUptoCard : Claim7 := { stood := { row := fnUndefUptoRow, standIns := [], harness := (true, "ec660be4f0fc725f5995219abe6b4f093bb52c0f299611835aba6083943046b4"), looks := true }, kinds := [], alts := [], laidByText := true, laidKinds := [.data, .data, .sentinel, .data], laidTests := true, laidLooks := .later }
def FnUndefUptoCardSaid : Prop := Claim7.holds Tryz.pinned (.plain (OpenSpec.upto fnUndefSpec)) fnUndefUptoCard

/-- THE SECOND FORM's CARD OF 'laws.FnIfNothing'. -/
def fnIfNothingUptoCard : Claim7 := { stood := { row := fnIfNothingUptoRow, standIns := [], harness := (true, "ec660be4f0fc725f5995219abe6b4f093bb52c0f299611835aba6083943046b4"), looks := true }, kinds := [], alts := [], laidByText := true, laidKinds := [.data, .data, .sentinel, .data], laidTests := true, laidLooks := .later }
def FnIfNothingUptoCardSaid : Prop := Claim7.holds Tryz.pinned (.plain (OpenSpec.upto fnIfNothingSpec)) fnIfNothingUptoCard

/-- THE SECOND FORM's CARD OF 'laws.FnExpandPlain'. -/
def fnExpandPlainUptoCard : Claim7 := { stood := { row := fnExpandPlainUptoRow, standIns := [], harness := (true, "ec660be4f0fc725f5995219abe6b4f093bb52c0f299611835aba6083943046b4"), looks := true }, kinds := [], alts := [], laidByText := true, laidKinds := [.data, .data, .sentinel], laidTests := true, laidLooks := .later }
def FnExpandPlainUptoCardSaid : Prop := Claim7.holds Tryz.pinned (.plain (OpenSpec.upto fnExpandPlainSpec)) fnExpandPlainUptoCard

/-- THE SECOND FORM's CARD OF 'laws.FnLines'. -/
def fnLinesUptoCard : Claim7 := { stood := { row := fnLinesUptoRow, standIns := [], harness := (true, "ec660be4f0fc725f5995219abe6b4f093bb52c0f299611835aba6083943046b4"), looks := true }, kinds := [], alts := [], laidByText := true, laidKinds := [.data, .data, .sentinel], laidTests := true, laidLooks := .later }
def FnLinesUptoCardSaid : Prop := Claim7.holds Tryz.pinned (.plain (OpenSpec.upto fnLinesSpec)) fnLinesUptoCard

/-- THE SECOND FORM's CARD OF 'laws.FnDefineFirst'. -/
def fnDefineFirstUptoCard : Claim7 := { stood := { row := fnDefineFirstUptoRow, standIns := [], harness := (true, "ec660be4f0fc725f5995219abe6b4f093bb52c0f299611835aba6083943046b4"), looks := true }, kinds := [], alts := [], laidByText := true, laidKinds := [.data, .data, .sentinel, .data, .pinned], laidTests := true, laidLooks := .later }
def FnDefineFirstUptoCardSaid : Prop := Claim7.holds Tryz.pinned (.plain (OpenSpec.upto fnDefineFirstSpec)) fnDefineFirstUptoCard

/-- THE SECOND FORM's CARD OF 'laws.FnDefineOne'. -/
def fnDefineOneUptoCard : Claim7 := { stood := { row := fnDefineOneUptoRow, standIns := [], harness := (true, "ec660be4f0fc725f5995219abe6b4f093bb52c0f299611835aba6083943046b4"), looks := true }, kinds := [], alts := [], laidByText := true, laidKinds := [.data, .data, .sentinel, .data, .pinned], laidTests := true, laidLooks := .later }
def FnDefineOneUptoCardSaid : Prop := Claim7.holds Tryz.pinned (.plain (OpenSpec.upto fnDefineOneSpec)) fnDefineOneUptoCard

/-- THE SECOND FORM's CARD OF 'laws.FnIf'. -/
def fnIfUptoCard : Claim7 := { stood := { row := fnIfUptoRow, standIns := [], harness := (true, "ec660be4f0fc725f5995219abe6b4f093bb52c0f299611835aba6083943046b4"), looks := true }, kinds := [], alts := [], laidByText := true, laidKinds := [.data, .data, .sentinel, .data, .pinned], laidTests := true, laidLooks := .later }
def FnIfUptoCardSaid : Prop := Claim7.holds Tryz.pinned (.plain (OpenSpec.upto fnIfSpec)) fnIfUptoCard

/-- THE SECOND FORM's CARD OF 'laws.FnInclude'. -/
def fnIncludeUptoCard : Claim7 := { stood := { row := fnIncludeUptoRow, standIns := [], harness := (true, "ec660be4f0fc725f5995219abe6b4f093bb52c0f299611835aba6083943046b4"), looks := true }, kinds := [], alts := [], laidByText := true, laidKinds := [.data, .data, .sentinel, .data], laidTests := true, laidLooks := .later }
def FnIncludeUptoCardSaid : Prop := Claim7.holds Tryz.pinned (.plain (OpenSpec.upto fnIncludeSpec)) fnIncludeUptoCard

/-- THE SECOND FORM's CARD OF 'laws.FnIncludeDir'. -/
def fnIncludeDirUptoCard : Claim7 := { stood := { row := fnIncludeDirUptoRow, standIns := [], harness := (true, "ec660be4f0fc725f5995219abe6b4f093bb52c0f299611835aba6083943046b4"), looks := true }, kinds := [], alts := [], laidByText := true, laidKinds := [.data, .data, .sentinel, .data, .pinned], laidTests := true, laidLooks := .later }
def FnIncludeDirUptoCardSaid : Prop := Claim7.holds Tryz.pinned (.plain (OpenSpec.upto fnIncludeDirSpec)) fnIncludeDirUptoCard
end Rows
end Go.Proofs.YtmkehbjpnajilaaGreatDoor

/-
  DERIVED. GIVEN WITH THE SEED: THE CARDS: each row of YtpiapfahcoopbaaDoorRows.lean that lists a variable, with what it lists TIED to the program's text (the seventh form; the later family's looks); each row that meets fmt, with fmt's text TOLD by the authors' own Lean function (tested against real Go, not proved from fmt's source: count such statements apart). THE CARD IS WHAT COUNTS. Prove the row's statement (the work); the ties are given (YtpiapfahcoopbaaDoorTie.lean); close each card by the builder's one call (the guide's Derived/Test/ToyasCard.lean, 'card_holds'). Laid BY PROGRAM, IN A SANDBOX (cutbox-door.mjs). By AI agents, Wed Nov 11 2026. No macro, syntax, notation, axiom, sorry.
-/
import Derived.Test.YtpiapfahcoopbaaDoorRows
import GoSem.ClaimSeven
namespace Go.Proofs.YtpiapfahcoopbaaDoor
namespace Rows

/-- THE TIED CARD OF 'laws.FnRead'. -/
def fnReadCard : Claim7 := { stood := { row := fnReadRow, standIns := [], harness := (true, "ec098924a1b8333c21478714b217e4f8c8f9a0b869f5f9fdd95e3071030ce052"), looks := true }, kinds := [], alts := [], laidByText := true, laidKinds := [.sentinel, .sentinel], laidTests := true, laidLooks := .later }
def FnReadCardSaid : Prop := Claim7.holds Tryd.pinned (.plain (OpenSpec.ofChange fnReadSpec)) fnReadCard

/-- THE TIED CARD OF 'laws.FnParam'. -/
def fnParamCard : Claim7 := { stood := { row := fnParamRow, standIns := [], harness := (true, "ec098924a1b8333c21478714b217e4f8c8f9a0b869f5f9fdd95e3071030ce052"), looks := true }, kinds := [], alts := [], laidByText := true, laidKinds := [.sentinel, .sentinel], laidTests := true, laidLooks := .later }
def FnParamCardSaid : Prop := Claim7.holds Tryd.pinned (.plain (OpenSpec.ofChange fnParamSpec)) fnParamCard

/-- THE TIED CARD OF 'laws.FnCodes'. -/
def fnCodesCard : Claim7 := { stood := { row := fnCodesRow, standIns := [], harness := (true, "ec098924a1b8333c21478714b217e4f8c8f9a0b869f5f9fdd95e3071030ce052"), looks := true }, kinds := [], alts := [], laidByText := true, laidKinds := [.sentinel], laidTests := true, laidLooks := .later }
def FnCodesCardSaid : Prop := Claim7.holds Tryd.pinned (.plain (OpenSpec.ofChange fnCodesSpec)) fnCodesCard

/-- THE TIED CARD OF 'laws.FnSymbols'. -/
def fnSymbolsCard : Claim7 := { stood := { row := fnSymbolsRow, standIns := [], harness := (true, "ec098924a1b8333c21478714b217e4f8c8f9a0b869f5f9fdd95e3071030ce052"), looks := true }, kinds := [], alts := [], laidByText := true, laidKinds := [.sentinel, .sentinel, .sentinel, .data], laidTests := true, laidLooks := .later }
def FnSymbolsCardSaid : Prop := Claim7.holds Tryd.pinned (.plain (OpenSpec.ofChange fnSymbolsSpec)) fnSymbolsCard

/-- THE TIED CARD OF 'laws.FnSymbolsRefused'. -/
def fnSymbolsRefusedCard : Claim7 := { stood := { row := fnSymbolsRefusedRow, standIns := [], harness := (true, "ec098924a1b8333c21478714b217e4f8c8f9a0b869f5f9fdd95e3071030ce052"), looks := true }, kinds := [], alts := [], laidByText := true, laidKinds := [.sentinel, .sentinel, .sentinel, .data], laidTests := true, laidLooks := .later }
def FnSymbolsRefusedCardSaid : Prop := Claim7.holds Tryd.pinned (.plain (OpenSpec.ofChange fnSymbolsRefusedSpec)) fnSymbolsRefusedCard

/-- THE TIED CARD OF 'laws.FnPrefixWritten'. -/
def fnPrefixWrittenCard : Claim7 := { stood := { row := fnPrefixWrittenRow, standIns := [], harness := (true, "ec098924a1b8333c21478714b217e4f8c8f9a0b869f5f9fdd95e3071030ce052"), looks := true }, kinds := [], alts := [], laidByText := true, laidKinds := [.sentinel, .sentinel, .sentinel, .sentinel, .data, .data, .data, .data], laidTests := true, laidLooks := .later }
def FnPrefixWrittenCardSaid : Prop := Claim7.holds Tryd.pinned (.plain (OpenSpec.ofChange fnPrefixWrittenSpec)) fnPrefixWrittenCard

/-- THE SECOND FORM's CARD OF 'laws.FnRead'. -/
def fnReadUptoCard : Claim7 := { stood := { row := fnReadUptoRow, standIns := [], harness := (true, "ec098924a1b8333c21478714b217e4f8c8f9a0b869f5f9fdd95e3071030ce052"), looks := true }, kinds := [], alts := [], laidByText := true, laidKinds := [.sentinel, .sentinel], laidTests := true, laidLooks := .later }
def FnReadUptoCardSaid : Prop := Claim7.holds Tryd.pinned (.plain (OpenSpec.upto fnReadSpec)) fnReadUptoCard

/-- THE SECOND FORM's CARD OF 'laws.FnParam'. -/
def fnParamUptoCard : Claim7 := { stood := { row := fnParamUptoRow, standIns := [], harness := (true, "ec098924a1b8333c21478714b217e4f8c8f9a0b869f5f9fdd95e3071030ce052"), looks := true }, kinds := [], alts := [], laidByText := true, laidKinds := [.sentinel, .sentinel], laidTests := true, laidLooks := .later }
def FnParamUptoCardSaid : Prop := Claim7.holds Tryd.pinned (.plain (OpenSpec.upto fnParamSpec)) fnParamUptoCard

/-- THE SECOND FORM's CARD OF 'laws.FnCodes'. -/
def fnCodesUptoCard : Claim7 := { stood := { row := fnCodesUptoRow, standIns := [], harness := (true, "ec098924a1b8333c21478714b217e4f8c8f9a0b869f5f9fdd95e3071030ce052"), looks := true }, kinds := [], alts := [], laidByText := true, laidKinds := [.sentinel], laidTests := true, laidLooks := .later }
def FnCodesUptoCardSaid : Prop := Claim7.holds Tryd.pinned (.plain (OpenSpec.upto fnCodesSpec)) fnCodesUptoCard

/-- THE SECOND FORM's CARD OF 'laws.FnSymbols'. -/
def fnSymbolsUptoCard : Claim7 := { stood := { row := fnSymbolsUptoRow, standIns := [], harness := (true, "ec098924a1b8333c21478714b217e4f8c8f9a0b869f5f9fdd95e3071030ce052"), looks := true }, kinds := [], alts := [], laidByText := true, laidKinds := [.sentinel, .sentinel, .sentinel, .data], laidTests := true, laidLooks := .later }
def FnSymbolsUptoCardSaid : Prop := Claim7.holds Tryd.pinned (.plain (OpenSpec.upto fnSymbolsSpec)) fnSymbolsUptoCard

/-- THE SECOND FORM's CARD OF 'laws.FnSymbolsRefused'. -/
def fnSymbolsRefusedUptoCard : Claim7 := { stood := { row := fnSymbolsRefusedUptoRow, standIns := [], harness := (true, "ec098924a1b8333c21478714b217e4f8c8f9a0b869f5f9fdd95e3071030ce052"), looks := true }, kinds := [], alts := [], laidByText := true, laidKinds := [.sentinel, .sentinel, .sentinel, .data], laidTests := true, laidLooks := .later }
def FnSymbolsRefusedUptoCardSaid : Prop := Claim7.holds Tryd.pinned (.plain (OpenSpec.upto fnSymbolsRefusedSpec)) fnSymbolsRefusedUptoCard

/-- THE SECOND FORM's CARD OF 'laws.FnPrefixWritten'. -/
def fnPrefixWrittenUptoCard : Claim7 := { stood := { row := fnPrefixWrittenUptoRow, standIns := [], harness := (true, "ec098924a1b8333c21478714b217e4f8c8f9a0b869f5f9fdd95e3071030ce052"), looks := true }, kinds := [], alts := [], laidByText := true, laidKinds := [.sentinel, .sentinel, .sentinel, .sentinel, .data, .data, .data, .data], laidTests := true, laidLooks := .later }
def FnPrefixWrittenUptoCardSaid : Prop := Claim7.holds Tryd.pinned (.plain (OpenSpec.upto fnPrefixWrittenSpec)) fnPrefixWrittenUptoCard
end Rows
end Go.Proofs.YtpiapfahcoopbaaDoor

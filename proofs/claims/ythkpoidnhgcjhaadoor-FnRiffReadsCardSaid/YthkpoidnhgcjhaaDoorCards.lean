/-
  DERIVED. GIVEN WITH THE SEED: THE CARDS: each row of YthkpoidnhgcjhaaDoorRows.lean that lists a variable, with what it lists TIED to the program's text (the seventh form; the later family's looks); each row that meets fmt, with fmt's text TOLD by the authors' own Lean function (tested against real Go, not proved from fmt's source: count such statements apart). THE CARD IS WHAT COUNTS. Prove the row's statement (the work); the ties are given (YthkpoidnhgcjhaaDoorTie.lean); close each card by the builder's one call (the guide's Derived/Test/ToyasCard.lean, 'card_holds'). Laid BY PROGRAM, IN A SANDBOX (cutbox-door.mjs). By AI agents, Wed Nov 11 2026. No macro, syntax, notation, axiom, sorry.
-/
import Derived.Test.YthkpoidnhgcjhaaDoorRows
import GoSem.ClaimSeven
namespace Go.Proofs.YthkpoidnhgcjhaaDoor
namespace Rows

/-- THE TIED CARD OF 'laws.FnRiffBehind'. -/
def fnRiffBehindCard : Claim7 := { stood := { row := fnRiffBehindRow, standIns := [], harness := (true, "25a20b91503fd1c269d0c7db520df06145a743c42abfcd63b33b9e62bbe77dcf"), looks := true }, kinds := [], alts := [], laidByText := true, laidKinds := [.sentinel, .sentinel, .sentinel, .sentinel, .sentinel, .sentinel, .sentinel, .sentinel, .sentinel, .sentinel], laidTests := true, laidLooks := .later }
def FnRiffBehindCardSaid : Prop := Claim7.holds Tryd.pinned (.plain (OpenSpec.ofChange fnRiffBehindSpec)) fnRiffBehindCard

/-- THE TIED CARD OF 'laws.FnRiffLists'. -/
def fnRiffListsCard : Claim7 := { stood := { row := fnRiffListsRow, standIns := [], harness := (true, "25a20b91503fd1c269d0c7db520df06145a743c42abfcd63b33b9e62bbe77dcf"), looks := true }, kinds := [], alts := [], laidByText := true, laidKinds := [.sentinel, .sentinel, .sentinel, .sentinel, .sentinel, .sentinel, .sentinel, .sentinel, .sentinel, .sentinel], laidTests := true, laidLooks := .later }
def FnRiffListsCardSaid : Prop := Claim7.holds Tryd.pinned (.plain (OpenSpec.ofChange fnRiffListsSpec)) fnRiffListsCard

/-- THE TIED CARD OF 'laws.FnRiffReads'. -/
def fnRiffReadsCard : Claim7 := { stood := { row := fnRiffReadsRow, standIns := [], harness := (true, "25a20b91503fd1c269d0c7db520df06145a743c42abfcd63b33b9e62bbe77dcf"), looks := true }, kinds := [], alts := [], laidByText := true, laidKinds := [.sentinel, .sentinel, .sentinel, .sentinel, .sentinel, .sentinel, .sentinel, .sentinel, .sentinel, .sentinel], laidTests := true, laidLooks := .later }
def FnRiffReadsCardSaid : Prop := Claim7.holds Tryd.pinned (.plain (OpenSpec.ofChange fnRiffReadsSpec)) fnRiffReadsCard

/-- THE TIED CARD OF 'laws.FnRiffWritten'. -/
def fnRiffWrittenCard : Claim7 := { stood := { row := fnRiffWrittenRow, standIns := [], harness := (true, "25a20b91503fd1c269d0c7db520df06145a743c42abfcd63b33b9e62bbe77dcf"), looks := true }, kinds := [], alts := [], laidByText := true, laidKinds := [.sentinel, .sentinel, .sentinel, .sentinel, .sentinel, .sentinel, .sentinel, .sentinel, .sentinel, .sentinel], laidTests := true, laidLooks := .later }
def FnRiffWrittenCardSaid : Prop := Claim7.holds Tryd.pinned (.plain (OpenSpec.ofChange fnRiffWrittenSpec)) fnRiffWrittenCard

/-- THE SECOND FORM's CARD OF 'laws.FnRiffBehind'. -/
def fnRiffBehindUptoCard : Claim7 := { stood := { row := fnRiffBehindUptoRow, standIns := [], harness := (true, "25a20b91503fd1c269d0c7db520df06145a743c42abfcd63b33b9e62bbe77dcf"), looks := true }, kinds := [], alts := [], laidByText := true, laidKinds := [.sentinel, .sentinel, .sentinel, .sentinel, .sentinel, .sentinel, .sentinel, .sentinel, .sentinel, .sentinel], laidTests := true, laidLooks := .later }
def FnRiffBehindUptoCardSaid : Prop := Claim7.holds Tryd.pinned (.plain (OpenSpec.upto fnRiffBehindSpec)) fnRiffBehindUptoCard

/-- THE SECOND FORM's CARD OF 'laws.FnRiffLists'. -/
def fnRiffListsUptoCard : Claim7 := { stood := { row := fnRiffListsUptoRow, standIns := [], harness := (true, "25a20b91503fd1c269d0c7db520df06145a743c42abfcd63b33b9e62bbe77dcf"), looks := true }, kinds := [], alts := [], laidByText := true, laidKinds := [.sentinel, .sentinel, .sentinel, .sentinel, .sentinel, .sentinel, .sentinel, .sentinel, .sentinel, .sentinel], laidTests := true, laidLooks := .later }
def FnRiffListsUptoCardSaid : Prop := Claim7.holds Tryd.pinned (.plain (OpenSpec.upto fnRiffListsSpec)) fnRiffListsUptoCard

/-- THE SECOND FORM's CARD OF 'laws.FnRiffReads'. -/
def fnRiffReadsUptoCard : Claim7 := { stood := { row := fnRiffReadsUptoRow, standIns := [], harness := (true, "25a20b91503fd1c269d0c7db520df06145a743c42abfcd63b33b9e62bbe77dcf"), looks := true }, kinds := [], alts := [], laidByText := true, laidKinds := [.sentinel, .sentinel, .sentinel, .sentinel, .sentinel, .sentinel, .sentinel, .sentinel, .sentinel, .sentinel], laidTests := true, laidLooks := .later }
def FnRiffReadsUptoCardSaid : Prop := Claim7.holds Tryd.pinned (.plain (OpenSpec.upto fnRiffReadsSpec)) fnRiffReadsUptoCard

/-- THE SECOND FORM's CARD OF 'laws.FnRiffWritten'. -/
def fnRiffWrittenUptoCard : Claim7 := { stood := { row := fnRiffWrittenUptoRow, standIns := [], harness := (true, "25a20b91503fd1c269d0c7db520df06145a743c42abfcd63b33b9e62bbe77dcf"), looks := true }, kinds := [], alts := [], laidByText := true, laidKinds := [.sentinel, .sentinel, .sentinel, .sentinel, .sentinel, .sentinel, .sentinel, .sentinel, .sentinel, .sentinel], laidTests := true, laidLooks := .later }
def FnRiffWrittenUptoCardSaid : Prop := Claim7.holds Tryd.pinned (.plain (OpenSpec.upto fnRiffWrittenSpec)) fnRiffWrittenUptoCard
end Rows
end Go.Proofs.YthkpoidnhgcjhaaDoor

/-
  DERIVED. GIVEN WITH THE SEED: THE CARDS: each row of YthbidebcljegjaaDoorRows.lean that lists a variable, with what it lists TIED to the program's text (the seventh form; the later family's looks); each row that meets fmt, with fmt's text TOLD by the authors' own Lean function (tested against real Go, not proved from fmt's source: count such statements apart). THE CARD IS WHAT COUNTS. Prove the row's statement (the work); the ties are given (YthbidebcljegjaaDoorTie.lean); close each card by the builder's one call (the guide's Derived/Test/ToyasCard.lean, 'card_holds'). Laid BY PROGRAM, IN A SANDBOX (cutbox-door.mjs). By AI agents, Wed Nov 11 2026. No macro, syntax, notation, axiom, sorry.
-/
import Derived.Test.YthbidebcljegjaaDoorRows
import GoSem.ClaimSeven
namespace Go.Proofs.YthbidebcljegjaaDoor
namespace Rows

/-- THE TIED CARD OF 'laws.FnLiteralsWritten'. -/
def fnLiteralsWrittenCard : Claim7 := { stood := { row := fnLiteralsWrittenRow, standIns := [], harness := (true, "5d066b052db5c74bb136a346da2f2b0e3fea73dbf81a02552b9a28e793813893"), looks := false }, kinds := [], alts := [], laidByText := true, laidKinds := [.data, .data], laidTests := true, laidLooks := .later }
def FnLiteralsWrittenCardSaid : Prop := Claim7.holds Tryd.pinned (.plain (OpenSpec.ofChange fnLiteralsWrittenSpec)) fnLiteralsWrittenCard

/-- THE TIED CARD OF 'laws.FnInverseSecond'. -/
def fnInverseSecondCard : Claim7 := { stood := { row := fnInverseSecondRow, standIns := [], harness := (true, "5d066b052db5c74bb136a346da2f2b0e3fea73dbf81a02552b9a28e793813893"), looks := false }, kinds := [], alts := [], laidByText := true, laidKinds := [.data, .data], laidTests := true, laidLooks := .later }
def FnInverseSecondCardSaid : Prop := Claim7.holds Tryd.pinned (.plain (OpenSpec.ofChange fnInverseSecondSpec)) fnInverseSecondCard

/-- THE TIED CARD OF 'laws.FnFilterSimple'. -/
def fnFilterSimpleCard : Claim7 := { stood := { row := fnFilterSimpleRow, standIns := [], harness := (true, "5d066b052db5c74bb136a346da2f2b0e3fea73dbf81a02552b9a28e793813893"), looks := false }, kinds := [], alts := [], laidByText := true, laidKinds := [.data, .data], laidTests := true, laidLooks := .later }
def FnFilterSimpleCardSaid : Prop := Claim7.holds Tryd.pinned (.plain (OpenSpec.ofChange fnFilterSimpleSpec)) fnFilterSimpleCard

/-- THE TIED CARD OF 'laws.FnSegmentsWritten'. -/
def fnSegmentsWrittenCard : Claim7 := { stood := { row := fnSegmentsWrittenRow, standIns := [], harness := (true, "5d066b052db5c74bb136a346da2f2b0e3fea73dbf81a02552b9a28e793813893"), looks := false }, kinds := [], alts := [], laidByText := true, laidKinds := [.data, .data], laidTests := true, laidLooks := .later }
def FnSegmentsWrittenCardSaid : Prop := Claim7.holds Tryd.pinned (.plain (OpenSpec.ofChange fnSegmentsWrittenSpec)) fnSegmentsWrittenCard

/-- THE TIED CARD OF 'laws.FnInverse'. -/
def fnInverseCard : Claim7 := { stood := { row := fnInverseRow, standIns := [], harness := (true, "5d066b052db5c74bb136a346da2f2b0e3fea73dbf81a02552b9a28e793813893"), looks := false }, kinds := [], alts := [], laidByText := true, laidKinds := [.data, .data], laidTests := true, laidLooks := .later }
def FnInverseCardSaid : Prop := Claim7.holds Tryd.pinned (.plain (OpenSpec.ofChange fnInverseSpec)) fnInverseCard

/-- THE TIED CARD OF 'laws.FnFilterReach'. -/
def fnFilterReachCard : Claim7 := { stood := { row := fnFilterReachRow, standIns := [], harness := (true, "5d066b052db5c74bb136a346da2f2b0e3fea73dbf81a02552b9a28e793813893"), looks := false }, kinds := [], alts := [], laidByText := true, laidKinds := [.data, .data], laidTests := true, laidLooks := .later }
def FnFilterReachCardSaid : Prop := Claim7.holds Tryd.pinned (.plain (OpenSpec.ofChange fnFilterReachSpec)) fnFilterReachCard

/-- THE SECOND FORM's CARD OF 'laws.FnLiteralsWritten'. -/
def fnLiteralsWrittenUptoCard : Claim7 := { stood := { row := fnLiteralsWrittenUptoRow, standIns := [], harness := (true, "5d066b052db5c74bb136a346da2f2b0e3fea73dbf81a02552b9a28e793813893"), looks := false }, kinds := [], alts := [], laidByText := true, laidKinds := [.data, .data], laidTests := true, laidLooks := .later }
def FnLiteralsWrittenUptoCardSaid : Prop := Claim7.holds Tryd.pinned (.plain (OpenSpec.upto fnLiteralsWrittenSpec)) fnLiteralsWrittenUptoCard

/-- THE SECOND FORM's CARD OF 'laws.FnInverseSecond'. -/
def fnInverseSecondUptoCard : Claim7 := { stood := { row := fnInverseSecondUptoRow, standIns := [], harness := (true, "5d066b052db5c74bb136a346da2f2b0e3fea73dbf81a02552b9a28e793813893"), looks := false }, kinds := [], alts := [], laidByText := true, laidKinds := [.data, .data], laidTests := true, laidLooks := .later }
def FnInverseSecondUptoCardSaid : Prop := Claim7.holds Tryd.pinned (.plain (OpenSpec.upto fnInverseSecondSpec)) fnInverseSecondUptoCard

/-- THE SECOND FORM's CARD OF 'laws.FnFilterSimple'. -/
def fnFilterSimpleUptoCard : Claim7 := { stood := { row := fnFilterSimpleUptoRow, standIns := [], harness := (true, "5d066b052db5c74bb136a346da2f2b0e3fea73dbf81a02552b9a28e793813893"), looks := false }, kinds := [], alts := [], laidByText := true, laidKinds := [.data, .data], laidTests := true, laidLooks := .later }
def FnFilterSimpleUptoCardSaid : Prop := Claim7.holds Tryd.pinned (.plain (OpenSpec.upto fnFilterSimpleSpec)) fnFilterSimpleUptoCard

/-- THE SECOND FORM's CARD OF 'laws.FnSegmentsWritten'. -/
def fnSegmentsWrittenUptoCard : Claim7 := { stood := { row := fnSegmentsWrittenUptoRow, standIns := [], harness := (true, "5d066b052db5c74bb136a346da2f2b0e3fea73dbf81a02552b9a28e793813893"), looks := false }, kinds := [], alts := [], laidByText := true, laidKinds := [.data, .data], laidTests := true, laidLooks := .later }
def FnSegmentsWrittenUptoCardSaid : Prop := Claim7.holds Tryd.pinned (.plain (OpenSpec.upto fnSegmentsWrittenSpec)) fnSegmentsWrittenUptoCard

/-- THE SECOND FORM's CARD OF 'laws.FnInverse'. -/
def fnInverseUptoCard : Claim7 := { stood := { row := fnInverseUptoRow, standIns := [], harness := (true, "5d066b052db5c74bb136a346da2f2b0e3fea73dbf81a02552b9a28e793813893"), looks := false }, kinds := [], alts := [], laidByText := true, laidKinds := [.data, .data], laidTests := true, laidLooks := .later }
def FnInverseUptoCardSaid : Prop := Claim7.holds Tryd.pinned (.plain (OpenSpec.upto fnInverseSpec)) fnInverseUptoCard

/-- THE SECOND FORM's CARD OF 'laws.FnFilterReach'. -/
def fnFilterReachUptoCard : Claim7 := { stood := { row := fnFilterReachUptoRow, standIns := [], harness := (true, "5d066b052db5c74bb136a346da2f2b0e3fea73dbf81a02552b9a28e793813893"), looks := false }, kinds := [], alts := [], laidByText := true, laidKinds := [.data, .data], laidTests := true, laidLooks := .later }
def FnFilterReachUptoCardSaid : Prop := Claim7.holds Tryd.pinned (.plain (OpenSpec.upto fnFilterReachSpec)) fnFilterReachUptoCard
end Rows
end Go.Proofs.YthbidebcljegjaaDoor

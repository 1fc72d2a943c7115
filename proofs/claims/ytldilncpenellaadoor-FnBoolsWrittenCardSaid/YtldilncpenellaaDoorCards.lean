/-
  DERIVED. GIVEN WITH THE SEED: THE CARDS: each row of YtldilncpenellaaDoorRows.lean that lists a variable, with what it lists TIED to the program's text (the seventh form; the later family's looks); each row that meets fmt, with fmt's text TOLD by the authors' own Lean function (tested against real Go, not proved from fmt's source: count such statements apart). THE CARD IS WHAT COUNTS. Prove the row's statement (the work); the ties are given (YtldilncpenellaaDoorTie.lean); close each card by the builder's one call (the guide's Derived/Test/ToyasCard.lean, 'card_holds'). Laid BY PROGRAM, IN A SANDBOX (cutbox-door.mjs). By AI agents, Wed Nov 11 2026. No macro, syntax, notation, axiom, sorry.
-/
import Derived.Test.YtldilncpenellaaDoorRows
import GoSem.ClaimSeven
namespace Go.Proofs.YtldilncpenellaaDoor
namespace Rows

/-- THE TIED CARD OF 'laws.FnNear'. -/
def fnNearCard : Claim7 := { stood := { row := fnNearRow, standIns := [], harness := (true, "d8aa6d2d09417f77895a52d6a112c87be9cdec6bc3ef1044ecaa5d965157de8b"), looks := false }, kinds := [], alts := [], laidByText := true, laidKinds := [.data], laidTests := true, laidLooks := .later }
def FnNearCardSaid : Prop := Claim7.holds Tryd.pinned (.plain (OpenSpec.ofChange fnNearSpec)) fnNearCard

/-- THE TIED CARD OF 'laws.FnBoolsWritten'. -/
def fnBoolsWrittenCard : Claim7 := { stood := { row := fnBoolsWrittenRow, standIns := [], harness := (true, "d8aa6d2d09417f77895a52d6a112c87be9cdec6bc3ef1044ecaa5d965157de8b"), looks := false }, kinds := [], alts := [], laidByText := true, laidKinds := [.data, .data], laidTests := true, laidLooks := .later }
def FnBoolsWrittenCardSaid : Prop := Claim7.holds Tryd.pinned (.plain (OpenSpec.ofChange fnBoolsWrittenSpec)) fnBoolsWrittenCard

/-- THE SECOND FORM's CARD OF 'laws.FnNear'. -/
def fnNearUptoCard : Claim7 := { stood := { row := fnNearUptoRow, standIns := [], harness := (true, "d8aa6d2d09417f77895a52d6a112c87be9cdec6bc3ef1044ecaa5d965157de8b"), looks := false }, kinds := [], alts := [], laidByText := true, laidKinds := [.data], laidTests := true, laidLooks := .later }
def FnNearUptoCardSaid : Prop := Claim7.holds Tryd.pinned (.plain (OpenSpec.upto fnNearSpec)) fnNearUptoCard

/-- THE SECOND FORM's CARD OF 'laws.FnBoolsWritten'. -/
def fnBoolsWrittenUptoCard : Claim7 := { stood := { row := fnBoolsWrittenUptoRow, standIns := [], harness := (true, "d8aa6d2d09417f77895a52d6a112c87be9cdec6bc3ef1044ecaa5d965157de8b"), looks := false }, kinds := [], alts := [], laidByText := true, laidKinds := [.data, .data], laidTests := true, laidLooks := .later }
def FnBoolsWrittenUptoCardSaid : Prop := Claim7.holds Tryd.pinned (.plain (OpenSpec.upto fnBoolsWrittenSpec)) fnBoolsWrittenUptoCard
end Rows
end Go.Proofs.YtldilncpenellaaDoor

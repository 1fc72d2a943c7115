/-
  DERIVED. GIVEN WITH THE SEED: THE CARDS: each row of YtleiehiabcgalaaDoorRows.lean that lists a variable, with what it lists TIED to the program's text (the seventh form; the later family's looks); each row that meets fmt, with fmt's text TOLD by the authors' own Lean function (tested against real Go, not proved from fmt's source: count such statements apart). THE CARD IS WHAT COUNTS. Prove the row's statement (the work); the ties are given (YtleiehiabcgalaaDoorTie.lean); close each card by the builder's one call (the guide's Derived/Test/ToyasCard.lean, 'card_holds'). Laid BY PROGRAM, IN A SANDBOX (cutbox-door.mjs). By AI agents, Wed Nov 11 2026. No macro, syntax, notation, axiom, sorry.
-/
import Derived.Test.YtleiehiabcgalaaDoorRows
import GoSem.ClaimSeven
namespace Go.Proofs.YtleiehiabcgalaaDoor
namespace Rows

/-- THE TIED CARD OF 'laws.FnPredict8'. -/
def fnPredict8Card : Claim7 := { stood := { row := fnPredict8Row, standIns := [], harness := (true, "f31526957ba848c5a5a3587bd7ce67a20749e63f2effc9b8ee2bd536c9a75158"), looks := false }, kinds := [], alts := [], laidByText := true, laidKinds := [.data, .data], laidTests := true, laidLooks := .later }
def FnPredict8CardSaid : Prop := Claim7.holds Tryd.pinned (.plain (OpenSpec.ofChange fnPredict8Spec)) fnPredict8Card

/-- THE TIED CARD OF 'laws.FnPredictFlat'. -/
def fnPredictFlatCard : Claim7 := { stood := { row := fnPredictFlatRow, standIns := [], harness := (true, "f31526957ba848c5a5a3587bd7ce67a20749e63f2effc9b8ee2bd536c9a75158"), looks := false }, kinds := [], alts := [], laidByText := true, laidKinds := [.data, .data], laidTests := true, laidLooks := .later }
def FnPredictFlatCardSaid : Prop := Claim7.holds Tryd.pinned (.plain (OpenSpec.ofChange fnPredictFlatSpec)) fnPredictFlatCard

/-- THE SECOND FORM's CARD OF 'laws.FnPredict8'. -/
def fnPredict8UptoCard : Claim7 := { stood := { row := fnPredict8UptoRow, standIns := [], harness := (true, "f31526957ba848c5a5a3587bd7ce67a20749e63f2effc9b8ee2bd536c9a75158"), looks := false }, kinds := [], alts := [], laidByText := true, laidKinds := [.data, .data], laidTests := true, laidLooks := .later }
def FnPredict8UptoCardSaid : Prop := Claim7.holds Tryd.pinned (.plain (OpenSpec.upto fnPredict8Spec)) fnPredict8UptoCard

/-- THE SECOND FORM's CARD OF 'laws.FnPredictFlat'. -/
def fnPredictFlatUptoCard : Claim7 := { stood := { row := fnPredictFlatUptoRow, standIns := [], harness := (true, "f31526957ba848c5a5a3587bd7ce67a20749e63f2effc9b8ee2bd536c9a75158"), looks := false }, kinds := [], alts := [], laidByText := true, laidKinds := [.data, .data], laidTests := true, laidLooks := .later }
def FnPredictFlatUptoCardSaid : Prop := Claim7.holds Tryd.pinned (.plain (OpenSpec.upto fnPredictFlatSpec)) fnPredictFlatUptoCard
end Rows
end Go.Proofs.YtleiehiabcgalaaDoor

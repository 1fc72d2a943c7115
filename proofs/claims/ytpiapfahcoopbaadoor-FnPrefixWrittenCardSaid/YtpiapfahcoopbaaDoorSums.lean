/- The small closed check that most laws end with. -/
import Derived.Test.YtpiapfahcoopbaaDoorRows
import Derived.WalkKit
import Derived.ProofKit
import Derived.OpenShut
namespace Go.Proofs.YtpiapfahcoopbaaDoor
set_option linter.unusedSimpArgs false
set_option linter.unusedVariables false
open Go.ChangeShapes Go.WideShapes Go.ChangeAt Go.RowKit
theorem readSums_any (w : World) : Calls Tryd.prog 10 #[] w fun e w' => e = .returned (.bool true) ∧ w = w' := by
  go_enter Tryd.func10, Tryd.ntmps10
  go_wp2
  go_ret
  exact ⟨rfl, rfl⟩
end Go.Proofs.YtpiapfahcoopbaaDoor

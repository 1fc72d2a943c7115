/- The small closed check that most laws end with. -/
import Derived.Test.YtldilncpenellaaRows
import Derived.WalkKit
import Derived.ProofKit
import Derived.OpenShut
namespace Go.Proofs.Ytldilncpenellaa
open Go.ChangeShapes Go.WideShapes Go.ChangeAt Go.RowKit
theorem readSums_any (w : World) : Calls Try.prog 6 #[] w fun e w' => e = .returned (.bool true) ∧ w = w' := by
  go_enter Try.func6, Try.ntmps6
  go_wp2
  go_ret
  exact ⟨rfl, rfl⟩
end Go.Proofs.Ytldilncpenellaa

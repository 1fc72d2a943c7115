/- 'clip8': the walk. -/
import Derived.Test.YthbidebcljegjaaDoorInvPlain
import Derived.Test.YthbidebcljegjaaDoorDec
namespace Go.Proofs.YthbidebcljegjaaDoor
set_option linter.unusedSimpArgs false
set_option linter.unusedVariables false
open Go.RowKit Plain

theorem clip_any (n : Int) (w : World) (h : -2147483648 ≤ n ∧ n ≤ 2147483647) : Calls Tryd.prog 81 #[.int .i32 n] w fun e w' => e = .returned (.int .u8 (clB n)) ∧ w = w' := by
  unfold clB
  by_cases h1 : n < 0
  · rw [if_pos h1]
    go_enter Tryd.func81, Tryd.ntmps81
    go_wp2
    go_ret
    exact ⟨rfl, rfl⟩
  · rw [if_neg h1]
    by_cases h2 : 255 < n
    · rw [if_pos h2]
      go_enter Tryd.func81, Tryd.ntmps81
      go_wp2
      go_ret
      exact ⟨rfl, rfl⟩
    · rw [if_neg h2]
      go_enter Tryd.func81, Tryd.ntmps81
      go_wp2
      go_ret
      refine ⟨?_, rfl⟩
      go_num
end Go.Proofs.YthbidebcljegjaaDoor

/- Four bytes are compared with themselves. -/
import Derived.Test.YthkpoidnhgcjhaaDoorRfState
import Derived.Stop.BytesEq
namespace Go.Proofs.YthkpoidnhgcjhaaDoor
set_option linter.unusedSimpArgs false
set_option linter.unusedVariables false
open Go.RowKit Plain

theorem size_b1 (w : World) : (sizeOf 5).run Tryd.prog w = .ok 1 w := by kernel_rfl
theorem arr4_same (a0 a1 a2 a3 : Int) (w : World) : (Op.equalIn 10000 22 (.agg #[.int .u8 a0, .int .u8 a1, .int .u8 a2, .int .u8 a3]) (.agg #[.int .u8 a0, .int .u8 a1, .int .u8 a2, .int .u8 a3])).run Tryd.prog w = .ok true w := by
  have px : ∀ i, i < 4 → (part 5 #[.int .u8 a0, .int .u8 a1, .int .u8 a2, .int .u8 a3] (i * 1)).run Tryd.prog w = .ok (.int .u8 ([a0, a1, a2, a3].getD i 0)) w := fun i hi => by
    rcases (by omega : i = 0 ∨ i = 1 ∨ i = 2 ∨ i = 3) with rfl | rfl | rfl | rfl <;> simp [part, isAgg, run_underlying Tryd.underlying5]
  rw [show (10000 : Nat) = 9998 + 2 from rfl, Op.equalIn]
  simp only [Sem.run_bind, run_underlying Tryd.underlying22, Result.andThen_ok, size_b1, Std.Legacy.Range.forIn_eq_forIn_range', Std.Legacy.Range.size, Nat.sub_zero, Nat.add_sub_cancel, Nat.div_one]
  rw [show List.range' 0 4 1 = [0, 1, 2, 3] from rfl]
  simp only [List.forIn_cons, List.forIn_nil, Sem.run_bind, px 0 (by omega), px 1 (by omega), px 2 (by omega), px 3 (by omega), Result.andThen_ok, run_equalIn_int w 9998 5 .u8 .u8 _ _ Tryd.underlying5, beq_self_eq_true, Bool.not_true, Bool.false_eq_true, if_false, Sem.run_pure]
theorem arr4_neq (a0 a1 a2 a3 : Int) (w : World) : (binOp .neq 22 (.agg #[.int .u8 a0, .int .u8 a1, .int .u8 a2, .int .u8 a3]) (.agg #[.int .u8 a0, .int .u8 a1, .int .u8 a2, .int .u8 a3])).run Tryd.prog w = .ok (.bool false) w := by
  rw [run_neq_struct, arr4_same]
  rfl
theorem arr4_eql (a0 a1 a2 a3 : Int) (w : World) : (binOp .eql 22 (.agg #[.int .u8 a0, .int .u8 a1, .int .u8 a2, .int .u8 a3]) (.agg #[.int .u8 a0, .int .u8 a1, .int .u8 a2, .int .u8 a3])).run Tryd.prog w = .ok (.bool true) w := by
  rw [run_eql_struct, arr4_same]
  rfl
end Go.Proofs.YthkpoidnhgcjhaaDoor

/- The law on the near distances. -/
import Derived.Test.YtldilncpenellaaDoorNear
import Derived.Test.YtldilncpenellaaDoorEqLaws
import Derived.Laws.StructEq
namespace Go.Proofs.YtldilncpenellaaDoor
set_option linter.unusedSimpArgs false
set_option linter.unusedVariables false
open Go.RowKit
theorem pair_unlike (a b c d : Int) (h : ¬ (a = c ∧ b = d)) (w : World) : (binOp .eql 24 (.agg #[.int .i64 a, .int .i64 b]) (.agg #[.int .i64 c, .int .i64 d])).run Tryd.prog w = .ok (.bool false) w := by
  have e := run_eql_array (P := Tryd.prog) 24 3 2 .i64 Tryd.underlying24 Tryd.underlying3 (by kernel_rfl) (by kernel_rfl) [a, b] [c, d] rfl rfl w
  have f : ([a, b] == [c, d]) = false := by simpa using h
  rw [f] at e
  exact e
theorem guard_pair : Tryd.prog.eqGuardType Tryd.prog.depth 24 = false := by kernel_rfl
set_option maxHeartbeats 2000000 in
set_option maxRecDepth 100000 in
theorem fnNear_any (any : Int) (w : World) (ht : HasNear w) (hg : 0 < w.heap.size) : Calls Tryd.prog 3 #[.int .i64 any] w fun e w' => e = .returned (.bool true) ∧ Below w.heap.size w w' := by
  go_enter Tryd.func3, Tryd.ntmps3
  go_wp2_with fail
  refine (near_any w ht hg).mono ?_
  rintro e w1 ⟨v, rfl, hown, hbel⟩
  obtain ⟨g, cap, rfl, hgb, hgl⟩ := hown.form (by decide)
  have hcell : ∀ k, k < 120 → w1.cell? ⟨g, k * 2, none⟩ = some (.int .i64 (nx k)) ∧ w1.cell? ⟨g, k * 2 + 1, none⟩ = some (.int .i64 (ny k)) := fun k hk => by
    have h := nearCells_at 120 k hk
    rw [hown.cellAt _ (by omega), hown.cellAt _ (by omega)]
    rw [Nat.mul_comm] at h
    exact h
  clear hown ht
  go_wp2
  go_loopw [4] (fun i wr => ∃ k n : Nat, k ≤ 120 ∧ i = .int .i64 k ∧ wr = w1.drewN n) (fun i _ => 120 - (intOf i).toNat)
  case atStart => exact ⟨0, 0, by omega, rfl, rfl⟩
  case round =>
    obtain ⟨k, n, hk, rfl, rfl⟩ := hrel
    by_cases hlt : k < 120
    · obtain ⟨c1, c2⟩ := hcell k hlt
      have hok := near_ok k hlt
      have hun := hide (near_unlike k hlt)
      obtain ⟨o1, o2, o3, o4, o5⟩ := hok
      generalize hx : nx k = x at *
      generalize hy : ny k = y at *
      replace hx := hide hx
      replace hy := hide hy
      replace hcell := hide hcell
      go_wp2
      go_quiet (fail)
      by_cases hy0 : y = 0
      · have hx1 := o5 hy0
        subst hy0
        clear o5
        go_wp2
        go_loopw [7] (fun j wr => ∃ m n' : Nat, m ≤ k ∧ j = .int .i64 m ∧ wr = w1.drewN n') (fun j _ => k - (intOf j).toNat)
        case atStart => exact ⟨0, _, by omega, rfl, rfl⟩
        case round =>
          obtain ⟨m, n', hm, rfl, rfl⟩ := hrel
          by_cases hmk : m < k
          · obtain ⟨d1, d2⟩ := hcell.out m (by omega)
            have hne := hide (hun.out m hmk)
            have hmi : (m : Int) < 120 := by omega
            have heq := fun W : World => pair_unlike (nx m) (ny m) x 0 (fun h => hun.out m hmk h) W
            have hgd := guard_pair
            generalize nx m = x' at *
            generalize ny m = y' at *
            go_wp2
            go_quiet (fail)
            go_wp2
            go_roundw
            case rel => exact ⟨m + 1, _, by omega, by go_num, rfl⟩
            case measure => simp [intOf]; omega
          · have : m = k := by omega
            subst this
            go_wp2
            go_roundw
            case rel => exact ⟨m + 1, _, by omega, by go_num, rfl⟩
            case measure => simp [intOf]; omega
      · have hyb : (y == 0) = false := by simp [hy0]
        clear o5
        go_wp2
        go_loopw [7] (fun j wr => ∃ m n' : Nat, m ≤ k ∧ j = .int .i64 m ∧ wr = w1.drewN n') (fun j _ => k - (intOf j).toNat)
        case atStart => exact ⟨0, _, by omega, rfl, rfl⟩
        case round =>
          obtain ⟨m, n', hm, rfl, rfl⟩ := hrel
          by_cases hmk : m < k
          · obtain ⟨d1, d2⟩ := hcell.out m (by omega)
            have hne := hide (hun.out m hmk)
            have hmi : (m : Int) < 120 := by omega
            have heq := fun W : World => pair_unlike (nx m) (ny m) x y (fun h => hun.out m hmk h) W
            have hgd := guard_pair
            generalize nx m = x' at *
            generalize ny m = y' at *
            go_wp2
            go_quiet (fail)
            go_wp2
            go_roundw
            case rel => exact ⟨m + 1, _, by omega, by go_num, rfl⟩
            case measure => simp [intOf]; omega
          · have : m = k := by omega
            subst this
            go_wp2
            go_roundw
            case rel => exact ⟨m + 1, _, by omega, by go_num, rfl⟩
            case measure => simp [intOf]; omega
    · have : k = 120 := by omega
      subst this
      go_wp2_with (go_at_call 6; refine (readSums_any _).mono ?_; rintro e w' ⟨rfl, rfl⟩)
      go_ret
      exact ⟨rfl, below_drewN hbel n⟩
end Go.Proofs.YtldilncpenellaaDoor

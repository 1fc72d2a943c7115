/- The simple filter: the walks of the reference's side. -/
import Derived.Test.YthbidebcljegjaaDoorFiltPlain
import Derived.Test.YthbidebcljegjaaDoorEdge
import Derived.Deep.QuietTactic
import Derived.BigQuiet
import Derived.RegionTactic
import Derived.IntWalk
import Derived.Deep.RegionWith
namespace Go.Proofs.YthbidebcljegjaaDoor
set_option linter.unusedSimpArgs false
set_option linter.unusedVariables false
open Go.RowKit

theorem ret_i {a b : Int} (h : a = b) : Ending.returned (.int .i64 a) = .returned (.int .i64 b) := by rw [h]

theorem within_any (n lo hi : Int) (w : World) (h : lo ≤ hi) : Calls Tryd.prog 69 #[.int .i64 n, .int .i64 lo, .int .i64 hi] w fun e w' => e = .returned (.int .i64 (clamp lo hi n)) ∧ w = w' := by
  unfold clamp
  go_enter Tryd.func69, Tryd.ntmps69
  by_cases h1 : n < lo
  · have h2 : n ≤ hi := by omega
    go_wp2
    all_goals
      go_ret
      refine ⟨ret_i ?_, rfl⟩
      (repeat' split) <;> omega
  · by_cases h2 : hi < n
    · go_wp2
      all_goals
        go_ret
        refine ⟨ret_i ?_, rfl⟩
        (repeat' split) <;> omega
    · go_wp2
      all_goals
        go_ret
        refine ⟨ret_i ?_, rfl⟩
        (repeat' split) <;> omega

theorem distance_any (a b : Int) (w : World) (ha1 : -100000 ≤ a) (ha2 : a ≤ 100000) (hb1 : -100000 ≤ b) (hb2 : b ≤ 100000) : Calls Tryd.prog 64 #[.int .i64 a, .int .i64 b] w fun e w' => e = .returned (.int .i64 (dist a b)) ∧ w = w' := by
  unfold dist
  go_enter Tryd.func64, Tryd.ntmps64
  go_wp2
  all_goals
    go_ret
    refine ⟨ret_i ?_, rfl⟩
    (repeat' split) <;> omega

theorem short_any (n : Int) (w : World) : Calls Tryd.prog 79 #[.int .i64 n] w fun e w' => e = .returned (.int .i64 (short n)) ∧ w = w' := by
  have c := within_any n (-128) 127 w (by decide)
  unfold short
  generalize clamp (-128) 127 n = y at *
  replace c := hide c
  go_enter Tryd.func79, Tryd.ntmps79
  go_wp2_with (first | (go_at_call 69; refine c.out.mono ?_; rintro e w' ⟨rfl, rfl⟩) | fail)
  go_ret
  exact ⟨rfl, rfl⟩
theorem short_bd (n : Int) : -128 ≤ short n ∧ short n ≤ 127 := clamp_bd (-128) 127 n (by decide)

theorem moved_any (n y : Int) (w : World) (h1 : -100000 ≤ n) (h2 : n ≤ 100000) (h3 : -100000 ≤ y) (h4 : y ≤ 100000) : Calls Tryd.prog 80 #[.int .i64 n, .int .i64 y] w fun e w' => e = .returned (.int .i64 (moved n y)) ∧ w = w' := by
  have c := short_any (n - 128 - y) w
  have hb := short_bd (n - 128 - y)
  unfold moved
  generalize short (n - 128 - y) = z at *
  replace c := hide c
  go_enter Tryd.func80, Tryd.ntmps80
  go_wp2_with (first | (go_at_call 79; refine c.out.mono ?_; rintro e w' ⟨rfl, rfl⟩) | fail)
  go_ret
  exact ⟨rfl, rfl⟩

/-- Eight cells. -/
def row8 (x2 x3 x4 x5 : Int) : Array Value := #[.int .i64 0, .int .i64 0, .int .i64 x2, .int .i64 x3, .int .i64 x4, .int .i64 x5, .int .i64 0, .int .i64 0]

set_option maxHeartbeats 1000000 in
set_option maxRecDepth 100000 in
theorem isNearRef_any (x2 x3 x4 x5 lev : Int) (w : World) (h2 : 0 ≤ x2 ∧ x2 ≤ 255) (h3 : 0 ≤ x3 ∧ x3 ≤ 255) (h4 : 0 ≤ x4 ∧ x4 ≤ 255) (h5 : 0 ≤ x5 ∧ x5 ≤ 255) :
    Calls Tryd.prog 76 #[.agg (row8 x2 x3 x4 x5), .int .i64 lev] w fun e w' => e = .returned (.bool (isNear lev x2 x3 x4 x5)) ∧ Below w.heap.size w w' := by
  have k1 := fun w => distance_any x3 x4 w (by omega) (by omega) (by omega) (by omega)
  have k2 := fun w => distance_any x2 x5 w (by omega) (by omega) (by omega) (by omega)
  have y1 := dist_bd x3 x4 h3 h4
  have y2 := dist_bd x2 x5 h2 h5
  unfold isNear row8
  generalize dist x3 x4 = d1 at *
  generalize dist x2 x5 = d2 at *
  replace k1 := hide k1
  replace k2 := hide k2
  go_enter Tryd.func76, Tryd.ntmps76
  go_wp2
  go_quiet ((first | (go_at_call 64; with_reducible exact quiet_after (k1.out _)) | (go_at_call 64; with_reducible exact quiet_after (k2.out _)) | (go_at_call 64; with_reducible exact quiet_first (k1.out _)) | (go_at_call 64; with_reducible exact quiet_first (k2.out _))))
  go_wp2
  go_ret
  refine ⟨ret_b ?_, ?_⟩
  · rw [Int.mul_comm]
  · exact ⟨rfl, rfl, rfl, by simp, fun k hk => Below.heap_alloc w _ k hk⟩

def simpleY3 (lev x2 x3 x4 x5 : Int) : Int := if isNear lev x2 x3 x4 x5 then newP x2 x3 x4 x5 else x3
def simpleY4 (lev x2 x3 x4 x5 : Int) : Int := if isNear lev x2 x3 x4 x5 then newQ x2 x3 x4 x5 else x4

set_option maxRecDepth 100000 in
set_option maxHeartbeats 1000000 in
/-- 'common', outer: two cells of the box turn. -/
theorem common_any (g : Nat) (x2 x3 x4 x5 : Int) (w : World) (h2 : 0 ≤ x2 ∧ x2 ≤ 255) (h3 : 0 ≤ x3 ∧ x3 ≤ 255) (h4 : 0 ≤ x4 ∧ x4 ≤ 255) (h5 : 0 ≤ x5 ∧ x5 ≤ 255) (hB : Blk w g 128 (row8 x2 x3 x4 x5)) :
    Calls Tryd.prog 77 #[.pointer (some ⟨g, 0, none⟩), .bool true] w fun e w' => (∃ y, e = .returned (.int .i64 y)) ∧ Blk w' g 128 (row8 x2 (newP x2 x3 x4 x5) (newQ x2 x3 x4 x5) x5) ∧ Upd [g] w w' := by
  have hQ := refQ x2 x3 x4 x5
  have hP := refP x2 x3 x4 x5
  unfold refA at hQ hP
  have c2 := hB.cell 2
  have c3 := hB.cell 3
  have c4 := hB.cell 4
  have c5 := hB.cell 5
  have f3 := hB.frozen 3
  have f4 := hB.frozen 4
  unfold row8 at c2 c3 c4 c5
  simp at c2 c3 c4 c5
  replace hB := hide hB
  have k1 := fun w => short_any (x2 - x5) w
  have y1 := short_bd (x2 - x5)
  generalize short (x2 - x5) = a1 at *
  have k2 := fun w => short_any (a1 + 3 * (x4 - x3)) w
  have y2 := short_bd (a1 + 3 * (x4 - x3))
  generalize short (a1 + 3 * (x4 - x3)) = a2 at *
  have k3 := fun w => short_any (a2 + 3) w
  have k4 := fun w => short_any (a2 + 4) w
  have y3 := short_bd (a2 + 3)
  have y4 := short_bd (a2 + 4)
  generalize short (a2 + 3) = a3 at *
  generalize short (a2 + 4) = a4 at *
  have k5 := fun w => moved_any x4 (a4 / 8) w (by omega) (by omega) (by omega) (by omega)
  have k6 := fun w => moved_any x3 (-(a3 / 8)) w (by omega) (by omega) (by omega) (by omega)
  rw [hQ] at k5
  rw [hP] at k6
  generalize newQ x2 x3 x4 x5 = nq at *
  generalize newP x2 x3 x4 x5 = np at *
  replace k1 := hide k1
  replace k2 := hide k2
  replace k3 := hide k3
  replace k4 := hide k4
  replace k5 := hide k5
  replace k6 := hide k6
  clear hQ hP
  go_enter Tryd.func77, Tryd.ntmps77
  go_wp2
  go_quiet ((first | (go_at_call 79; with_reducible exact quiet_after (k1.out _)) | (go_at_call 79; with_reducible exact quiet_first (k1.out _))))
  go_wp2
  go_quiet ((first | (go_at_call 79; with_reducible exact quiet_after (k2.out _)) | (go_at_call 79; with_reducible exact quiet_first (k2.out _))))
  go_wp2_with (first
    | (go_at_call 79; (with_reducible refine (k3.out _).mono ?_); rintro e w' ⟨rfl, rfl⟩)
    | (go_at_call 79; (with_reducible refine (k4.out _).mono ?_); rintro e w' ⟨rfl, rfl⟩)
    | fail)
  have hneg : IntKind.i64.wrap (-(a3 / 8)) = -(a3 / 8) := IntWalk.i64_in _ (by omega)
  go_region_with (first
    | (go_at_call 80; (with_reducible refine (k5.out _).mono ?_); rintro e w' ⟨rfl, rfl⟩)
    | (go_at_call 80; (with_reducible refine (k6.out _).mono ?_); rintro e w' ⟨rfl, rfl⟩))
  all_goals
    go_wp2
    go_ret
    refine ⟨⟨_, rfl⟩, ?_, ?_⟩
    · first
        | exact ((hB.out.drewN _).set_ 4 _).set_ 3 _
        | exact ((hB.out.drewN _).set_ 3 _).set_ 4 _
    · first
        | exact (((Upd.refl [g] w).setCell (.inl (by simp)) _).setCell (.inl (by simp)) _).drewN _
        | exact (((Upd.refl [g] w).drewN _).setCell (.inl (by simp)) _).setCell (.inl (by simp)) _

end Go.Proofs.YthbidebcljegjaaDoor

/- 'spec.scaled', 'spec.turned', 'spec.pass': the walks. -/
import Derived.Test.YthbidebcljegjaaDoorClip
import Derived.Test.YthbidebcljegjaaDoorWhtSpec
import Derived.Test.YthbidebcljegjaaDoorFiltRef
import Derived.Deep.RegionHeld3
namespace Go.Proofs.YthbidebcljegjaaDoor
set_option linter.unusedSimpArgs false
set_option linter.unusedVariables false
open Go.RowKit Plain

theorem scaledT_any (n : Int) (w : World) (h : -25079 ≤ n ∧ n ≤ 25079) : Calls Tryd.prog 82 #[.int .i64 n, .bool true] w fun e w' => e = .returned (.int .i64 (sA n)) ∧ w = w' := by
  have W1 : IntKind.i64.wrap (n * 35468) = n * 35468 := IntWalk.i64_in _ (by omega)
  have F : n * 35468 / 65536 = sA n := rfl
  go_enter Tryd.func82, Tryd.ntmps82
  go_wp2
  go_ret
  exact ⟨rfl, rfl⟩
theorem scaledF_any (n : Int) (w : World) (h : -25079 ≤ n ∧ n ≤ 25079) : Calls Tryd.prog 82 #[.int .i64 n, .bool false] w fun e w' => e = .returned (.int .i64 (sB n)) ∧ w = w' := by
  have W1 : IntKind.i64.wrap (n * 20091) = n * 20091 := IntWalk.i64_in _ (by omega)
  have hb := sB_bd n h
  have F := sB_eq n
  rw [← F] at hb ⊢
  clear F
  have W2 : IntKind.i64.wrap (n + n * 20091 / 65536) = n + n * 20091 / 65536 := IntWalk.i64_in _ (by omega)
  go_enter Tryd.func82, Tryd.ntmps82
  go_wp2
  go_ret
  exact ⟨rfl, rfl⟩

set_option maxHeartbeats 4000000 in
theorem turned_any (a b c e : Int) (w : World) (ha : -25079 ≤ a ∧ a ≤ 25079) (hb : -25079 ≤ b ∧ b ≤ 25079) (hc : -25079 ≤ c ∧ c ≤ 25079) (he : -25079 ≤ e ∧ e ≤ 25079) :
    Calls Tryd.prog 68 #[.int .i64 a, .int .i64 b, .int .i64 c, .int .i64 e] w fun x w' => x = .returned (.agg (row4 (tur a b c e 0) (tur a b c e 1) (tur a b c e 2) (tur a b c e 3))) ∧ Below w.heap.size w w' := by
  have c1 := fun w => scaledT_any b w hb
  have c2 := fun w => scaledF_any e w he
  have c3 := fun w => scaledF_any b w hb
  have c4 := fun w => scaledT_any e w he
  have h1 := sA_bd b hb
  have h2 := sB_bd b hb
  have h3 := sA_bd e he
  have h4 := sB_bd e he
  replace c1 := hide c1
  replace c2 := hide c2
  replace c3 := hide c3
  replace c4 := hide c4
  have d0 : tur a b c e 0 = a + c + (sB b + sA e) := rfl
  have d1 : tur a b c e 1 = a - c + (sA b - sB e) := rfl
  have d2 : tur a b c e 2 = a - c - (sA b - sB e) := rfl
  have d3 : tur a b c e 3 = a + c - (sB b + sA e) := rfl
  rw [d0, d1, d2, d3]
  clear d0 d1 d2 d3
  generalize sA b = p1 at *
  generalize sB b = p2 at *
  generalize sA e = p3 at *
  generalize sB e = p4 at *
  have hT := hide ((Blk.new w 46 (row4 0 0 0 0)).there 4 (by decide))
  have hB := hide (blk_row4 w (a + c + (p2 + p3)) (a - c + (p1 - p4)) (a - c - (p1 - p4)) (a + c - (p2 + p3)))
  have hbl := hide ((Below.refl _ w).alloc (Nat.le_refl _) (.cells (row4 0 0 0 0) 46))
  go_enter Tryd.func68, Tryd.ntmps68
  go_wp2_with (first | (go_at_call 82; (with_reducible refine (c1.out _).mono ?_); rintro e w' ⟨rfl, rfl⟩) | (go_at_call 82; (with_reducible refine (c2.out _).mono ?_); rintro e w' ⟨rfl, rfl⟩) | (go_at_call 82; (with_reducible refine (c3.out _).mono ?_); rintro e w' ⟨rfl, rfl⟩) | (go_at_call 82; (with_reducible refine (c4.out _).mono ?_); rintro e w' ⟨rfl, rfl⟩) | (refine wpList_store_mid rfl 46 (.tmp 8) (.tmp 41) rfl w.heap.size 0 (row4 (a + c + (p2 + p3)) (a - c + (p1 - p4)) (a - c - (p1 - p4)) (a + c - (p2 + p3))) rfl rfl hT.out size_4int (row4_one _ _ _ _) ?_) | fail)
  generalize hXS : row4 (a + c + (p2 + p3)) (a - c + (p1 - p4)) (a - c - (p1 - p4)) (a + c - (p2 + p3)) = XS at *
  have hs4 : XS.size = 4 := by rw [← hXS]; rfl
  have hrr : (loadVar 46 ⟨w.heap.size, 0, none⟩).run Tryd.prog ((w.alloc (.cells (row4 0 0 0 0) 46)).setCells w.heap.size 0 XS.toList) = .ok (.agg XS) ((w.alloc (.cells (row4 0 0 0 0) 46)).setCells w.heap.size 0 XS.toList) := by
    have h9 := run_loadVar_mid (P := Tryd.prog) _ w.heap.size 0 46 XS.toList _ hB.out.range Tryd.underlying46 rfl (by rw [Array.length_toList, hs4]; exact size_4int)
    rw [Array.toArray_toList] at h9
    exact h9
  exact bodyPost_ret (ret_cell rfl rfl hrr) rfl ⟨rfl, below_setCells (by omega) _ _ hbl.out⟩
end Go.Proofs.YthbidebcljegjaaDoor

/- 'predFunc8': the walk. -/
import Derived.Test.YtleiehiabcgalaaDoorRows2
import Derived.Test.YtleiehiabcgalaaDoorDec
namespace Go.Proofs.YtleiehiabcgalaaDoor
set_option linter.unusedSimpArgs false
set_option linter.unusedVariables false
open Go.RowKit Plain

theorem size_tab8 : (Tryd.prog.info? 48).map (·.size) = some 13 := by kernel_rfl
def nil8 : Array Value := #[.nilFunc, .nilFunc, .nilFunc, .nilFunc, .nilFunc, .nilFunc, .nilFunc, .nilFunc, .nilFunc, .nilFunc, .nilFunc, .nilFunc, .nilFunc]
def tab8 : Array Value := #[.func (.func 36) #[] #[], .func (.func 37) #[] #[], .func (.func 38) #[] #[], .func (.func 39) #[] #[], .nilFunc, .nilFunc, .nilFunc, .nilFunc, .nilFunc, .nilFunc, .func (.func 40) #[] #[], .func (.func 41) #[] #[], .func (.func 42) #[] #[]]
theorem tab8_one : tab8.all (·.oneCell') = true := by simp [tab8, Value.oneCell']
theorem blk_tab8 (w : World) : Blk ((w.alloc (.cells nil8 48)).setCells w.heap.size 0 tab8.toList) w.heap.size 48 tab8 := by
  have h := (((((((((((((Blk.new w 48 nil8).set_ 0 (.func (.func 36) #[] #[])).set_ 1 (.func (.func 37) #[] #[])).set_ 2 (.func (.func 38) #[] #[])).set_ 3 (.func (.func 39) #[] #[])).set_ 4 (.nilFunc)).set_ 5 (.nilFunc)).set_ 6 (.nilFunc)).set_ 7 (.nilFunc)).set_ 8 (.nilFunc)).set_ 9 (.nilFunc)).set_ 10 (.func (.func 40) #[] #[])).set_ 11 (.func (.func 41) #[] #[])).set_ 12 (.func (.func 42) #[] #[])
  exact h
set_option maxRecDepth 100000 in
set_option maxHeartbeats 4000000 in
theorem predFunc8_any (w : World) :
    Calls Tryd.prog 26 #[] w fun e w' => e = .returned (.agg tab8) ∧ Below w.heap.size w w' := by
  have hT := hide ((Blk.new w 48 nil8).there 13 (by decide))
  have hB := hide (blk_tab8 w)
  have hbl := hide ((Below.refl _ w).alloc (Nat.le_refl _) (.cells nil8 48))
  go_enter Tryd.func26, Tryd.ntmps26
  go_wp2_with (first | (refine wpList_store_mid rfl 48 (.tmp 0) (.tmp 1) rfl w.heap.size 0 tab8 rfl rfl hT.out size_tab8 tab8_one ?_) | fail)
  have hs4 : tab8.size = 13 := rfl
  have hrr : (loadVar 48 ⟨w.heap.size, 0, none⟩).run Tryd.prog ((w.alloc (.cells nil8 48)).setCells w.heap.size 0 tab8.toList) = .ok (.agg tab8) ((w.alloc (.cells nil8 48)).setCells w.heap.size 0 tab8.toList) := by
    have h9 := run_loadVar_mid (P := Tryd.prog) _ w.heap.size 0 48 tab8.toList _ hB.out.range Tryd.underlying48 rfl (by rw [Array.length_toList, hs4]; exact size_tab8)
    rw [Array.toArray_toList] at h9
    exact h9
  exact bodyPost_ret (ret_cell rfl rfl hrr) rfl ⟨rfl, below_setCells (by omega) _ _ hbl.out⟩
end Go.Proofs.YtleiehiabcgalaaDoor

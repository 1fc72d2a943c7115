/- 'predFunc4': the walk. -/
import Derived.Test.YtleiehiabcgalaaDoorRows2
import Derived.Test.YtleiehiabcgalaaDoorDec
namespace Go.Proofs.YtleiehiabcgalaaDoor
set_option linter.unusedSimpArgs false
set_option linter.unusedVariables false
open Go.RowKit Plain

theorem size_tab4 : (Tryd.prog.info? 48).map (·.size) = some 13 := by kernel_rfl
def nil4 : Array Value := #[.nilFunc, .nilFunc, .nilFunc, .nilFunc, .nilFunc, .nilFunc, .nilFunc, .nilFunc, .nilFunc, .nilFunc, .nilFunc, .nilFunc, .nilFunc]
def tab4 : Array Value := #[.func (.func 44) #[] #[], .func (.func 45) #[] #[], .func (.func 46) #[] #[], .func (.func 47) #[] #[], .func (.func 48) #[] #[], .func (.func 49) #[] #[], .func (.func 50) #[] #[], .func (.func 51) #[] #[], .func (.func 52) #[] #[], .func (.func 53) #[] #[], .nilFunc, .nilFunc, .nilFunc]
theorem tab4_one : tab4.all (·.oneCell') = true := by simp [tab4, Value.oneCell']
theorem blk_tab4 (w : World) : Blk ((w.alloc (.cells nil4 48)).setCells w.heap.size 0 tab4.toList) w.heap.size 48 tab4 := by
  have h := (((((((((((((Blk.new w 48 nil4).set_ 0 (.func (.func 44) #[] #[])).set_ 1 (.func (.func 45) #[] #[])).set_ 2 (.func (.func 46) #[] #[])).set_ 3 (.func (.func 47) #[] #[])).set_ 4 (.func (.func 48) #[] #[])).set_ 5 (.func (.func 49) #[] #[])).set_ 6 (.func (.func 50) #[] #[])).set_ 7 (.func (.func 51) #[] #[])).set_ 8 (.func (.func 52) #[] #[])).set_ 9 (.func (.func 53) #[] #[])).set_ 10 (.nilFunc)).set_ 11 (.nilFunc)).set_ 12 (.nilFunc)
  exact h
set_option maxRecDepth 100000 in
set_option maxHeartbeats 4000000 in
theorem predFunc4_any (w : World) :
    Calls Tryd.prog 31 #[] w fun e w' => e = .returned (.agg tab4) ∧ Below w.heap.size w w' := by
  have hT := hide ((Blk.new w 48 nil4).there 13 (by decide))
  have hB := hide (blk_tab4 w)
  have hbl := hide ((Below.refl _ w).alloc (Nat.le_refl _) (.cells nil4 48))
  go_enter Tryd.func31, Tryd.ntmps31
  go_wp2_with (first | (refine wpList_store_mid rfl 48 (.tmp 0) (.tmp 1) rfl w.heap.size 0 tab4 rfl rfl hT.out size_tab4 tab4_one ?_) | fail)
  have hs4 : tab4.size = 13 := rfl
  have hrr : (loadVar 48 ⟨w.heap.size, 0, none⟩).run Tryd.prog ((w.alloc (.cells nil4 48)).setCells w.heap.size 0 tab4.toList) = .ok (.agg tab4) ((w.alloc (.cells nil4 48)).setCells w.heap.size 0 tab4.toList) := by
    have h9 := run_loadVar_mid (P := Tryd.prog) _ w.heap.size 0 48 tab4.toList _ hB.out.range Tryd.underlying48 rfl (by rw [Array.length_toList, hs4]; exact size_tab4)
    rw [Array.toArray_toList] at h9
    exact h9
  exact bodyPost_ret (ret_cell rfl rfl hrr) rfl ⟨rfl, below_setCells (by omega) _ _ hbl.out⟩
end Go.Proofs.YtleiehiabcgalaaDoor

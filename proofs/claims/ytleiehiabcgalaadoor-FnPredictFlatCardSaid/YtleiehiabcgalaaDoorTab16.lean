/- 'predFunc16': the walk. -/
import Derived.Test.YtleiehiabcgalaaDoorRows2
import Derived.Test.YtleiehiabcgalaaDoorDec
namespace Go.Proofs.YtleiehiabcgalaaDoor
set_option linter.unusedSimpArgs false
set_option linter.unusedVariables false
open Go.RowKit Plain

theorem size_tab16 : (Tryd.prog.info? 48).map (·.size) = some 13 := by kernel_rfl
def nil16 : Array Value := #[.nilFunc, .nilFunc, .nilFunc, .nilFunc, .nilFunc, .nilFunc, .nilFunc, .nilFunc, .nilFunc, .nilFunc, .nilFunc, .nilFunc, .nilFunc]
def tab16 : Array Value := #[.func (.func 54) #[] #[], .func (.func 55) #[] #[], .func (.func 56) #[] #[], .func (.func 57) #[] #[], .nilFunc, .nilFunc, .nilFunc, .nilFunc, .nilFunc, .nilFunc, .func (.func 58) #[] #[], .func (.func 59) #[] #[], .func (.func 60) #[] #[]]
theorem tab16_one : tab16.all (·.oneCell') = true := by simp [tab16, Value.oneCell']
theorem blk_tab16 (w : World) : Blk ((w.alloc (.cells nil16 48)).setCells w.heap.size 0 tab16.toList) w.heap.size 48 tab16 := by
  have h := (((((((((((((Blk.new w 48 nil16).set_ 0 (.func (.func 54) #[] #[])).set_ 1 (.func (.func 55) #[] #[])).set_ 2 (.func (.func 56) #[] #[])).set_ 3 (.func (.func 57) #[] #[])).set_ 4 (.nilFunc)).set_ 5 (.nilFunc)).set_ 6 (.nilFunc)).set_ 7 (.nilFunc)).set_ 8 (.nilFunc)).set_ 9 (.nilFunc)).set_ 10 (.func (.func 58) #[] #[])).set_ 11 (.func (.func 59) #[] #[])).set_ 12 (.func (.func 60) #[] #[])
  exact h
set_option maxRecDepth 100000 in
set_option maxHeartbeats 4000000 in
theorem predFunc16_any (w : World) :
    Calls Tryd.prog 32 #[] w fun e w' => e = .returned (.agg tab16) ∧ Below w.heap.size w w' := by
  have hT := hide ((Blk.new w 48 nil16).there 13 (by decide))
  have hB := hide (blk_tab16 w)
  have hbl := hide ((Below.refl _ w).alloc (Nat.le_refl _) (.cells nil16 48))
  go_enter Tryd.func32, Tryd.ntmps32
  go_wp2_with (first | (refine wpList_store_mid rfl 48 (.tmp 0) (.tmp 1) rfl w.heap.size 0 tab16 rfl rfl hT.out size_tab16 tab16_one ?_) | fail)
  have hs4 : tab16.size = 13 := rfl
  have hrr : (loadVar 48 ⟨w.heap.size, 0, none⟩).run Tryd.prog ((w.alloc (.cells nil16 48)).setCells w.heap.size 0 tab16.toList) = .ok (.agg tab16) ((w.alloc (.cells nil16 48)).setCells w.heap.size 0 tab16.toList) := by
    have h9 := run_loadVar_mid (P := Tryd.prog) _ w.heap.size 0 48 tab16.toList _ hB.out.range Tryd.underlying48 rfl (by rw [Array.length_toList, hs4]; exact size_tab16)
    rw [Array.toArray_toList] at h9
    exact h9
  exact bodyPost_ret (ret_cell rfl rfl hrr) rfl ⟨rfl, below_setCells (by omega) _ _ hbl.out⟩
end Go.Proofs.YtleiehiabcgalaaDoor

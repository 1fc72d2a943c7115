/- A small block whose neighbours are all one value: what is filled. No program in sight. -/
import Derived.Test.YtleiehiabcgalaaDoorPred4
namespace Go.Proofs.YtleiehiabcgalaaDoor
set_option linter.unusedSimpArgs false
set_option linter.unusedVariables false
open Go.RowKit Plain

/-- All that stands around a small block is v. -/
structure Flat4 (cur : Array Value) (v : Int) : Prop where
  size : cur.size = 2482
  top : ∀ i, i < 9 → cur[1657 + i]? = some (.int .u8 v)
  left : ∀ j, j < 4 → cur[1689 + j * 32]? = some (.int .u8 v)
theorem Flat4.of {cur : Array Value} {v : Int} {va vl : List Int} {na : Nat} (h : Sq4 cur v va vl na 4) (hna : 8 ≤ na) (hva : ∀ i, i < 8 → va.getD i 0 = v) (hvl : ∀ i, i < 4 → vl.getD i 0 = v) : Flat4 cur v := by
  refine ⟨h.size, fun i hi => ?_, fun j hj => ?_⟩
  · cases i with
    | zero => exact h.corner
    | succ i =>
      have := h.above i (by omega)
      rw [hva i (by omega)] at this
      rw [show 1657 + (i + 1) = 1658 + i by omega]
      exact this
  · have := h.left j hj
    rw [hvl j hj] at this
    rw [show 1689 + j * 32 = 1650 + (1 + j) * 32 + 7 by omega]
    exact this
/-- At these places stands v. -/
def PutAt (cur : Array Value) (v : Int) (l : List Nat) : Prop := cur.size = 2482 ∧ ∀ p, p ∈ l → cur[p]? = some (.int .u8 v)
theorem PutAt.start {cur : Array Value} {v : Int} (h : cur.size = 2482) : PutAt cur v [] := ⟨h, fun p hp => by cases hp⟩
theorem PutAt.put {cur : Array Value} {v : Int} {l : List Nat} (h : PutAt cur v l) (p : Nat) (hp : p < 2482) : PutAt (cur.setIfInBounds p (.int .u8 v)) v (p :: l) := by
  refine ⟨by rw [Array.size_setIfInBounds]; exact h.1, fun q hq => ?_⟩
  by_cases e : p = q
  · subst e
    exact set_eq _ _ _ _ (by rw [h.1]; exact hp) rfl
  · rw [set_ne _ _ _ _ e]
    rcases List.mem_cons.1 hq with rfl | hq
    · exact absurd rfl e
    · exact h.2 q hq
theorem PutAt.fil {cur : Array Value} {v : Int} {l : List Nat} (h : PutAt cur v l) (hl : [1690, 1691, 1692, 1693, 1722, 1723, 1724, 1725, 1754, 1755, 1756, 1757, 1786, 1787, 1788, 1789].all (fun p => l.contains p) = true) : Fil4 cur (fun _ _ => v) 4 0 := by
  intro a b hb hc
  have ha : a < 4 := by omega
  refine h.2 _ ?_
  have h2 := fun p hp => List.all_eq_true.1 hl p hp
  have h3 : 1650 + (1 + a) * 32 + (8 + b) ∈ [1690, 1691, 1692, 1693, 1722, 1723, 1724, 1725, 1754, 1755, 1756, 1757, 1786, 1787, 1788, 1789] := by
    rcases (by omega : a = 0 ∨ a = 1 ∨ a = 2 ∨ a = 3) with rfl | rfl | rfl | rfl <;> rcases (by omega : b = 0 ∨ b = 1 ∨ b = 2 ∨ b = 3) with rfl | rfl | rfl | rfl <;> decide
  have h4 := h2 _ h3
  simpa using h4
end Go.Proofs.YtleiehiabcgalaaDoor

/- Rows of numbers told by a function. No program in sight. -/
import Derived.Test.YtleiehiabcgalaaDoorMem
import Derived.Laws.Tables
import Derived.Laws.PanicsMore
namespace Go.Proofs.YtleiehiabcgalaaDoor
set_option linter.unusedSimpArgs false
set_option linter.unusedVariables false
open Go.RowKit

theorem Blk.to {w w' : World} {g : Nat} {t : TypeId} {cs cs' : Array Value} (h : Blk w g t cs) (hw : w'.heap = w.heap) (hc : cs' = cs) : Blk w' g t cs' := by
  subst hc
  unfold Blk at h ⊢
  rw [hw]
  exact h
/-- A row of n numbers, told by a function. -/
def rowF (k : IntKind) (F : Nat → Int) (n : Nat) : Array Value := ((List.range n).map (fun i => Value.int k (F i))).toArray
theorem rowF_get (k : IntKind) (F : Nat → Int) (n i : Nat) (h : i < n) : (rowF k F n)[i]? = some (.int k (F i)) := by simp [rowF, h]
theorem rowF_set (k : IntKind) (F : Nat → Int) (n c : Nat) (x : Int) : (rowF k F n).setIfInBounds c (.int k x) = rowF k (fun i => if i = c then x else F i) n := by
  apply Array.ext_getElem?
  intro i
  unfold rowF
  rw [Array.getElem?_setIfInBounds]
  by_cases hi : i < n
  · by_cases hc : c = i
    · subst hc; simp [hi]
    · have hc' : ¬ i = c := fun e => hc e.symm
      simp [hi, hc, hc']
  · by_cases hc : c = i
    · subst hc; simp [hi]
    · simp [hi, hc]
theorem rowF_congr (k : IntKind) {F G : Nat → Int} (n : Nat) (h : ∀ i, i < n → F i = G i) : rowF k F n = rowF k G n := by
  unfold rowF
  congr 1
  apply List.map_congr_left
  intro i hi
  rw [h i (by simpa using hi)]
theorem Blk.rowCell {w : World} {g : Nat} {t : TypeId} {k : IntKind} {F : Nat → Int} {n : Nat} (h : Blk w g t (rowF k F n)) (i : Nat) (hi : i < n) : w.cell? ⟨g, i, none⟩ = some (.int k (F i)) := (h.cell i).trans (rowF_get k F n i hi)
theorem Blk.rowSet {w : World} {g : Nat} {t : TypeId} {k : IntKind} {F G : Nat → Int} {n : Nat} (h : Blk w g t (rowF k F n)) (c : Nat) (x : Int) (hG : ∀ i, i < n → G i = if i = c then x else F i) : Blk (w.setCell ⟨g, c, none⟩ (.int k x)) g t (rowF k G n) := by
  have h1 := h.set_ c (.int k x)
  rw [rowF_set] at h1
  rw [rowF_congr k n hG]
  exact h1

theorem set_eq (cs : Array Value) (i j : Nat) (v : Value) (h : i < cs.size) (e : i = j) : (cs.setIfInBounds i v)[j]? = some v := by
  subst e
  rw [Array.getElem?_setIfInBounds, if_pos rfl, if_pos h]
theorem set_ne (cs : Array Value) (i j : Nat) (v : Value) (h : i ≠ j) : (cs.setIfInBounds i v)[j]? = cs[j]? := by
  rw [Array.getElem?_setIfInBounds, if_neg h]
/-- An element of an array that is a value. -/
theorem run_index_arr {P : Program} (w : World) {t e : TypeId} {n m : Nat} {cs : Array Value} {k : IntKind} {v : Value} (hu : P.underlying t = some (.array n e)) (hs : (P.info? e).map (·.size) = some 1) (ha : (isAgg e).run P w = .ok false w) (hm : m < n) (hv : cs[m]? = some v) :
    (Instr.index t (.agg cs) (.int k (m : Int))).run P w = .ok v w := by
  cases hq : P.info? e with
  | none => rw [hq] at hs; cases hs
  | some i =>
    have hsz : i.size = 1 := by simpa [hq] using hs
    have hb : (0 : Int) ≤ (m : Int) ∧ (m : Int) < (n : Int) := by omega
    simp [Instr.index, asIntOf, run_underlying hu, part, ha, sizeOf, typeInfo, hq, hsz, hm, hv]
end Go.Proofs.YtleiehiabcgalaaDoor

/- The filter of a plane, plain: what is foretold, what is left, and that it is undone number by number. -/
import Derived.Test.YtldilncpenellaaMem
import Derived.OpenShut
namespace Go.Proofs.Ytldilncpenellaa
open Go.RowKit
set_option linter.unusedVariables false
set_option linter.unusedSimpArgs false

/-- A number held within a byte. -/
def heldI (x : Int) : Int := if x < 0 then 0 else if x > 255 then 255 else x
theorem heldI_bd (x : Int) : 0 ≤ heldI x ∧ heldI x ≤ 255 := by unfold heldI; split <;> (try split) <;> omega

/-- What is foretold of number i. -/
def fore (kind : Int) (W : Nat) (P : List Int) (i : Nat) : Int :=
  if kind = 0 ∨ i = 0 then 0
  else if i % W = 0 then P.getD (i - W) 0
  else if i / W = 0 ∨ kind = 1 then P.getD (i - 1) 0
  else if kind = 2 then P.getD (i - W) 0
  else heldI (P.getD (i - 1) 0 + P.getD (i - W) 0 - P.getD (i - W - 1) 0)

theorem fore_none (W : Nat) (P : List Int) (i : Nat) : fore 0 W P i = 0 := by unfold fore; rw [if_pos (.inl rfl)]
theorem fore_first (kind : Int) (W : Nat) (P : List Int) : fore kind W P 0 = 0 := by unfold fore; rw [if_pos (.inr rfl)]
theorem fore_col {kind : Int} {W : Nat} {P : List Int} {i : Nat} (h0 : ¬ kind = 0) (hz : ¬ i = 0) (hx : i % W = 0) : fore kind W P i = P.getD (i - W) 0 := by
  unfold fore; rw [if_neg (fun h => h.elim h0 hz), if_pos hx]
theorem fore_left {kind : Int} {W : Nat} {P : List Int} {i : Nat} (h0 : ¬ kind = 0) (hz : ¬ i = 0) (hx : ¬ i % W = 0) (hy : i / W = 0 ∨ kind = 1) : fore kind W P i = P.getD (i - 1) 0 := by
  unfold fore; rw [if_neg (fun h => h.elim h0 hz), if_neg hx, if_pos hy]
theorem fore_up {kind : Int} {W : Nat} {P : List Int} {i : Nat} (h2 : kind = 2) (hz : ¬ i = 0) (hx : ¬ i % W = 0) (hy : ¬ (i / W = 0 ∨ kind = 1)) : fore kind W P i = P.getD (i - W) 0 := by
  unfold fore; rw [if_neg (fun h => h.elim (by omega) hz), if_neg hx, if_neg hy, if_pos h2]
theorem fore_grad {kind : Int} {W : Nat} {P : List Int} {i : Nat} (h0 : ¬ kind = 0) (h2 : ¬ kind = 2) (hz : ¬ i = 0) (hx : ¬ i % W = 0) (hy : ¬ (i / W = 0 ∨ kind = 1)) :
    fore kind W P i = heldI (P.getD (i - 1) 0 + P.getD (i - W) 0 - P.getD (i - W - 1) 0) := by
  unfold fore; rw [if_neg (fun h => h.elim h0 hz), if_neg hx, if_neg hy, if_neg h2]

/-- The plane with what is foretold taken away. -/
def filt (kind : Int) (W : Nat) (P : List Int) : List Int := (List.range P.length).map fun i => (P.getD i 0 - fore kind W P i) % 256

theorem filt_length (kind : Int) (W : Nat) (P : List Int) : (filt kind W P).length = P.length := by simp [filt]
theorem filt_getD (kind : Int) (W : Nat) (P : List Int) (i : Nat) (hi : i < P.length) : (filt kind W P).getD i 0 = (P.getD i 0 - fore kind W P i) % 256 := by
  simp [filt, hi]

/-- Bytes. -/
def IsB (P : List Int) : Prop := ∀ j, 0 ≤ P.getD j 0 ∧ P.getD j 0 ≤ 255
theorem isB_of {P : List Int} (h : ∀ n ∈ P, (Lit.int .u8 n).wf = true) : IsB P := fun j => by
  rcases Nat.lt_or_ge j P.length with hj | hj
  · have := Go.bounds_u8 (h _ (List.getElem_mem hj)); simpa [hj] using this
  · simp [hj]

/-- Halfway: the first m numbers are those of the plane, the others as they were filtered. -/
def half (P F : List Int) (m : Nat) : List Int := P.take m ++ F.drop m
theorem half_length (P F : List Int) (m : Nat) (h : F.length = P.length) : (half P F m).length = P.length := by simp [half]; omega
theorem half_lo (P F : List Int) (m j : Nat) (h : F.length = P.length) (hj : j < m) (hm : m ≤ P.length) : (half P F m).getD j 0 = P.getD j 0 := by
  have h1 : j < (P.take m).length := by simp; omega
  simp [half, List.getD_eq_getElem?_getD, List.getElem?_append_left h1, List.getElem?_take, hj]
theorem half_hi (P F : List Int) (m j : Nat) (h : F.length = P.length) (hj : m ≤ j) (hm : m ≤ P.length) : (half P F m).getD j 0 = F.getD j 0 := by
  have h1 : (P.take m).length ≤ j := by simp; omega
  have e : (P.take m).length = m := by simp; omega
  simp only [half, List.getD_eq_getElem?_getD, List.getElem?_append_right h1, e, List.getElem?_drop]
  congr 2; omega
theorem half_zero (P F : List Int) : half P F 0 = F := by simp [half]
theorem half_all (P F : List Int) (h : F.length = P.length) : half P F P.length = P := by simp [half, List.drop_eq_nil_of_le (Nat.le_of_eq h)]
theorem half_set (P F : List Int) (m : Nat) (h : F.length = P.length) (hm : m < P.length) : (half P F m).set m (P.getD m 0) = half P F (m + 1) := by
  have hl : (half P F m).length = P.length := half_length P F m h
  have hl' : (half P F (m + 1)).length = P.length := half_length P F (m + 1) h
  have g (q : List Int) (j : Nat) (hq : j < q.length) : q[j] = q.getD j 0 := by simp [hq]
  apply List.ext_getElem (by simp [hl, hl'])
  intro j h1 h2
  rw [List.getElem_set]
  split
  · rename_i e; subst e
    rw [g, half_lo P F (m + 1) m h (by omega) (by omega)]
  · rename_i e
    rw [g, g]
    rcases Nat.lt_or_ge j m with h1 | h1
    · rw [half_lo P F m j h h1 (by omega), half_lo P F (m + 1) j h (by omega) (by omega)]
    · rw [half_hi P F m j h h1 (by omega), half_hi P F (m + 1) j h (by omega) (by omega)]

/-- A filtered number with what is foretold is the number. -/
theorem undo (p g : Int) (h : 0 ≤ p ∧ p ≤ 255) : ((p - g) % 256 + g) % 256 = p := by omega

theorem filt_zero (W : Nat) (P : List Int) (hB : IsB P) : filt 0 W P = P := by
  apply List.ext_getElem (filt_length 0 W P)
  intro j h1 h2
  have e := filt_getD 0 W P j h2
  rw [fore_none] at e
  have hb := hB j
  simp [List.getD_eq_getElem?_getD, h1, h2] at e hb
  rw [e]; omega
theorem half_one (kind : Int) (W : Nat) (P : List Int) (hB : IsB P) (hp : 1 ≤ P.length) : half P (filt kind W P) 1 = filt kind W P := by
  have e : P.getD 0 0 = (filt kind W P).getD 0 0 := by
    rw [filt_getD kind W P 0 (by omega), fore_first]
    have := hB 0
    omega
  have h := half_set P (filt kind W P) 0 (filt_length kind W P) (by omega)
  rw [half_zero, e] at h
  rw [← h]
  apply List.ext_getElem (by simp)
  intro j h1 h2
  rw [List.getElem_set]
  split
  · rename_i e; subst e; simp [List.getD_eq_getElem?_getD, List.getElem?_eq_getElem h2]
  · rfl

/-- What a step of the undoing finds and leaves, at number m. -/
theorem undo_at (kind : Int) (W : Nat) (P : List Int) (hB : IsB P) (m : Nat) (hm : m < P.length) (x : Int) (hx : fore kind W P m = x) : ((filt kind W P).getD m 0 + x) % 256 = P.getD m 0 := by
  rw [filt_getD kind W P m hm, hx]
  exact undo _ _ (hB m)
theorem undo_at' (kind : Int) (W : Nat) (P : List Int) (hB : IsB P) (m : Nat) (hm : m < P.length) (x : Int) (hx : fore kind W P m = x) : (x + (filt kind W P).getD m 0) % 256 = P.getD m 0 := by
  rw [Int.add_comm]; exact undo_at kind W P hB m hm x hx

theorem row_next {q n W : Nat} (hq : q % W = 0) (hn : n % W = 0) (h : q < n) : q + W ≤ n := by
  rcases Nat.eq_zero_or_pos W with rfl | hW
  · simp at hq hn; omega
  · have a := Nat.div_add_mod q W
    have b := Nat.div_add_mod n W
    rw [hq, Nat.add_zero] at a
    rw [hn, Nat.add_zero] at b
    have hlt : q / W < n / W := by
      rcases Nat.lt_or_ge (q / W) (n / W) with c | c
      · exact c
      · have := Nat.mul_le_mul_left W c; omega
    have h2 := Nat.mul_le_mul_left W hlt
    rw [Nat.succ_eq_add_one, Nat.mul_add, Nat.mul_one] at h2
    omega
theorem at_first {m W : Nat} (h0 : 0 < m) (h : m < W) : ¬ m = 0 ∧ ¬ m % W = 0 ∧ m / W = 0 := ⟨by omega, by rw [Nat.mod_eq_of_lt h]; omega, Nat.div_eq_of_lt h⟩
theorem at_inner {q j W : Nat} (hq : q % W = 0) (hW : W ≤ q) (h0 : 0 < j) (h : j < W) : ¬ q + j = 0 ∧ ¬ (q + j) % W = 0 ∧ ¬ (q + j) / W = 0 := by
  refine ⟨by omega, ?_, ?_⟩
  · rw [Nat.add_mod, hq, Nat.zero_add, Nat.mod_mod, Nat.mod_eq_of_lt h]; omega
  · intro e
    have := Nat.div_eq_zero_iff.1 e
    omega

end Go.Proofs.Ytldilncpenellaa

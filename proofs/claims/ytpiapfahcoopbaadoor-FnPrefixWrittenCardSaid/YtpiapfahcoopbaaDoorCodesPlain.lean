/- Codes of lengths, plain: first codes, the tree's sum, what is left free. No program in sight. -/
import Derived.Test.YtpiapfahcoopbaaDoorMem
namespace Go.Proofs.YtpiapfahcoopbaaDoor
set_option linter.unusedSimpArgs false
set_option linter.unusedVariables false

/-- How many of the first m lengths are n. -/
def cntT (L : List Nat) (n m : Nat) : Nat := (L.take m).count n
def cnt (L : List Nat) (n : Nat) : Nat := L.count n
theorem cntT_zero (L : List Nat) (n : Nat) : cntT L n 0 = 0 := by simp [cntT]
theorem cntT_succ (L : List Nat) (n m : Nat) (h : m < L.length) : cntT L n (m + 1) = cntT L n m + if L.getD m 0 = n then 1 else 0 := by
  unfold cntT
  rw [List.take_succ_eq_append_getElem h, List.count_append]
  have e : L.getD m 0 = L[m] := by simp [h]
  rw [e]
  by_cases hn : L[m] = n
  · simp [hn]
  · simp [hn, List.count_cons]
theorem cntT_all (L : List Nat) (n : Nat) : cntT L n L.length = cnt L n := by simp [cntT, cnt]
theorem cntT_le (L : List Nat) (n m : Nat) : cntT L n m ≤ cnt L n := by
  unfold cntT cnt
  exact (List.take_sublist m L).count_le n
theorem cntT_lt (L : List Nat) (n m : Nat) (h : m < L.length) (e : L.getD m 0 = n) : cntT L n m < cnt L n := by
  have h1 := cntT_succ L n m h
  rw [if_pos e] at h1
  have h2 := cntT_le L n (m + 1)
  omega
theorem cnt_le (L : List Nat) (n : Nat) : cnt L n ≤ L.length := List.count_le_length
theorem cntT_le_m (L : List Nat) (n m : Nat) : cntT L n m ≤ m := by
  unfold cntT
  refine Nat.le_trans List.count_le_length ?_
  simp
  omega

/-- The first code of each length: the reference's. -/
def gN (L : List Nat) : Nat → Nat
  | 0 => 0
  | n + 1 => 2 * (gN L n + if n = 0 then 0 else cnt L n)
/-- .. the program's: those of no length are counted too. -/
def fN (L : List Nat) : Nat → Nat
  | 0 => 0
  | n + 1 => 2 * (fN L n + cnt L n)
theorem fN_eq (L : List Nat) (n : Nat) : fN L (n + 1) = gN L (n + 1) + cnt L 0 * 2 ^ (n + 1) := by
  induction n with
  | zero => simp [fN, gN]; omega
  | succ n ih =>
    rw [fN, ih, gN.eq_2 L (n + 1), Nat.pow_succ 2 (n + 1), if_neg (show ¬ n + 1 = 0 by omega), ← Nat.mul_assoc (cnt L 0)]
    omega
def codeG (L : List Nat) (j : Nat) : Nat := if L.getD j 0 = 0 then 0 else gN L (L.getD j 0) + cntT L (L.getD j 0) j
def codeF (L : List Nat) (j : Nat) : Nat := if L.getD j 0 = 0 then 0 else fN L (L.getD j 0) + cntT L (L.getD j 0) j
theorem code_low (L : List Nat) (j : Nat) : codeF L j % 2 ^ L.getD j 0 = codeG L j % 2 ^ L.getD j 0 := by
  unfold codeF codeG
  by_cases h : L.getD j 0 = 0
  · rw [if_pos h, if_pos h]
  · rw [if_neg h, if_neg h]
    obtain ⟨n, hn⟩ := Nat.exists_eq_succ_of_ne_zero h
    rw [hn, Nat.succ_eq_add_one, fN_eq]
    rw [show gN L (n + 1) + cnt L 0 * 2 ^ (n + 1) + cntT L (n + 1) j = gN L (n + 1) + cntT L (n + 1) j + cnt L 0 * 2 ^ (n + 1) by omega]
    exact Nat.add_mul_mod_self_right _ _ _

/-- The tree's sum, in parts of 2^15. -/
def wgt (x : Nat) : Nat := if x = 0 then 0 else 2 ^ (15 - x)
def kT (L : List Nat) (m : Nat) : Nat := ((L.take m).map wgt).sum
def kraft (L : List Nat) : Nat := (L.map wgt).sum
def nzT (L : List Nat) (m : Nat) : Nat := (L.take m).countP (fun x => x != 0)
def nz (L : List Nat) : Nat := L.countP (fun x => x != 0)
theorem kT_succ (L : List Nat) (m : Nat) (h : m < L.length) : kT L (m + 1) = kT L m + wgt (L.getD m 0) := by
  unfold kT
  have e : L.getD m 0 = L[m] := by simp [h]
  rw [List.take_succ_eq_append_getElem h, e, List.map_append, List.sum_append]
  simp
theorem kT_all (L : List Nat) : kT L L.length = kraft L := by simp [kT, kraft]
theorem wgt_le (x : Nat) : wgt x ≤ 16384 := by
  unfold wgt
  by_cases h : x = 0
  · simp [h]
  · rw [if_neg h]
    exact Nat.le_trans (Nat.pow_le_pow_right (by decide) (show 15 - x ≤ 14 by omega)) (by decide)
theorem kT_le (L : List Nat) (m : Nat) : kT L m ≤ 16384 * m := by
  induction m with
  | zero => simp [kT]
  | succ m ih =>
    rcases Nat.lt_or_ge m L.length with h | h
    · rw [kT_succ L m h]
      have := wgt_le (L.getD m 0)
      omega
    · have e : kT L (m + 1) = kT L m := by unfold kT; rw [List.take_of_length_le (by omega), List.take_of_length_le h]
      omega
theorem nzT_succ (L : List Nat) (m : Nat) (h : m < L.length) : nzT L (m + 1) = nzT L m + if L.getD m 0 = 0 then 0 else 1 := by
  unfold nzT
  rw [List.take_succ_eq_append_getElem h, List.countP_append]
  have e : L.getD m 0 = L[m] := by simp [h]
  rw [e]
  by_cases hn : L[m] = 0
  · simp [hn]
  · simp [hn]
theorem nzT_all (L : List Nat) : nzT L L.length = nz L := by simp [nzT, nz]
theorem nzT_le (L : List Nat) (m : Nat) : nzT L m ≤ m := by
  unfold nzT
  refine Nat.le_trans List.countP_le_length ?_
  simp
  omega

/-- The sum by lengths. -/
def kS (L : List Nat) : Nat → Nat
  | 0 => 0
  | n + 1 => kS L n + cnt L (n + 1) * 2 ^ (15 - (n + 1))
theorem kS_cons (x : Nat) (L : List Nat) (n : Nat) (hn : n ≤ 15) : kS (x :: L) n = kS L n + if x ≤ n then wgt x else 0 := by
  induction n with
  | zero =>
    by_cases h : x = 0
    · simp [kS, h, wgt]
    · simp [kS, h]
  | succ n ih =>
    rw [kS, ih (by omega), kS]
    have e : cnt (x :: L) (n + 1) = cnt L (n + 1) + if x = n + 1 then 1 else 0 := by
      unfold cnt
      rw [List.count_cons]
      by_cases h : x = n + 1 <;> simp [h]
    rw [e, Nat.add_mul]
    by_cases h1 : x = n + 1
    · subst h1
      rw [if_pos rfl, if_neg (show ¬ n + 1 ≤ n by omega), if_pos (Nat.le_refl _), wgt, if_neg (by omega)]
      omega
    · by_cases h2 : x ≤ n
      · rw [if_pos h2, if_neg h1, if_pos (show x ≤ n + 1 by omega)]
        omega
      · rw [if_neg h2, if_neg h1, if_neg (show ¬ x ≤ n + 1 by omega)]
        omega
theorem kS_eq (L : List Nat) (h : ∀ x ∈ L, x ≤ 15) : kS L 15 = kraft L := by
  induction L with
  | nil => decide
  | cons x L ih =>
    rw [kS_cons x L 15 (by decide), ih (fun y hy => h y (by simp [hy])), if_pos (h x (by simp))]
    simp [kraft]
    omega
theorem kS_mono (L : List Nat) {n m : Nat} (h : n ≤ m) : kS L n ≤ kS L m := by
  induction m with
  | zero => simp at h; subst h; exact Nat.le_refl _
  | succ m ih =>
    rcases Nat.lt_or_ge n (m + 1) with h1 | h1
    · have := ih (by omega)
      rw [kS]
      omega
    · have : n = m + 1 := by omega
      subst this
      exact Nat.le_refl _
/-- The first code of a length stands behind all shorter ones. -/
theorem gN_kS (L : List Nat) (n : Nat) (hn : n + 1 ≤ 15) : gN L (n + 1) * 2 ^ (15 - (n + 1)) = kS L n := by
  induction n with
  | zero => simp [gN, kS]
  | succ n ih =>
    have h1 := ih (by omega)
    have e : (2 : Nat) ^ (15 - (n + 1)) = 2 * 2 ^ (15 - (n + 1 + 1)) := by
      rw [← Nat.pow_succ']
      congr 1
      omega
    rw [gN, if_neg (by omega), kS, ← h1, e]
    simp [Nat.mul_add, Nat.add_mul, Nat.mul_assoc, Nat.mul_left_comm]
theorem gN_top (L : List Nat) (n : Nat) (h0 : 1 ≤ n) (hn : n ≤ 15) (hk : kS L 15 ≤ 32768) : gN L n + cnt L n ≤ 2 ^ n := by
  obtain ⟨m, rfl⟩ := Nat.exists_eq_succ_of_ne_zero (show n ≠ 0 by omega)
  have h1 := gN_kS L m hn
  have h2 : kS L (m + 1) ≤ 32768 := Nat.le_trans (kS_mono L hn) hk
  rw [kS, ← h1, ← Nat.add_mul] at h2
  have e : (32768 : Nat) = 2 ^ (m + 1) * 2 ^ (15 - (m + 1)) := by
    rw [← Nat.pow_add, show m + 1 + (15 - (m + 1)) = 15 by omega]
  rw [e] at h2
  exact Nat.le_of_mul_le_mul_right h2 (Nat.pow_pos (by decide))

/-- What is left free at each length. -/
def frI (L : List Nat) : Nat → Int
  | 0 => 1
  | n + 1 => 2 * frI L n - (cnt L (n + 1) : Int)
theorem frI_kS (L : List Nat) (n : Nat) (hn : n ≤ 15) : frI L n * 2 ^ (15 - n) = 32768 - (kS L n : Int) := by
  induction n with
  | zero => simp [frI, kS]
  | succ n ih =>
    have h1 := ih (by omega)
    have e : (2 : Int) ^ (15 - n) = 2 * 2 ^ (15 - (n + 1)) := by
      rw [← Int.pow_succ']
      congr 1
      omega
    rw [e] at h1
    rw [frI, kS, Int.sub_mul, Int.natCast_add, Int.natCast_mul]
    have e2 : ((2 ^ (15 - (n + 1)) : Nat) : Int) = 2 ^ (15 - (n + 1)) := by simp
    rw [e2]
    generalize (2 : Int) ^ (15 - (n + 1)) = p at *
    have h2 : frI L n * (2 * p) = 2 * frI L n * p := by rw [← Int.mul_assoc, Int.mul_comm (frI L n) 2]
    omega
theorem frI_nonneg (L : List Nat) (n : Nat) (hn : n ≤ 15) (hk : kS L 15 ≤ 32768) : 0 ≤ frI L n := by
  have h1 := frI_kS L n hn
  have h2 := kS_mono L hn
  have h3 : (0 : Int) < 2 ^ (15 - n) := Int.pow_pos (by decide)
  have h4 : 0 ≤ frI L n * 2 ^ (15 - n) := by omega
  rcases Int.lt_or_le (frI L n) 0 with h | h
  · have := Int.mul_neg_of_neg_of_pos h h3
    omega
  · exact h
theorem frI_all (L : List Nat) (hk : kS L 15 = 32768) : frI L 15 = 0 := by
  have h1 := frI_kS L 15 (by decide)
  simp [hk] at h1
  exact h1
theorem frI_gN (L : List Nat) (n : Nat) : frI L (n + 1) = 2 ^ (n + 1) - ((gN L (n + 1) + cnt L (n + 1) : Nat) : Int) := by
  induction n with
  | zero => simp [frI, gN]
  | succ n ih =>
    rw [frI, ih, gN.eq_2 L (n + 1), if_neg (show ¬ n + 1 = 0 by omega)]
    have e : (2 : Int) ^ (n + 1 + 1) = 2 * 2 ^ (n + 1) := Int.pow_succ' _ _
    rw [e]
    generalize (2 : Int) ^ (n + 1) = p
    simp
    omega
def wholeB (L : List Nat) : Bool := decide (1 < nz L ∧ kraft L = 32768)
theorem frI_le (L : List Nat) (n : Nat) (hn : n ≤ 15) : frI L n ≤ 2 ^ n := by
  induction n with
  | zero => simp [frI]
  | succ n ih =>
    have := ih (by omega)
    have e : (2 : Int) ^ (n + 1) = 2 * 2 ^ n := Int.pow_succ' _ _
    rw [frI, e]
    omega

/-- The symbols by length and number. -/
def symsAt (L : List Nat) (n m : Nat) : List Nat := (List.range m).filter fun s => L.getD s 0 == n
def symsU (L : List Nat) : Nat → List Nat
  | 0 => []
  | n + 1 => symsU L n ++ symsAt L (n + 1) L.length
theorem symsAt_succ (L : List Nat) (n m : Nat) : symsAt L n (m + 1) = symsAt L n m ++ if L.getD m 0 = n then [m] else [] := by
  unfold symsAt
  rw [List.range_succ, List.filter_append]
  congr 1
  by_cases h : L.getD m 0 = n
  · rw [if_pos h, List.filter_cons_of_pos (by rw [h]; simp)]
    rfl
  · rw [if_neg h, List.filter_cons_of_neg (by simpa using h)]
    rfl
theorem symsAt_len (L : List Nat) (n m : Nat) (h : m ≤ L.length) : (symsAt L n m).length = cntT L n m := by
  induction m with
  | zero => simp [symsAt, cntT]
  | succ m ih =>
    rw [symsAt_succ, List.length_append, ih (by omega), cntT_succ L n m (by omega)]
    by_cases hn : L.getD m 0 = n
    · rw [if_pos hn, if_pos hn]
      rfl
    · rw [if_neg hn, if_neg hn]
      rfl
def cntS (L : List Nat) : Nat → Nat
  | 0 => 0
  | n + 1 => cntS L n + cnt L (n + 1)
theorem symsU_len (L : List Nat) (n : Nat) : (symsU L n).length = cntS L n := by
  induction n with
  | zero => rfl
  | succ n ih => rw [symsU, List.length_append, ih, symsAt_len L _ _ (Nat.le_refl _), cntT_all, cntS]
theorem cntS_cons (x : Nat) (L : List Nat) (n : Nat) : cntS (x :: L) n = cntS L n + if x ≠ 0 ∧ x ≤ n then 1 else 0 := by
  induction n with
  | zero =>
    have : ¬ (x ≠ 0 ∧ x ≤ 0) := by omega
    simp [cntS, this]
  | succ n ih =>
    have e : cnt (x :: L) (n + 1) = cnt L (n + 1) + if x = n + 1 then 1 else 0 := by
      unfold cnt
      rw [List.count_cons]
      by_cases h : x = n + 1 <;> simp [h]
    rw [cntS, ih, cntS, e]
    by_cases h1 : x = n + 1
    · rw [if_pos h1, if_neg (by omega), if_pos (by omega)]
      omega
    · by_cases h2 : x ≠ 0 ∧ x ≤ n
      · rw [if_neg h1, if_pos h2, if_pos (by omega)]
        omega
      · rw [if_neg h1, if_neg h2, if_neg (by omega)]
        omega
theorem cntS_all (L : List Nat) (h : ∀ x ∈ L, x ≤ 15) : cntS L 15 = nz L := by
  induction L with
  | nil => decide
  | cons x L ih =>
    rw [cntS_cons, ih (fun y hy => h y (by simp [hy]))]
    have hx := h x (by simp)
    unfold nz
    rw [List.countP_cons]
    by_cases h0 : x = 0
    · simp [h0]
    · simp [h0, hx]
theorem cntS_le (L : List Nat) (n : Nat) (h : ∀ x ∈ L, x ≤ 15) (hn : n ≤ 15) : cntS L n ≤ L.length := by
  have hm : ∀ k, n ≤ k → cntS L n ≤ cntS L k := by
    intro k hk
    induction k with
    | zero => simp at hk; subst hk; exact Nat.le_refl _
    | succ k ih =>
      rcases Nat.lt_or_ge n (k + 1) with h1 | h1
      · have := ih (by omega)
        rw [cntS]
        omega
      · have : n = k + 1 := by omega
        subst this
        exact Nat.le_refl _
  have h1 := hm 15 hn
  rw [cntS_all L h] at h1
  exact Nat.le_trans h1 List.countP_le_length
end Go.Proofs.YtpiapfahcoopbaaDoor

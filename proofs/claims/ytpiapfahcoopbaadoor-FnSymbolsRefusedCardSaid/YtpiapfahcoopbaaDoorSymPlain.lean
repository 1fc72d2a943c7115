/- Which symbol stands at which place of the reference's list. No program in sight. -/
import Derived.Test.YtpiapfahcoopbaaDoorHitPlain
namespace Go.Proofs.YtpiapfahcoopbaaDoor
set_option linter.unusedSimpArgs false
set_option linter.unusedVariables false

theorem symsAt_get (L : List Nat) (n : Nat) : ∀ (m t : Nat), m ≤ L.length → t < m → L.getD t 0 = n → (symsAt L n m).getD (cntT L n t) 0 = t
  | 0, t, _, h, _ => by omega
  | m + 1, t, hm, h, ht => by
    rw [symsAt_succ]
    have hl := symsAt_len L n m (by omega)
    rcases Nat.lt_or_eq_of_le (Nat.le_of_lt_succ h) with h1 | h1
    · have h2 : cntT L n t < cntT L n m := by
        have := cntT_step (L := L) (s := t) (t := m) (by omega) h1
        rwa [ht] at this
      have ih := symsAt_get L n m t (by omega) h1 ht
      rw [List.getD_eq_getElem?_getD, List.getElem?_append_left (by omega), ← List.getD_eq_getElem?_getD]
      exact ih
    · subst h1
      rw [if_pos ht, List.getD_eq_getElem?_getD, List.getElem?_append_right (by omega), hl, Nat.sub_self]
      rfl
theorem cntS_mono (L : List Nat) {a b : Nat} (h : a ≤ b) : cntS L a ≤ cntS L b := by
  induction b with
  | zero => have : a = 0 := by omega
            subst this; exact Nat.le_refl _
  | succ b ih =>
    rcases Nat.lt_or_ge a (b + 1) with h1 | h1
    · have := ih (by omega)
      rw [cntS]; omega
    · have : a = b + 1 := by omega
      subst this; exact Nat.le_refl _
theorem symsU_get (L : List Nat) {t n : Nat} (hu : Used L t) (hn : L.getD t 0 = n + 1) : ∀ N, n + 1 ≤ N → (symsU L N).getD (cntS L n + cntT L (n + 1) t) 0 = t
  | 0, h => by omega
  | N + 1, h => by
    have hlt : cntT L (n + 1) t < cnt L (n + 1) := cntT_lt L (n + 1) t hu.lt hn
    have hl := symsU_len L N
    rw [symsU]
    rcases Nat.lt_or_eq_of_le (Nat.le_of_succ_le_succ h) with h1 | h1
    · have ih := symsU_get L hu hn N (by omega)
      have h2 : cntS L (n + 1) ≤ cntS L N := cntS_mono L h1
      rw [cntS] at h2
      rw [List.getD_eq_getElem?_getD, List.getElem?_append_left (by omega), ← List.getD_eq_getElem?_getD]
      exact ih
    · subst h1
      rw [List.getD_eq_getElem?_getD, List.getElem?_append_right (by omega), hl, Nat.add_sub_cancel_left, ← List.getD_eq_getElem?_getD]
      exact symsAt_get L (n + 1) L.length t (Nat.le_refl _) hu.lt hn
/-- What the reference finds at length n is the symbol. -/
theorem found {L : List Nat} (hL : ∀ x ∈ L, x ≤ 15) (hk : kS L 15 = 32768) {B : List Nat} {pos n : Nat} (hn : n + 1 ≤ 15) (h1 : topN L n ≤ vN B pos n) (h2 : vN B pos (n + 1) < gN L (n + 1) + cnt L (n + 1)) :
    L.getD (dec L B pos) 0 = n + 1 ∧ (symsU L 15).getD (cntS L n + (vN B pos (n + 1) - gN L (n + 1))) 0 = dec L B pos ∧ cntS L n + (vN B pos (n + 1) - gN L (n + 1)) < nz L ∧ gN L (n + 1) ≤ vN B pos (n + 1) := by
  have hg : gN L (n + 1) ≤ vN B pos (n + 1) := by rw [gN_top2, vN_succ]; omega
  obtain ⟨t, ht, h3, h4⟩ := code_ex (L := L) (n := n + 1) (v := vN B pos (n + 1)) (by omega) hg (by unfold topN; rw [if_neg (by omega)]; exact h2)
  have hd : dec L B pos = t := dec_eq hL hk ⟨ht, by rw [h3]; exact h4.symm⟩
  have hc : cntT L (n + 1) t = vN B pos (n + 1) - gN L (n + 1) := by
    unfold codeG at h4
    rw [h3, if_neg (by omega)] at h4
    omega
  rw [hd, ← hc]
  refine ⟨h3, symsU_get L ht h3 15 hn, ?_, hg⟩
  have h5 := cntT_lt L (n + 1) t ht.lt h3
  have h6 := cntS_mono L hn
  rw [cntS_all L hL, cntS] at h6
  omega
/-- What it does not find is longer. -/
theorem not_found {L B : List Nat} {pos n : Nat} (h1 : topN L n ≤ vN B pos n) (h2 : ¬ vN B pos (n + 1) < gN L (n + 1) + cnt L (n + 1)) : topN L (n + 1) ≤ vN B pos (n + 1) := by
  unfold topN
  rw [if_neg (by omega)]
  omega
theorem top_zero (L B : List Nat) (pos : Nat) : topN L 0 ≤ vN B pos 0 := by simp [topN, gN, vN, revN]
theorem top_end {L B : List Nat} {pos : Nat} (hk : kS L 15 = 32768) : ¬ topN L 15 ≤ vN B pos 15 := by
  rw [top15 hk]
  have := vN_lt B pos 15
  omega
theorem cntS_bd (L : List Nat) (hL : ∀ x ∈ L, x ≤ 15) (n : Nat) (hn : n ≤ 15) : cntS L n ≤ nz L := by
  have := cntS_mono L hn
  rwa [cntS_all L hL] at this
end Go.Proofs.YtpiapfahcoopbaaDoor

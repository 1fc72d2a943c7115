/- Plain facts on integers: masks, shifts. No program in sight. -/
import Derived.WalkKit
import Derived.Laws.BitsAllLaws
namespace Go.Proofs.YtpiapfahcoopbaaDoor.Plain
set_option linter.unusedSimpArgs false
set_option linter.unusedVariables false
open Go.RowKit

theorem wrap_small (k : IntKind) (i : Nat) (hi : i < k.bits) (n : Int) (h0 : 0 ≤ n) (h1 : n < 2 ^ i) : k.wrap n = n := by
  have hp : (2 : Int) ^ i ≤ 2 ^ (k.bits - 1) := by
    have : (2 ^ i : Nat) ≤ 2 ^ (k.bits - 1) := Nat.pow_le_pow_right (by decide) (by omega)
    exact_mod_cast this
  have hb : (2 : Int) ^ k.bits = 2 * 2 ^ (k.bits - 1) := by
    have : k.bits = (k.bits - 1) + 1 := by omega
    rw [this, Int.pow_succ]; simp; omega
  have hm : n % 2 ^ k.bits = n := Int.emod_eq_of_lt h0 (by omega)
  simp only [IntKind.wrap, hm]
  split
  · rename_i h
    simp at h
    omega
  · rfl

/-- A mask of the lowest bits, of any number. -/
theorem and_mask (k : IntKind) (i : Nat) (hi : i < k.bits) (x : Int) : bits .and k x (2 ^ i - 1) = x % 2 ^ i := by
  have hp : (0 : Int) < 2 ^ i := Int.pow_pos (by decide)
  have hx : (x % 2 ^ k.bits).toNat &&& (2 ^ i - 1) = (x % 2 ^ i).toNat := by
    have hpk : (0 : Int) < 2 ^ k.bits := Int.pow_pos (by decide)
    rw [Nat.and_two_pow_sub_one_eq_mod]
    have h2 : ((2 : Int) ^ i) = ((2 ^ i : Nat) : Int) := by simp
    have hd : (2 : Int) ^ i ∣ 2 ^ k.bits := by
      refine ⟨2 ^ (k.bits - i), ?_⟩
      rw [← Int.pow_add]; congr 1; omega
    have e : x % 2 ^ k.bits % 2 ^ i = x % 2 ^ i := Int.emod_emod_of_dvd x hd
    have hnn : 0 ≤ x % 2 ^ k.bits := Int.emod_nonneg _ (by omega)
    obtain ⟨a, ha⟩ := Int.eq_ofNat_of_zero_le hnn
    rw [← e, ha, h2, ← Int.natCast_emod, Int.toNat_natCast, Int.toNat_natCast]
  have e1 : (BitVec.ofInt k.bits x).toNat = (x % 2 ^ k.bits).toNat := by
    rw [BitVec.toNat_ofInt]; simp
  have e2 : (BitVec.ofInt k.bits (2 ^ i - 1 : Int)).toNat = 2 ^ i - 1 := by
    rw [BitVec.toNat_ofInt]
    have h3 : ((2 : Int) ^ i - 1) = ((2 ^ i - 1 : Nat) : Int) := by
      have : 1 ≤ 2 ^ i := Nat.one_le_two_pow
      rw [Int.ofNat_sub this]; simp
    have h4 : (2 ^ i - 1 : Nat) < 2 ^ k.bits := by
      have : (2 ^ i : Nat) ≤ 2 ^ k.bits := Nat.pow_le_pow_right (by decide) (by omega)
      have : 1 ≤ 2 ^ i := Nat.one_le_two_pow
      omega
    rw [h3]
    simp only [← Int.natCast_emod, Int.toNat_natCast]
    exact Nat.mod_eq_of_lt h4
  have hb : (bits .and k x (2 ^ i - 1)) = k.wrap (((BitVec.ofInt k.bits x) &&& (BitVec.ofInt k.bits (2 ^ i - 1 : Int))).toNat : Int) := rfl
  rw [hb, BitVec.toNat_and, e1, e2, hx]
  have hm0 : 0 ≤ x % 2 ^ i := Int.emod_nonneg _ (by omega)
  have hm1 : x % 2 ^ i < 2 ^ i := Int.emod_lt_of_pos _ hp
  rw [Int.toNat_of_nonneg hm0]
  exact wrap_small k i hi _ hm0 hm1

/-- One bit of a number that has none above it. -/
theorem and_bit (k : IntKind) (i : Nat) (hi : i + 1 < k.bits) (x : Int) (h0 : 0 ≤ x) (h1 : x < 2 ^ (i + 1)) : bits .and k x (2 ^ i) = if 2 ^ i ≤ x then 2 ^ i else 0 := by
  obtain ⟨n, rfl⟩ := Int.eq_ofNat_of_zero_le h0
  have hn : n < 2 ^ (i + 1) := by exact_mod_cast h1
  have hk : 2 ^ (i + 1) < 2 ^ k.bits := Nat.pow_lt_pow_right (by decide) hi
  have hp : (2 : Nat) ^ (i + 1) = 2 * 2 ^ i := by rw [Nat.pow_succ, Nat.mul_comm]
  have e1 : (BitVec.ofInt k.bits ((n : Nat) : Int)).toNat = n := by
    rw [BitVec.toNat_ofInt]
    have : ((2 ^ k.bits : Nat) : Int) = (2 : Int) ^ k.bits := by simp
    rw [← Int.natCast_emod, Int.toNat_natCast]
    exact Nat.mod_eq_of_lt (by omega)
  have e2 : (BitVec.ofInt k.bits ((2 : Int) ^ i)).toNat = 2 ^ i := by
    rw [BitVec.toNat_ofInt]
    have h3 : ((2 : Int) ^ i) = ((2 ^ i : Nat) : Int) := by simp
    rw [h3, ← Int.natCast_emod, Int.toNat_natCast]
    exact Nat.mod_eq_of_lt (by omega)
  have hb : (bits .and k ((n : Nat) : Int) (2 ^ i)) = k.wrap (((BitVec.ofInt k.bits ((n : Nat) : Int)) &&& (BitVec.ofInt k.bits ((2 : Int) ^ i))).toNat : Int) := rfl
  have e3 : n &&& 2 ^ i = if 2 ^ i ≤ n then 2 ^ i else 0 := by
    have ht : n.testBit i = decide (2 ^ i ≤ n) := by
      rw [Nat.testBit_eq_decide_div_mod_eq]
      generalize hP : (2 : Nat) ^ i = p at *
      have hpos : 0 < p := by rw [← hP]; exact Nat.pow_pos (by decide)
      by_cases h : p ≤ n
      · have hd : n / p = 1 := Nat.div_eq_of_lt_le (by omega) (by omega)
        simp [hd, h]
      · have hd : n / p = 0 := Nat.div_eq_of_lt (by omega)
        simp [hd, h]
    apply Nat.eq_of_testBit_eq
    intro j
    rw [Nat.testBit_and, Nat.testBit_two_pow]
    by_cases h : 2 ^ i ≤ n
    · rw [if_pos h, Nat.testBit_two_pow]
      by_cases hj : i = j
      · subst hj; simp [ht, h]
      · simp [hj]
    · rw [if_neg h]
      by_cases hj : i = j
      · subst hj; simp [ht, h]
      · simp [hj]
  rw [hb, BitVec.toNat_and, e1, e2, e3]
  have e4 : ((2 : Int) ^ i ≤ (n : Int)) ↔ 2 ^ i ≤ n := by
    have h3 : ((2 : Int) ^ i) = ((2 ^ i : Nat) : Int) := by simp
    rw [h3]; exact Int.ofNat_le
  by_cases h : 2 ^ i ≤ n
  · rw [if_pos h, if_pos (e4.2 h)]
    rw [wrap_small k (i + 1) (by omega) _ (by omega) ?_]
    · simp
    · rw [Int.pow_succ]
      have : (0 : Int) < 2 ^ i := Int.pow_pos (by decide)
      simp
      omega
  · rw [if_neg h, if_neg (fun a => h (e4.1 a))]
    exact wrap_small k (i + 1) (by omega) _ (by omega) (Int.pow_pos (by decide))

end Go.Proofs.YtpiapfahcoopbaaDoor.Plain

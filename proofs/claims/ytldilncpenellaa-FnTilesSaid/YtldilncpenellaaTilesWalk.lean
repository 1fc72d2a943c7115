/- How many blocks of 2^n a side has: the walk of nTiles, and of the law. -/
import Derived.Test.YtldilncpenellaaSums
import Derived.Test.YtldilncpenellaaPlain
import Derived.Deep.DeepFit
namespace Go.Proofs.Ytldilncpenellaa
open Go.ChangeShapes Go.WideShapes Go.ChangeAt Go.RowKit Plain
theorem pow_bd (n : Int) (h3 : 0 ≤ n) (h4 : n ≤ 9) : (1:Int) ≤ 2 ^ n.toNat ∧ (2:Int) ^ n.toNat ≤ 512 := by
  constructor
  · have := Int.pow_pos (n := 2) (m := n.toNat) (by decide); omega
  · have : n.toNat ≤ 9 := by omega
    have := Nat.pow_le_pow_right (n := 2) (by decide) this
    have h2 : ((2 ^ n.toNat : Nat) : Int) ≤ ((2 ^ 9 : Nat) : Int) := by exact_mod_cast this
    simpa using h2
theorem nTiles_any (side n : Int) (w : World) (h1 : 1 ≤ side) (h2 : side ≤ 16384) (h3 : 0 ≤ n) (h4 : n ≤ 9) : Calls Try.prog 19 #[.int .i32 side, .int .u32 n] w fun e w' => e = .returned (.int .i32 ((side + 2 ^ n.toNat - 1) / 2 ^ n.toNat)) ∧ w = w' := by
  obtain ⟨hp, hq⟩ := pow_bd n h3 h4
  go_enter Try.func19, Try.ntmps19
  go_wp2
  go_ret
  exact ⟨rfl, rfl⟩
theorem div_up (s p : Int) (h1 : 1 ≤ s) (hp : 1 ≤ p) : s ≤ (s + p - 1) / p * p ∧ ((s + p - 1) / p - 1) * p < s ∧ 1 ≤ (s + p - 1) / p ∧ (s + p - 1) / p ≤ s ∧ (s + p - 1) / p * p ≤ s + p ∧ 0 ≤ ((s + p - 1) / p - 1) * p := by
  have a := Int.emod_add_ediv_mul (s + p - 1) p
  have b := Int.emod_nonneg (s + p - 1) (b := p) (by omega)
  have c := Int.emod_lt_of_pos (s + p - 1) (b := p) (by omega)
  have e : ((s + p - 1) / p - 1) * p = (s + p - 1) / p * p - p := by rw [Int.sub_mul, Int.one_mul]
  have f : 1 ≤ (s + p - 1) / p := by rw [Int.le_ediv_iff_mul_le (by omega)]; omega
  refine ⟨by omega, by rw [e]; omega, f, ?_, by omega, Int.mul_nonneg (by omega) (by omega)⟩
  · have : (s + p - 1) / p < s + 1 := by
      rw [Int.ediv_lt_iff_lt_mul (by omega)]
      have h := Int.mul_le_mul_of_nonneg_right (a := 1) (b := s) (c := p - 1) h1 (by omega)
      have h2 : s * (p - 1) = s * p - s := by rw [Int.mul_sub, Int.mul_one]
      have h3 : (s + 1) * p = s * p + p := by rw [Int.add_mul, Int.one_mul]
      omega
    omega
theorem fnTiles_any (side n : Int) (w : World) : Calls Try.prog 3 #[.int .i64 side, .int .i64 n] w fun e w' => e = .returned (.bool true) ∧ w = w' := by
  have m1 : bits .and .i64 side 16383 = side % 16384 := and_mask .i64 14 (by decide) side
  have m2 : bits .and .i64 n 15 = n % 16 := and_mask .i64 4 (by decide) n
  have b1 := Int.emod_nonneg side (b := 16384) (by decide)
  have b2 := Int.emod_lt_of_pos side (b := 16384) (by decide)
  have c1 := Int.emod_nonneg n (b := 16) (by decide)
  have d1 := Int.emod_nonneg (n % 16) (b := 10) (by decide)
  have d2 := Int.emod_lt_of_pos (n % 16) (b := 10) (by decide)
  generalize hs : side % 16384 = s at *
  generalize ht : n % 16 = t at *
  clear hs ht
  obtain ⟨hp, hq⟩ := pow_bd (t % 10) d1 (by omega)
  obtain ⟨e1, e2, e3, e4, e5, e6⟩ := div_up (s + 1) _ (by omega) hp
  go_enter Try.func3, Try.ntmps3
  go_wp2_with (first | (go_at_call 19; refine (nTiles_any _ _ _ (by omega) (by omega) (by omega) (by omega)).mono ?_; rintro e w' ⟨rfl, rfl⟩) | (go_at_call 6; refine (readSums_any _).mono ?_; rintro e w' ⟨rfl, rfl⟩) | go_in)
  go_ret
  exact ⟨rfl, rfl⟩
end Go.Proofs.Ytldilncpenellaa

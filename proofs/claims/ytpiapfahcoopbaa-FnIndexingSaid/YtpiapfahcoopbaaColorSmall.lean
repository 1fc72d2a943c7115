/- The small functions of the laws on pictures: sizes, blocks, parts of pixels, deltas. The walks. -/
import Derived.Test.YtpiapfahcoopbaaColorInv
namespace Go.Proofs.Ytpiapfahcoopbaa
set_option linter.unusedSimpArgs false
set_option linter.unusedVariables false
open Go.RowKit Plain

theorem ret_bb {a b : Bool} (h : a = b) : Ending.returned (.bool a) = .returned (.bool b) := by rw [h]
theorem lblocks_any (n s : Nat) (w : World) (hn : (n : Int) ≤ 16384) (hs : s ≤ 9) : Calls Try.prog 16 #[.int .i64 n, .int .i64 s] w fun e w' => e = .returned (.int .i64 (blkN n s : Nat)) ∧ w = w' := by
  obtain ⟨p1, p2⟩ := pow_bd s hs
  have hp : 1 ≤ 2 ^ s := Nat.one_le_two_pow
  have e : ((blkN n s : Nat) : Int) = ((n : Int) + 2 ^ s - 1) / 2 ^ s := by
    unfold blkN
    rw [Int.natCast_ediv, Int.ofNat_sub (by omega), Int.natCast_add]
    simp
  rw [e]
  clear e hp
  go_enter Try.func16, Try.ntmps16
  go_wp2
  go_ret
  exact ⟨rfl, rfl⟩

def areaB (w h : Int) (len : Nat) : Bool := decide (0 < w ∧ 0 < h ∧ w ≤ 16384 ∧ h ≤ 16384 ∧ w * h ≤ 16384 ∧ (len : Int) = 4 * w * h)
set_option maxHeartbeats 2000000 in
theorem isArea_any (wd ht : Int) (A : Option Addr) (len cap : Nat) (w : World) : Calls Try.prog 5 #[.int .i64 wd, .int .i64 ht, .slice A len cap] w fun e w' => e = .returned (.bool (areaB wd ht len)) ∧ w = w' := by
  by_cases hok : 0 < wd ∧ 0 < ht ∧ wd ≤ 16384 ∧ ht ≤ 16384 ∧ wd * ht ≤ 16384
  · obtain ⟨h1, h2, h3, h4, h5⟩ := hok
    have h6 : 0 < wd * ht := Int.mul_pos h1 h2
    have h7 : 4 * wd * ht = 4 * (wd * ht) := Int.mul_assoc _ _ _
    have h8 : 0 ≤ 4 * wd * ht := by omega
    have h9 : 4 * wd * ht ≤ 65536 := by omega
    clear h7
    have hE : areaB wd ht len = ((len : Int) == 4 * wd * ht) := by
      unfold areaB
      rw [Bool.eq_iff_iff]
      simp [h1, h2, h3, h4, h5]
    cases hb : ((len : Int) == 4 * wd * ht)
    · rw [hb] at hE
      replace hE := hide hE
      go_enter Try.func5, Try.ntmps5
      go_wp2
      go_ret
      exact ⟨ret_bb hE.out.symm, rfl⟩
    · rw [hb] at hE
      replace hE := hide hE
      go_enter Try.func5, Try.ntmps5
      go_wp2
      go_ret
      exact ⟨ret_bb hE.out.symm, rfl⟩
  · have hE : areaB wd ht len = false := by
      unfold areaB
      exact decide_eq_false (fun h => hok ⟨h.1, h.2.1, h.2.2.1, h.2.2.2.1, h.2.2.2.2.1⟩)
    have hd : ¬ 0 < wd ∨ (0 < wd ∧ ¬ 0 < ht) ∨ (0 < wd ∧ 0 < ht ∧ ¬ wd ≤ 16384) ∨ (0 < wd ∧ 0 < ht ∧ wd ≤ 16384 ∧ ¬ ht ≤ 16384) ∨ (0 < wd ∧ 0 < ht ∧ wd ≤ 16384 ∧ ht ≤ 16384 ∧ ¬ wd * ht ≤ 16384) := by
      by_cases a1 : 0 < wd
      · by_cases a2 : 0 < ht
        · by_cases a3 : wd ≤ 16384
          · by_cases a4 : ht ≤ 16384
            · exact .inr (.inr (.inr (.inr ⟨a1, a2, a3, a4, fun h => hok ⟨a1, a2, a3, a4, h⟩⟩)))
            · exact .inr (.inr (.inr (.inl ⟨a1, a2, a3, a4⟩)))
          · exact .inr (.inr (.inl ⟨a1, a2, a3⟩))
        · exact .inr (.inl ⟨a1, a2⟩)
      · exact .inl a1
    replace hE := hide hE
    clear hok
    rcases hd with a1 | ⟨a1, a2⟩ | ⟨a1, a2, a3⟩ | ⟨a1, a2, a3, a4⟩ | ⟨a1, a2, a3, a4, a5⟩
    · go_enter Try.func5, Try.ntmps5
      go_wp2
      go_ret
      exact ⟨ret_bb hE.out.symm, rfl⟩
    · go_enter Try.func5, Try.ntmps5
      go_wp2
      go_ret
      exact ⟨ret_bb hE.out.symm, rfl⟩
    · go_enter Try.func5, Try.ntmps5
      go_wp2
      go_ret
      exact ⟨ret_bb hE.out.symm, rfl⟩
    · go_enter Try.func5, Try.ntmps5
      go_wp2
      go_ret
      exact ⟨ret_bb hE.out.symm, rfl⟩
    · have hm1 : wd * ht ≤ 268435456 := by
        have e1 := Int.mul_le_mul_of_nonneg_left a4 (show 0 ≤ wd by omega)
        omega
      have hm0 : 0 < wd * ht := Int.mul_pos a1 a2
      go_enter Try.func5, Try.ntmps5
      go_wp2
      go_ret
      exact ⟨ret_bb hE.out.symm, rfl⟩

theorem blocksOf_any (wd ht s : Nat) (w : World) (h1 : (wd : Int) ≤ 16384) (h2 : (ht : Int) ≤ 16384) (hs : s ≤ 9) : Calls Try.prog 6 #[.int .i64 wd, .int .i64 ht, .int .i64 s] w fun e w' => e = .returned (.int .i64 ((blkN wd s * blkN ht s : Nat) : Int)) ∧ w = w' := by
  have k1 := fun w => lblocks_any wd s w h1 hs
  have k2 := fun w => lblocks_any ht s w h2 hs
  have b1 := blkN_le wd s
  have b2 := blkN_le ht s
  generalize blkN wd s = x at *
  generalize blkN ht s = y at *
  have hm : ((x * y : Nat) : Int) = (x : Int) * (y : Int) := Int.natCast_mul _ _
  rw [hm]
  have hp0 : 0 ≤ (x : Int) * (y : Int) := Int.mul_nonneg (by omega) (by omega)
  have hp1 : (x : Int) * (y : Int) ≤ 268435456 := by
    have e1 := Int.mul_le_mul_of_nonneg_left (show (y : Int) ≤ 16384 by omega) (show (0 : Int) ≤ (x : Int) by omega)
    omega
  clear hm b1 b2
  replace k1 := hide k1
  replace k2 := hide k2
  go_enter Try.func6, Try.ntmps6
  go_wp2_with (first
    | (go_at_call 16; (with_reducible refine (k1.out _).mono ?_); rintro e w' ⟨rfl, rfl⟩)
    | (go_at_call 16; (with_reducible refine (k2.out _).mono ?_); rintro e w' ⟨rfl, rfl⟩)
    | fail)
  go_ret
  exact ⟨rfl, rfl⟩

theorem part0_any (p : Int) (w : World) (h0 : 0 ≤ p) (h1 : p ≤ 4294967295) : Calls Try.prog 10 #[.int .u32 p, .int .i64 0] w fun e w' => e = .returned (.int .i64 (p % 256)) ∧ w = w' := by
  have a := and255u p
  go_enter Try.func10, Try.ntmps10
  go_wp2
  go_ret
  exact ⟨rfl, rfl⟩
theorem part1_any (p : Int) (w : World) (h0 : 0 ≤ p) (h1 : p ≤ 4294967295) : Calls Try.prog 10 #[.int .u32 p, .int .i64 1] w fun e w' => e = .returned (.int .i64 (p / 256 % 256)) ∧ w = w' := by
  have a := and255u (p / 256)
  go_enter Try.func10, Try.ntmps10
  go_wp2
  go_ret
  exact ⟨rfl, rfl⟩
theorem part2_any (p : Int) (w : World) (h0 : 0 ≤ p) (h1 : p ≤ 4294967295) : Calls Try.prog 10 #[.int .u32 p, .int .i64 2] w fun e w' => e = .returned (.int .i64 (p / 65536 % 256)) ∧ w = w' := by
  have a := and255u (p / 65536)
  go_enter Try.func10, Try.ntmps10
  go_wp2
  go_ret
  exact ⟨rfl, rfl⟩
theorem part3_any (p : Int) (w : World) (h0 : 0 ≤ p) (h1 : p ≤ 4294967295) : Calls Try.prog 10 #[.int .u32 p, .int .i64 3] w fun e w' => e = .returned (.int .i64 (p / 16777216 % 256)) ∧ w = w' := by
  have a := and255u (p / 16777216)
  go_enter Try.func10, Try.ntmps10
  go_wp2
  go_ret
  exact ⟨rfl, rfl⟩

theorem signed_any (x : Int) (w : World) (h : 0 ≤ x ∧ x ≤ 255) : Calls Try.prog 22 #[.int .i64 x] w fun e w' => e = .returned (.int .i64 (sgn x)) ∧ w = w' := by
  have i8x := wrap_i8 x h
  have s1 := sgn_bd x h
  go_enter Try.func22, Try.ntmps22
  go_wp2
  go_ret
  exact ⟨rfl, rfl⟩
theorem delta_any (f x : Int) (w : World) (hf : 0 ≤ f ∧ f ≤ 255) (h : 0 ≤ x ∧ x ≤ 255) : Calls Try.prog 12 #[.int .i64 f, .int .i64 x] w fun e w' => e = .returned (.int .i64 (dlt f x)) ∧ w = w' := by
  have k1 := fun w => signed_any f w hf
  have k2 := fun w => signed_any x w h
  have hm := mul_sgn f x hf h
  unfold dlt
  generalize sgn f = a at *
  generalize sgn x = b at *
  obtain ⟨m1, m2⟩ := hm
  replace k1 := hide k1
  replace k2 := hide k2
  go_enter Try.func12, Try.ntmps12
  go_wp2_with (first
    | (go_at_call 22; (with_reducible refine (k1.out _).mono ?_); rintro e w' ⟨rfl, rfl⟩)
    | (go_at_call 22; (with_reducible refine (k2.out _).mono ?_); rintro e w' ⟨rfl, rfl⟩)
    | fail)
  go_ret
  exact ⟨rfl, rfl⟩
theorem dlt_bd (f x : Int) (hf : 0 ≤ f ∧ f ≤ 255) (h : 0 ≤ x ∧ x ≤ 255) : -512 ≤ dlt f x ∧ dlt f x ≤ 512 := by
  have := mul_sgn f x hf h
  unfold dlt
  omega

set_option maxRecDepth 100000 in
set_option maxHeartbeats 2000000 in
theorem block_any (eb W s i : Nat) (w : World) (hW : 1 ≤ W) (hW2 : (W : Int) ≤ 16384) (hi : (i : Int) ≤ 16384) (hs : s ≤ 9) (hq : i / W / 2 ^ s * blkN W s ≤ 16384) (hc : w.cell? ⟨eb, 4, none⟩ = some (.int .i64 W)) :
    Calls Try.prog 9 #[.pointer (some ⟨eb, 0, none⟩), .int .i64 i, .int .i64 s] w fun e w' => e = .returned (.int .i64 ((i / W / 2 ^ s * blkN W s + i % W / 2 ^ s : Nat) : Int)) ∧ ∃ n, w' = w.drewN n := by
  obtain ⟨p1, p2⟩ := pow_bd s hs
  have k1 := fun w => lblocks_any W s w hW2 hs
  have eq1 : (i : Int) / (W : Int) = ((i / W : Nat) : Int) := by simp
  have eq2 : ((i / W : Nat) : Int) / 2 ^ s = ((i / W / 2 ^ s : Nat) : Int) := by simp
  have em1 : (i : Int) % (W : Int) = ((i % W : Nat) : Int) := by simp
  have em2 : ((i % W : Nat) : Int) / 2 ^ s = ((i % W / 2 ^ s : Nat) : Int) := by simp
  have l1 : i / W ≤ i := Nat.div_le_self _ _
  have l2 : i / W / 2 ^ s ≤ i / W := Nat.div_le_self _ _
  have l3 : i % W ≤ i := Nat.mod_le _ _
  have l4 : i % W / 2 ^ s ≤ i % W := Nat.div_le_self _ _
  have hb := blkN_le W s
  generalize i % W / 2 ^ s = x4 at *
  generalize i % W = x3 at *
  generalize i / W / 2 ^ s = x2 at *
  generalize i / W = x1 at *
  generalize blkN W s = tp at *
  have hq2 : ((x2 * tp : Nat) : Int) ≤ 16384 := by omega
  have hqe : (x2 : Int) * (tp : Int) = ((x2 * tp : Nat) : Int) := (Int.natCast_mul _ _).symm
  have hWi : (0 : Int) < (W : Int) := by omega
  have hWn : ((W : Int) == 0) = false := by simp; omega
  have hi0 : (0 : Int) ≤ (i : Int) := by omega
  rw [Int.natCast_add, ← hqe]
  rw [← hqe] at hq2
  have hq0 : 0 ≤ (x2 : Int) * (tp : Int) := Int.mul_nonneg (by omega) (by omega)
  clear hqe hq
  replace k1 := hide k1
  go_enter Try.func9, Try.ntmps9
  go_wp2
  go_quiet ((go_at_call 16; first | (with_reducible exact quiet_after (k1.out _)) | (with_reducible exact quiet_first (k1.out _))))
  go_wp2
  go_ret
  exact ⟨rfl, _, rfl⟩
end Go.Proofs.Ytpiapfahcoopbaa

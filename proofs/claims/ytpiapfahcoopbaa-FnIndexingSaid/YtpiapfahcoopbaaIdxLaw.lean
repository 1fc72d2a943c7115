/- Colours are put in the place of their numbers: the law at every argument. Printed by mk_idxlaw.py. -/
import Derived.Test.YtpiapfahcoopbaaILaw0
import Derived.Test.YtpiapfahcoopbaaILaw1
import Derived.Test.YtpiapfahcoopbaaILaw2
import Derived.Test.YtpiapfahcoopbaaILaw3
namespace Go.Proofs.Ytpiapfahcoopbaa
set_option linter.unusedSimpArgs false
set_option linter.unusedVariables false
open Go.RowKit Plain

set_option maxRecDepth 100000 in
set_option maxHeartbeats 4000000 in
theorem indexLaw_any (wi hi ni : Int) (Ad Ap : Option Addr) (capd capp : Nat) (D P : List Int) (w : World) (hDB : Byt D) (hPB : Byt P) (hrd : Rd .u8 w w.heap.size Ad D) (hrp : Rd .u8 w w.heap.size Ap P) (hmd : D.length ≤ 9223372036854775807) (hmp : P.length ≤ 9223372036854775807) (hcd : D.length ≤ capd) :
    Calls Try.prog 4 #[.int .i64 wi, .int .i64 hi, .int .i64 ni, .slice Ad D.length capd, .slice Ap P.length capp] w fun e w' => e = .returned (.bool true) ∧ Below w.heap.size w w' := by
  have cR := hide (readSums_any w)
  by_cases c1 : (2147483647 : Int) < (D.length : Int)
  · skip
    clear hrd hrp hDB hPB hcd
    go_enter Try.func4, Try.ntmps4
    go_wp2
    go_ret
    exact ⟨rfl, Below.refl _ _⟩
  by_cases c2 : (2147483647 : Int) < (P.length : Int)
  · skip
    clear hrd hrp hDB hPB hcd
    go_enter Try.func4, Try.ntmps4
    go_wp2
    go_ret
    exact ⟨rfl, Below.refl _ _⟩
  by_cases b1 : wi < 1
  · skip
    clear hrd hrp hDB hPB hcd
    go_enter Try.func4, Try.ntmps4
    go_wp2_with fail
    (with_reducible refine (cR.out).mono ?_)
    rintro e w' ⟨rfl, rfl⟩
    go_wp2
    go_ret
    exact ⟨rfl, Below.refl _ _⟩
  by_cases b2 : hi < 1
  · skip
    clear hrd hrp hDB hPB hcd
    go_enter Try.func4, Try.ntmps4
    go_wp2_with fail
    (with_reducible refine (cR.out).mono ?_)
    rintro e w' ⟨rfl, rfl⟩
    go_wp2
    go_ret
    exact ⟨rfl, Below.refl _ _⟩
  by_cases b3 : (16384 : Int) < wi
  · skip
    clear hrd hrp hDB hPB hcd
    go_enter Try.func4, Try.ntmps4
    go_wp2_with fail
    (with_reducible refine (cR.out).mono ?_)
    rintro e w' ⟨rfl, rfl⟩
    go_wp2
    go_ret
    exact ⟨rfl, Below.refl _ _⟩
  by_cases b4 : (16384 : Int) < hi
  · skip
    clear hrd hrp hDB hPB hcd
    go_enter Try.func4, Try.ntmps4
    go_wp2_with fail
    (with_reducible refine (cR.out).mono ?_)
    rintro e w' ⟨rfl, rfl⟩
    go_wp2
    go_ret
    exact ⟨rfl, Below.refl _ _⟩
  have m1 : wi * hi ≤ 16384 * 16384 := Int.mul_le_mul (by omega) (by omega) (by omega) (by decide)
  have m0 : 0 ≤ wi * hi := Int.mul_nonneg (by omega) (by omega)
  by_cases b5 : (16384 : Int) < wi * hi
  · skip
    clear hrd hrp hDB hPB hcd
    go_enter Try.func4, Try.ntmps4
    go_wp2_with fail
    (with_reducible refine (cR.out).mono ?_)
    rintro e w' ⟨rfl, rfl⟩
    go_wp2
    go_ret
    exact ⟨rfl, Below.refl _ _⟩
  by_cases b6 : ni < 0
  · skip
    clear hrd hrp hDB hPB hcd
    go_enter Try.func4, Try.ntmps4
    go_wp2_with fail
    (with_reducible refine (cR.out).mono ?_)
    rintro e w' ⟨rfl, rfl⟩
    go_wp2
    go_ret
    exact ⟨rfl, Below.refl _ _⟩
  by_cases b7 : (3 : Int) < ni
  · skip
    clear hrd hrp hDB hPB hcd
    go_enter Try.func4, Try.ntmps4
    go_wp2_with fail
    (with_reducible refine (cR.out).mono ?_)
    rintro e w' ⟨rfl, rfl⟩
    go_wp2
    go_ret
    exact ⟨rfl, Below.refl _ _⟩
  by_cases b8 : ((D.length : Int) != 1024) = true
  · skip
    clear hrd hrp hDB hPB hcd
    go_enter Try.func4, Try.ntmps4
    go_wp2_with fail
    (with_reducible refine (cR.out).mono ?_)
    rintro e w' ⟨rfl, rfl⟩
    go_wp2
    go_ret
    exact ⟨rfl, Below.refl _ _⟩
  obtain ⟨W, rfl⟩ := Int.eq_ofNat_of_zero_le (show 0 ≤ wi by omega)
  obtain ⟨H, rfl⟩ := Int.eq_ofNat_of_zero_le (show 0 ≤ hi by omega)
  obtain ⟨n, rfl⟩ := Int.eq_ofNat_of_zero_le (show 0 ≤ ni by omega)
  have hD : D.length = 1024 := by simp at b8; omega
  have hWH : ((W * H : Nat) : Int) ≤ 16384 := by rw [Int.natCast_mul]; omega
  by_cases b9 : P.length = 4 * (H * blkN W n)
  · obtain rfl | rfl | rfl | rfl : n = 0 ∨ n = 1 ∨ n = 2 ∨ n = 3 := by omega
    · exact index0_main W H Ad Ap capd capp P D w (by omega) (by omega) (by omega) (by omega) hWH hPB hDB b9 hD (by omega) hrd hrp
    · exact index1_main W H Ad Ap capd capp P D w (by omega) (by omega) (by omega) (by omega) hWH hPB hDB b9 hD (by omega) hrd hrp
    · exact index2_main W H Ad Ap capd capp P D w (by omega) (by omega) (by omega) (by omega) hWH hPB hDB b9 hD (by omega) hrd hrp
    · exact index3_main W H Ad Ap capd capp P D w (by omega) (by omega) (by omega) (by omega) hWH hPB hDB b9 hD (by omega) hrd hrp
  · have cB := lblocks_any W n w (by omega) (by omega)
    have hM := blkN_le W n
    have e1 : ((4 * (H * blkN W n) : Nat) : Int) = 4 * ((blkN W n : Nat) : Int) * (H : Int) := by rw [Int.natCast_mul, Int.natCast_mul, Int.mul_assoc, Int.mul_comm (H : Int)]; rfl
    have hbH : H * blkN W n ≤ H * W := Nat.mul_le_mul_left _ hM
    rw [Nat.mul_comm H W] at hbH
    have c6 : ((P.length : Int) != 4 * ((blkN W n : Nat) : Int) * (H : Int)) = true := by rw [← e1]; simp; omega
    have k1 : 0 ≤ 4 * ((blkN W n : Nat) : Int) * (H : Int) := by rw [← e1]; omega
    have k2 : 4 * ((blkN W n : Nat) : Int) * (H : Int) ≤ 65536 := by rw [← e1]; omega
    have k3 : ((blkN W n : Nat) : Int) ≤ 16384 := by omega
    replace cB := hide cB
    replace e1 := hide e1
    replace hD := hide hD
    clear b9
    clear hrd hrp hDB hPB hcd
    go_enter Try.func4, Try.ntmps4
    go_wp2_with fail
    (with_reducible refine (cB.out).mono ?_)
    rintro e w' ⟨rfl, rfl⟩
    go_wp2_with fail
    (with_reducible refine (cR.out).mono ?_)
    rintro e w' ⟨rfl, rfl⟩
    go_wp2
    go_ret
    exact ⟨rfl, Below.refl _ _⟩
end Go.Proofs.Ytpiapfahcoopbaa

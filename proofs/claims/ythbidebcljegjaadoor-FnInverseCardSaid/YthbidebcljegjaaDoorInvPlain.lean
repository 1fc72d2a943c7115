/- The inverse transform of four by four, plain. No program in sight. -/
import Derived.Test.YthbidebcljegjaaDoorRowf
namespace Go.Proofs.YthbidebcljegjaaDoor
set_option linter.unusedSimpArgs false
set_option linter.unusedVariables false

/-- Times the square root of 2 and a sine; and a cosine. -/
def sA (n : Int) : Int := n * 35468 / 65536
def sB (n : Int) : Int := n * 85627 / 65536
/-- One pass over four numbers. -/
def tur (a b c e : Int) (k : Nat) : Int :=
  if k = 0 then a + c + (sB b + sA e) else if k = 1 then a - c + (sA b - sB e) else if k = 2 then a - c - (sA b - sB e) else a + c - (sB b + sA e)
/-- Down the columns. -/
def pT (x : Nat → Int) (j : Nat) : Int := tur (x (j % 4)) (x (4 + j % 4)) (x (8 + j % 4)) (x (12 + j % 4)) (j / 4)
/-- Along the rows. -/
def iT (t : Nat → Int) (j : Nat) : Int := (tur (t (4 * (j / 4))) (t (4 * (j / 4) + 1)) (t (4 * (j / 4) + 2)) (t (4 * (j / 4) + 3)) (j % 4) + 4) / 8
/-- A byte of a number. -/
def clB (n : Int) : Int := if n < 0 then 0 else if 255 < n then 255 else n
theorem clB_bd (n : Int) : 0 ≤ clB n ∧ clB n ≤ 255 := by unfold clB; split; omega; split <;> omega
theorem pT_at (x : Nat → Int) (i k : Nat) (h : i < 4) : pT x (4 * k + i) = tur (x i) (x (4 + i)) (x (8 + i)) (x (12 + i)) k := by
  have e1 : (4 * k + i) / 4 = k := by omega
  have e2 : (4 * k + i) % 4 = i := by omega
  simp [pT, e1, e2]
theorem iT_at (t : Nat → Int) (i k : Nat) (h : k < 4) : iT t (4 * i + k) = (tur (t (4 * i)) (t (4 * i + 1)) (t (4 * i + 2)) (t (4 * i + 3)) k + 4) / 8 := by
  have e1 : (4 * i + k) / 4 = i := by omega
  have e2 : (4 * i + k) % 4 = k := by omega
  simp [iT, e1, e2]
theorem sA_bd (n : Int) (h : -25079 ≤ n ∧ n ≤ 25079) : -13574 ≤ sA n ∧ sA n ≤ 13574 := by unfold sA; omega
theorem sB_bd (n : Int) (h : -25079 ≤ n ∧ n ≤ 25079) : -32768 ≤ sB n ∧ sB n ≤ 32768 := by unfold sB; omega
theorem sB_eq (n : Int) : n + n * 20091 / 65536 = sB n := by unfold sB; omega
theorem tur_bd (a b c e : Int) (k : Nat) (ha : -25079 ≤ a ∧ a ≤ 25079) (hb : -25079 ≤ b ∧ b ≤ 25079) (hc : -25079 ≤ c ∧ c ≤ 25079) (he : -25079 ≤ e ∧ e ≤ 25079) : -100000 ≤ tur a b c e k ∧ tur a b c e k ≤ 100000 := by
  have h1 := sA_bd b hb
  have h2 := sB_bd b hb
  have h3 := sA_bd e he
  have h4 := sB_bd e he
  unfold tur
  split
  · omega
  · split
    · omega
    · split <;> omega
end Go.Proofs.YthbidebcljegjaaDoor

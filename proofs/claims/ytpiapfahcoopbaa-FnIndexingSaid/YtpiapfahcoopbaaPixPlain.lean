/- Pixels as numbers and as bytes; what green and red tell of red and blue. Plain: no program in sight. -/
import Derived.Test.YtpiapfahcoopbaaMem
namespace Go.Proofs.Ytpiapfahcoopbaa
set_option linter.unusedSimpArgs false
set_option linter.unusedVariables false

/-- A pixel of four bytes. -/
def pix4 (r g b a : Int) : Int := a * 16777216 + r * 65536 + g * 256 + b
def IsB4 (r g b a : Int) : Prop := (0 ≤ r ∧ r ≤ 255) ∧ (0 ≤ g ∧ g ≤ 255) ∧ (0 ≤ b ∧ b ≤ 255) ∧ (0 ≤ a ∧ a ≤ 255)
theorem pix4_bd (r g b a : Int) (h : IsB4 r g b a) : 0 ≤ pix4 r g b a ∧ pix4 r g b a ≤ 4294967295 := by
  obtain ⟨h1, h2, h3, h4⟩ := h
  unfold pix4
  omega
theorem pix4_b (r g b a : Int) (h : IsB4 r g b a) : pix4 r g b a % 256 = b := by
  obtain ⟨h1, h2, h3, h4⟩ := h
  unfold pix4
  omega
theorem pix4_g (r g b a : Int) (h : IsB4 r g b a) : pix4 r g b a / 256 % 256 = g := by
  obtain ⟨h1, h2, h3, h4⟩ := h
  unfold pix4
  omega
theorem pix4_r (r g b a : Int) (h : IsB4 r g b a) : pix4 r g b a / 65536 % 256 = r := by
  obtain ⟨h1, h2, h3, h4⟩ := h
  unfold pix4
  omega
theorem pix4_a (r g b a : Int) (h : IsB4 r g b a) : pix4 r g b a / 16777216 % 256 = a := by
  obtain ⟨h1, h2, h3, h4⟩ := h
  unfold pix4
  omega

/-- A byte with its sign. -/
def sgn (x : Int) : Int := if x < 128 then x else x - 256
theorem sgn_bd (x : Int) (h : 0 ≤ x ∧ x ≤ 255) : -128 ≤ sgn x ∧ sgn x ≤ 127 := by unfold sgn; split <;> omega
def dlt (f n : Int) : Int := sgn f * sgn n / 32
theorem mul_sgn (f n : Int) (hf : 0 ≤ f ∧ f ≤ 255) (hn : 0 ≤ n ∧ n ≤ 255) : -16384 ≤ sgn f * sgn n ∧ sgn f * sgn n ≤ 16384 := by
  have h1 := sgn_bd f hf
  have h2 := sgn_bd n hn
  generalize sgn f = x at *
  generalize sgn n = y at *
  have e1 : (x + 128) * (y + 128) = x * y + 128 * x + 128 * y + 16384 := by rw [Int.add_mul, Int.mul_add, Int.mul_add]; omega
  have e2 : (127 - x) * (127 - y) = x * y - 127 * x - 127 * y + 16129 := by rw [Int.sub_mul, Int.mul_sub, Int.mul_sub]; omega
  have e3 : (x + 128) * (127 - y) = 127 * x - x * y + 16256 - 128 * y := by rw [Int.add_mul, Int.mul_sub, Int.mul_sub]; omega
  have e4 : (127 - x) * (y + 128) = 127 * y + 16256 - x * y - 128 * x := by rw [Int.sub_mul, Int.mul_add, Int.mul_add]; omega
  have p1 : 0 ≤ (x + 128) * (y + 128) := Int.mul_nonneg (by omega) (by omega)
  have p2 : 0 ≤ (127 - x) * (127 - y) := Int.mul_nonneg (by omega) (by omega)
  have p3 : 0 ≤ (x + 128) * (127 - y) := Int.mul_nonneg (by omega) (by omega)
  have p4 : 0 ≤ (127 - x) * (y + 128) := Int.mul_nonneg (by omega) (by omega)
  omega
/-- The shift of the code, which forgets the sign, tells the same byte. -/
theorem dlt_byte (p : Int) (h : -16384 ≤ p ∧ p ≤ 16384) : p % 4294967296 / 32 % 256 = p / 32 % 256 := by omega
/-- What is written of a pixel by a block's three factors. -/
def encR (f0 r g : Int) : Int := (r - dlt f0 g) % 256
def encB (f1 f2 r g b : Int) : Int := (b - dlt f1 g - dlt f2 r) % 256
theorem dec_R (f0 r g : Int) (hr : 0 ≤ r ∧ r ≤ 255) : (encR f0 r g + dlt f0 g % 256) % 256 = r := by unfold encR; omega
theorem dec_B (f1 f2 r g b : Int) (hb : 0 ≤ b ∧ b ≤ 255) : ((encB f1 f2 r g b + dlt f1 g % 256) % 256 + dlt f2 r % 256) % 256 = b := by unfold encB; omega
end Go.Proofs.Ytpiapfahcoopbaa

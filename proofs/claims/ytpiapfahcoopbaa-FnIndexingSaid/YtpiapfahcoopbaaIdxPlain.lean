/- Colours in the place of their numbers: plain. -/
import Derived.Test.YtpiapfahcoopbaaColorLaw
namespace Go.Proofs.Ytpiapfahcoopbaa
set_option linter.unusedSimpArgs false
set_option linter.unusedVariables false
open Go.RowKit Plain

/-- How many bits a number has. -/
def ea (n : Nat) : Nat := 8 / 2 ^ n
/-- The number of the colour at a place. -/
def kI (P : List Int) (W n y x : Nat) : Int := P.getD (4 * (y * blkN W n + x / 2 ^ n) + 1) 0 / 2 ^ (x % 2 ^ n * ea n) % 2 ^ ea n
def kN (P : List Int) (W n y x : Nat) : Nat := (kI P W n y x).toNat
theorem kI_bd (P : List Int) (W n y x : Nat) (hn : n ≤ 3) : 0 ≤ kI P W n y x ∧ kI P W n y x ≤ 255 := by
  unfold kI
  have h0 : (0 : Int) < 2 ^ ea n := Int.pow_pos (by decide)
  have h1 := Int.emod_nonneg (P.getD (4 * (y * blkN W n + x / 2 ^ n) + 1) 0 / 2 ^ (x % 2 ^ n * ea n)) (Int.ne_of_gt h0)
  have h2 := Int.emod_lt_of_pos (P.getD (4 * (y * blkN W n + x / 2 ^ n) + 1) 0 / 2 ^ (x % 2 ^ n * ea n)) h0
  have h3 : (2 : Int) ^ ea n ≤ 256 := by
    obtain rfl | rfl | rfl | rfl : n = 0 ∨ n = 1 ∨ n = 2 ∨ n = 3 := by omega
    all_goals decide
  omega
theorem kN_cast (P : List Int) (W n y x : Nat) (hn : n ≤ 3) : ((kN P W n y x : Nat) : Int) = kI P W n y x := by
  have := kI_bd P W n y x hn
  unfold kN
  omega
theorem kN_lt (P : List Int) (W n y x : Nat) (hn : n ≤ 3) : kN P W n y x < 256 := by
  have := kI_bd P W n y x hn
  have := kN_cast P W n y x hn
  omega
def kAt (P : List Int) (W n i : Nat) : Nat := kN P W n (i / W) (i % W)
theorem kAt_lt (P : List Int) (W n i : Nat) (hn : n ≤ 3) : kAt P W n i < 256 := kN_lt _ _ _ _ _ hn
theorem kAt_yx (P : List Int) (W n y x : Nat) (hx : x < W) : kAt P W n (y * W + x) = kN P W n y x := by
  unfold kAt
  rw [show (y * W + x) / W = y by
    rw [Nat.mul_comm, Nat.mul_add_div (by omega), Nat.div_eq_of_lt hx]
    rfl, show (y * W + x) % W = x by rw [Nat.mul_comm, Nat.mul_add_mod, Nat.mod_eq_of_lt hx]]
/-- The picture's bytes. -/
def outN (P D : List Int) (W n : Nat) : Nat → List Int
  | 0 => []
  | i + 1 => outN P D W n i ++ [D.getD (4 * kAt P W n i) 0, D.getD (4 * kAt P W n i + 1) 0, D.getD (4 * kAt P W n i + 2) 0, D.getD (4 * kAt P W n i + 3) 0]
theorem outN_len (P D : List Int) (W n N : Nat) : (outN P D W n N).length = 4 * N := by
  induction N with
  | zero => rfl
  | succ n ih => simp [outN, ih]; omega
theorem outN_get (P D : List Int) (W n N i : Nat) (h : i < N) (c : Nat) (hc : c < 4) : (outN P D W n N).getD (4 * i + c) 0 = D.getD (4 * kAt P W n i + c) 0 := by
  induction N with
  | zero => omega
  | succ m ih =>
    have hl := outN_len P D W n m
    by_cases hi : i < m
    · rw [← ih hi]
      simp only [outN, List.getD_eq_getElem?_getD]
      rw [List.getElem?_append_left (by omega)]
    · have e : i = m := by omega
      subst e
      simp only [outN, List.getD_eq_getElem?_getD]
      rw [List.getElem?_append_right (by omega), hl, show 4 * i + c - 4 * i = c by omega]
      obtain rfl | rfl | rfl | rfl : c = 0 ∨ c = 1 ∨ c = 2 ∨ c = 3 := by omega
      all_goals rfl
/-- The picture's pixels. -/
def unN (P D : List Int) (W n N : Nat) : List Int := (List.range N).map fun i => pixAt D (kAt P W n i)
theorem unN_len (P D : List Int) (W n N : Nat) : (unN P D W n N).length = N := by simp [unN]
theorem unN_succ (P D : List Int) (W n N : Nat) : unN P D W n (N + 1) = unN P D W n N ++ [pixAt D (kAt P W n N)] := by simp [unN, List.range_succ]
theorem unN_get (P D : List Int) (W n N i : Nat) (h : i < N) : (unN P D W n N).getD i 0 = pixAt D (kAt P W n i) := by simp [unN, h]
theorem unN_bd (P D : List Int) (W n N : Nat) (hB : Byt D) : ∀ k, 0 ≤ (unN P D W n N).getD k 0 ∧ (unN P D W n N).getD k 0 ≤ 4294967295 := by
  intro k
  by_cases c : k < N
  · rw [unN_get _ _ _ _ _ _ c]
    exact pix4_bd _ _ _ _ (hB.pix _)
  · have e : (unN P D W n N).getD k 0 = 0 := by simp [unN, c]
    rw [e]
    omega
theorem unN_split (P D : List Int) (W n N M : Nat) (hB : Byt D) (hM : M ≤ N) : splitN (unN P D W n N) M = outN P D W n M := by
  induction M with
  | zero => rfl
  | succ m ih =>
    have hb := hB.pix (kAt P W n m)
    simp only [splitN, outN]
    rw [ih (by omega), unN_get _ _ _ _ _ _ (show m < N by omega)]
    unfold pixAt
    rw [pix4_r _ _ _ _ hb, pix4_g _ _ _ _ hb, pix4_b _ _ _ _ hb, pix4_a _ _ _ _ hb]
/-- Four bytes of the picture laid over what stood there. -/
theorem halfO_step (O Z : List Int) (k : Nat) (h : Z.length = O.length) (hk : 4 * k + 4 ≤ O.length) :
    ((((halfP O Z k).set (4 * k) (O.getD (4 * k) 0)).set (4 * k + 1) (O.getD (4 * k + 1) 0)).set (4 * k + 2) (O.getD (4 * k + 2) 0)).set (4 * k + 3) (O.getD (4 * k + 3) 0) = halfP O Z (k + 1) := by
  have e1 : (halfP O Z k).length = O.length := halfP_len O Z k h
  have e2 : (halfP O Z (k + 1)).length = O.length := halfP_len O Z (k + 1) h
  apply List.ext_getElem (by simp [e1, e2])
  intro j hj1 hj2
  have hjP : j < O.length := by omega
  have key : ∀ (l : List Int) (hl : j < l.length), l[j] = l.getD j 0 := fun l hl => by simp [hl]
  rw [key _ hj1, key _ hj2]
  have lo : ∀ q i, i < 4 * q → 4 * q ≤ O.length → (halfP O Z q).getD i 0 = O.getD i 0 := by
    intro q i hi hq
    have e : (O.take (4 * q)).length = 4 * q := by simp; omega
    simp only [halfP, List.getD_eq_getElem?_getD]
    rw [List.getElem?_append_left (by omega), List.getElem?_take, if_pos hi]
  by_cases c0 : j < 4 * k
  · rw [lo (k + 1) j (by omega) (by omega)]
    have := lo k j c0 (by omega)
    simp only [List.getD_eq_getElem?_getD, List.getElem?_set, show ¬ 4 * k + 3 = j by omega, show ¬ 4 * k + 2 = j by omega, show ¬ 4 * k + 1 = j by omega, show ¬ 4 * k = j by omega, if_false] at *
    exact this
  · by_cases c4 : 4 * k + 4 ≤ j
    · rw [halfP_hi O Z (k + 1) j h (by omega) (by omega)]
      have := halfP_hi O Z k j h (by omega) (by omega)
      simp only [List.getD_eq_getElem?_getD, List.getElem?_set, show ¬ 4 * k + 3 = j by omega, show ¬ 4 * k + 2 = j by omega, show ¬ 4 * k + 1 = j by omega, show ¬ 4 * k = j by omega, if_false] at *
      exact this
    · rw [lo (k + 1) j (by omega) (by omega)]
      have hj : j = 4 * k ∨ j = 4 * k + 1 ∨ j = 4 * k + 2 ∨ j = 4 * k + 3 := by omega
      rcases hj with rfl | rfl | rfl | rfl
      all_goals simp [List.getElem?_set, e1, hjP]
theorem halfP_none (O Z : List Int) : halfP O Z 0 = Z := by simp [halfP]
theorem halfP_full (O Z : List Int) (N : Nat) (h : Z.length = O.length) (hN : O.length = 4 * N) : halfP O Z N = O := by
  unfold halfP
  rw [← hN, List.take_length, ← h, List.drop_length, List.append_nil]
end Go.Proofs.Ytpiapfahcoopbaa

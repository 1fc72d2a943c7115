/- Bits out of bytes, the lowest one first: what a reader keeps, and what it reads. Plain: no program in sight. -/
import Derived.Test.YtpiapfahcoopbaaDoorMem
namespace Go.Proofs.YtpiapfahcoopbaaDoor
set_option linter.unusedSimpArgs false
set_option linter.unusedVariables false

/-- The bytes as one number, the first one lowest. -/
def leN : List Nat → Nat
  | [] => 0
  | x :: l => x + 256 * leN l
def Oct (B : List Nat) : Prop := ∀ x ∈ B, x ≤ 255
theorem leN_append (l l' : List Nat) : leN (l ++ l') = leN l + 2 ^ (8 * l.length) * leN l' := by
  induction l with
  | nil => simp [leN]
  | cons x l ih =>
    have e : (2 : Nat) ^ (8 * (x :: l).length) = 256 * 2 ^ (8 * l.length) := by
      rw [List.length_cons, Nat.mul_add, Nat.pow_add, Nat.mul_comm]
    rw [List.cons_append, leN, leN, ih, e, Nat.mul_add, ← Nat.mul_assoc]
    omega
theorem leN_lt (l : List Nat) (h : Oct l) : leN l < 2 ^ (8 * l.length) := by
  induction l with
  | nil => simp [leN]
  | cons x l ih =>
    have e : (2 : Nat) ^ (8 * (x :: l).length) = 256 * 2 ^ (8 * l.length) := by
      rw [List.length_cons, Nat.mul_add, Nat.pow_add, Nat.mul_comm]
    have h1 := ih (fun y hy => h y (by simp [hy]))
    have h2 := h x (by simp)
    rw [leN, e]
    omega
/-- The number of the first i bytes. -/
theorem leN_take (B : List Nat) (h : Oct B) (i : Nat) (hi : i ≤ B.length) : leN B % 2 ^ (8 * i) = leN (B.take i) := by
  have e : leN B = leN (B.take i) + 2 ^ (8 * i) * leN (B.drop i) := by
    have := leN_append (B.take i) (B.drop i)
    rw [List.take_append_drop] at this
    rw [this]
    congr 3
    simp [hi]
  rw [e, Nat.add_mul_mod_self_left]
  apply Nat.mod_eq_of_lt
  have := leN_lt (B.take i) (fun x hx => h x (List.mem_of_mem_take hx))
  have e2 : (B.take i).length = i := by simp [hi]
  rwa [e2] at this
theorem leN_take_succ (B : List Nat) (i : Nat) (hi : i < B.length) : leN (B.take (i + 1)) = leN (B.take i) + 2 ^ (8 * i) * B.getD i 0 := by
  rw [List.take_succ_eq_append_getElem hi, leN_append]
  have e2 : (B.take i).length = i := by simp; omega
  rw [e2]
  simp [leN, hi]

/-- What the reader keeps: i bytes are taken, the bits up to 'pos' are read. -/
structure Kept (B : List Nat) (i pos nb bits : Nat) : Prop where
  le : i ≤ B.length
  nb_ : pos + nb = 8 * i
  bits_ : bits = leN (B.take i) / 2 ^ pos
theorem Kept.start (B : List Nat) : Kept B 0 0 0 0 := ⟨Nat.zero_le _, rfl, by simp [leN]⟩
theorem Kept.lt {B : List Nat} {i pos nb bits : Nat} (h : Kept B i pos nb bits) (hB : Oct B) : bits < 2 ^ nb := by
  have h1 := leN_lt (B.take i) (fun x hx => hB x (List.mem_of_mem_take hx))
  have e2 : (B.take i).length = i := by simp [h.le]
  rw [e2, ← h.nb_, Nat.pow_add] at h1
  rw [h.bits_]
  exact Nat.div_lt_of_lt_mul h1
theorem Kept.load {B : List Nat} {i pos nb bits : Nat} (h : Kept B i pos nb bits) (hi : i < B.length) : Kept B (i + 1) pos (nb + 8) (bits + B.getD i 0 * 2 ^ nb) := by
  refine ⟨hi, by have := h.nb_; omega, ?_⟩
  rw [leN_take_succ B i hi, h.bits_, ← h.nb_, Nat.pow_add, Nat.mul_assoc, Nat.add_mul_div_left _ _ (Nat.pow_pos (by decide)), Nat.mul_comm (2 ^ nb)]
/-- What is read: n bits from 'pos' on. -/
def bitsAt (B : List Nat) (pos n : Nat) : Nat := leN B / 2 ^ pos % 2 ^ n
theorem Kept.take {B : List Nat} {i pos nb bits n : Nat} (h : Kept B i pos nb bits) (hB : Oct B) (hn : n ≤ nb) : bits % 2 ^ n = bitsAt B pos n ∧ Kept B i (pos + n) (nb - n) (bits / 2 ^ n) := by
  refine ⟨?_, h.le, by have := h.nb_; omega, ?_⟩
  · unfold bitsAt
    rw [h.bits_, ← leN_take B hB i h.le, ← h.nb_]
    have e : (2 : Nat) ^ (pos + nb) = 2 ^ pos * 2 ^ nb := Nat.pow_add _ _ _
    rw [e, Nat.mod_mul_right_div_self]
    exact Nat.mod_mod_of_dvd _ (Nat.pow_dvd_pow 2 hn)
  · rw [h.bits_, Nat.div_div_eq_div_mul, ← Nat.pow_add]

/-- One bit. -/
theorem bit_at (B : List Nat) (hB : Oct B) (pos : Nat) (h : pos / 8 < B.length) : B.getD (pos / 8) 0 / 2 ^ (pos % 8) % 2 = leN B / 2 ^ pos % 2 := by
  have e1 : leN B = leN (B.take (pos / 8)) + 2 ^ (8 * (pos / 8)) * leN (B.drop (pos / 8)) := by
    have := leN_append (B.take (pos / 8)) (B.drop (pos / 8))
    rw [List.take_append_drop] at this
    rw [this]
    congr 3
    simp
    omega
  have h1 := leN_lt (B.take (pos / 8)) (fun x hx => hB x (List.mem_of_mem_take hx))
  have e2 : (B.take (pos / 8)).length = pos / 8 := by simp; omega
  rw [e2] at h1
  have e3 : B.drop (pos / 8) = B.getD (pos / 8) 0 :: B.drop (pos / 8 + 1) := by
    rw [List.drop_eq_getElem_cons h]
    simp [h]
  have e4 : (2 : Nat) ^ pos = 2 ^ (8 * (pos / 8)) * 2 ^ (pos % 8) := by rw [← Nat.pow_add]; congr 1; omega
  have e5 : leN B / 2 ^ (8 * (pos / 8)) = leN (B.drop (pos / 8)) := by
    rw [e1, Nat.add_mul_div_left _ _ (Nat.pow_pos (by decide)), Nat.div_eq_of_lt h1, Nat.zero_add]
  rw [e4, ← Nat.div_div_eq_div_mul, e5, e3, leN]
  have h7 : pos % 8 ≤ 7 := by omega
  have e6 : (256 : Nat) = 2 ^ (pos % 8) * (2 * 2 ^ (7 - pos % 8)) := by
    rw [← Nat.mul_assoc, Nat.mul_comm (2 ^ (pos % 8)) 2, Nat.mul_assoc, ← Nat.pow_add, show pos % 8 + (7 - pos % 8) = 7 by omega]
  rw [e6, Nat.mul_assoc, Nat.add_mul_div_left _ _ (Nat.pow_pos (by decide)), Nat.mul_assoc, Nat.add_mul_mod_self_left]
theorem bitsAt_succ (B : List Nat) (pos n : Nat) : bitsAt B pos (n + 1) = bitsAt B pos n + (leN B / 2 ^ (pos + n) % 2) * 2 ^ n := by
  unfold bitsAt
  rw [Nat.pow_succ, Nat.mod_mul, Nat.pow_add, ← Nat.div_div_eq_div_mul, Nat.mul_comm (2 ^ n)]
theorem bitsAt_lt (B : List Nat) (pos n : Nat) : bitsAt B pos n < 2 ^ n := Nat.mod_lt _ (Nat.pow_pos (by decide))

/-- The bit at which the m-th number begins. -/
def posAt (ss : List Nat) (m : Nat) : Nat := (ss.take m).sum
theorem posAt_succ (ss : List Nat) (m : Nat) (h : m < ss.length) : posAt ss (m + 1) = posAt ss m + ss.getD m 0 := by
  unfold posAt
  rw [List.take_succ_eq_append_getElem h, List.sum_append]
  simp [h]
theorem posAt_le (ss : List Nat) (K : Nat) (hs : ∀ x ∈ ss, x ≤ K) (m : Nat) : posAt ss m ≤ K * m := by
  unfold posAt
  induction m generalizing ss with
  | zero => simp
  | succ m ih =>
    cases ss with
    | nil => simp
    | cons x l =>
      have h1 := ih l (fun y hy => hs y (by simp [hy]))
      have h2 := hs x (by simp)
      simp only [List.take_succ_cons, List.sum_cons, Nat.mul_add, Nat.mul_one]
      omega
/-- The first m numbers of so many bits each. -/
def readN (B ss : List Nat) (m : Nat) : List Int := (List.range m).map fun j => ((bitsAt B (posAt ss j) (ss.getD j 0) : Nat) : Int)
theorem readN_succ (B ss : List Nat) (m : Nat) : readN B ss (m + 1) = readN B ss m ++ [((bitsAt B (posAt ss m) (ss.getD m 0) : Nat) : Int)] := by simp [readN, List.range_succ]
theorem readN_len (B ss : List Nat) (m : Nat) : (readN B ss m).length = m := by simp [readN]
/-- One comes to the m-th number, and no further. -/
def StopAt (B ss : List Nat) (m : Nat) : Prop := m ≤ ss.length ∧ (∀ j, j < m → posAt ss (j + 1) ≤ 8 * B.length) ∧ (m = ss.length ∨ ¬ posAt ss (m + 1) ≤ 8 * B.length)
theorem StopAt.uniq {B ss : List Nat} {m m' : Nat} (h : StopAt B ss m) (h' : StopAt B ss m') : m = m' := by
  obtain ⟨h1, h2, h3⟩ := h
  obtain ⟨g1, g2, g3⟩ := h'
  rcases Nat.lt_trichotomy m m' with hlt | he | hgt
  · rcases h3 with h3 | h3
    · omega
    · exact absurd (g2 m hlt) h3
  · exact he
  · rcases g3 with g3 | g3
    · omega
    · exact absurd (h2 m' hgt) g3
end Go.Proofs.YtpiapfahcoopbaaDoor

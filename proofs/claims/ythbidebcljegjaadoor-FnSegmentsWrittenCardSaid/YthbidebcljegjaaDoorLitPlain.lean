/- Numbers as truths, the highest bit first; numbers with signs; lists of them. Plain: no program in sight. -/
import Derived.Test.YthbidebcljegjaaDoorBoolRead
namespace Go.Proofs.YthbidebcljegjaaDoor
set_option linter.unusedSimpArgs false
set_option linter.unusedVariables false

/-- The lowest k bits of n, the highest one first, all by one probability. -/
def bitsOf (n p : Nat) : Nat → List (Bool × Nat)
  | 0 => []
  | k + 1 => (decide (n / 2 ^ k % 2 = 1), p) :: bitsOf n p k
theorem bitsOf_len (n p k : Nat) : (bitsOf n p k).length = k := by
  induction k with
  | zero => rfl
  | succ k ih => simp [bitsOf, ih]
theorem bitsOf_probs (n p k : Nat) (hp : p ≤ 255) : Probs (bitsOf n p k) := by
  induction k with
  | zero => intro x hx; simp [bitsOf] at hx
  | succ k ih =>
    intro x hx
    rcases List.mem_cons.1 hx with rfl | hx
    · exact hp
    · exact ih x hx

theorem Probs.nil : Probs [] := by intro x hx; simp at hx
theorem Probs.append {l l' : List (Bool × Nat)} (h : Probs l) (h' : Probs l') : Probs (l ++ l') := by
  intro x hx
  rcases List.mem_append.1 hx with hx | hx
  · exact h x hx
  · exact h' x hx
theorem Probs.one (b : Bool) (p : Nat) (hp : p ≤ 255) : Probs [(b, p)] := by intro x hx; simp at hx; subst hx; exact hp

/-- A number with a sign behind it. -/
def signEv (n p s : Nat) (b : Bool) : List (Bool × Nat) := bitsOf n p s ++ [(b, p)]
/-- What is written of one number: its kind, its probability, its size. -/
def itemEv (c p s : Nat) (v : Int) : List (Bool × Nat) :=
  if c = 0 then bitsOf (v % 2 ^ s).toNat p s
  else if c = 1 then signEv (v % 2 ^ s).toNat p s (decide (v < 0))
  else if (v % 2 ^ s).toNat = 0 then [(false, p)] else (true, p) :: signEv (v % 2 ^ s).toNat p s (decide (v < 0))
/-- What is read again. -/
def itemVal (c s : Nat) (v : Int) : Int :=
  if c = 0 then v % 2 ^ s else if v < 0 then -(v % 2 ^ s) else v % 2 ^ s
theorem signEv_len (n p s : Nat) (b : Bool) : (signEv n p s b).length = s + 1 := by simp [signEv, bitsOf_len]
theorem itemEv_len (c p s : Nat) (v : Int) : (itemEv c p s v).length ≤ s + 2 := by
  unfold itemEv
  split
  · rw [bitsOf_len]; omega
  · split
    · rw [signEv_len]; omega
    · split
      · simp
      · simp [signEv_len]
theorem itemEv_probs (c p s : Nat) (v : Int) (hp : p ≤ 255) : Probs (itemEv c p s v) := by
  unfold itemEv signEv
  split
  · exact bitsOf_probs _ _ _ hp
  · split
    · exact (bitsOf_probs _ _ _ hp).append (Probs.one _ _ hp)
    · split
      · exact Probs.one _ _ hp
      · exact (Probs.one true _ hp).append ((bitsOf_probs _ _ _ hp).append (Probs.one _ _ hp))
theorem mod_bd (v : Int) (s : Nat) (hs : s ≤ 24) : 0 ≤ v % 2 ^ s ∧ v % 2 ^ s < 2 ^ s ∧ v % 2 ^ s ≤ 16777215 := by
  have hp : (0 : Int) < 2 ^ s := Int.pow_pos (by decide)
  have h0 := Int.emod_nonneg v (show (2 : Int) ^ s ≠ 0 by omega)
  have h1 := Int.emod_lt_of_pos v hp
  have h2 : (2 : Int) ^ s ≤ 2 ^ 24 := by
    have : (2 : Nat) ^ s ≤ 2 ^ 24 := Nat.pow_le_pow_right (by decide) hs
    exact_mod_cast this
  have h3 : (2 : Int) ^ 24 = 16777216 := by decide
  omega

/-- The first k items of a list of threes (kind, probability, size), with the numbers. -/
def item (zs vs : List Int) (i : Nat) : List (Bool × Nat) := itemEv (zs.getD (3 * i) 0).toNat (zs.getD (3 * i + 1) 0).toNat (zs.getD (3 * i + 2) 0).toNat (vs.getD i 0)
def itemV (zs vs : List Int) (i : Nat) : Int := itemVal (zs.getD (3 * i) 0).toNat (zs.getD (3 * i + 2) 0).toNat (vs.getD i 0)
def items (zs vs : List Int) : Nat → List (Bool × Nat)
  | 0 => []
  | k + 1 => items zs vs k ++ item zs vs k
def itemVs (zs vs : List Int) (k : Nat) : List Int := (List.range k).map (itemV zs vs)
theorem itemVs_succ (zs vs : List Int) (k : Nat) : itemVs zs vs (k + 1) = itemVs zs vs k ++ [itemV zs vs k] := by simp [itemVs, List.range_succ]
theorem itemVs_len (zs vs : List Int) (k : Nat) : (itemVs zs vs k).length = k := by simp [itemVs]
/-- The items after the k-th, up to n. -/
def itemsFrom (zs vs : List Int) (n : Nat) : Nat → List (Bool × Nat)
  | 0 => []
  | d + 1 => item zs vs (n - (d + 1)) ++ itemsFrom zs vs n d
theorem items_split (zs vs : List Int) (n d : Nat) (h : d ≤ n) : items zs vs n = items zs vs (n - d) ++ itemsFrom zs vs n d := by
  induction d with
  | zero => simp [itemsFrom]
  | succ d ih =>
    rw [ih (by omega), itemsFrom, show n - d = (n - (d + 1)) + 1 by omega, items, List.append_assoc]
/-- All are within bounds. -/
structure Lits (zs : List Int) (n : Nat) : Prop where
  len : zs.length = n * 3
  c : ∀ i, i < n → 0 ≤ zs.getD (3 * i) 0 ∧ zs.getD (3 * i) 0 ≤ 2
  p : ∀ i, i < n → 0 ≤ zs.getD (3 * i + 1) 0 ∧ zs.getD (3 * i + 1) 0 ≤ 255
  s : ∀ i, i < n → 0 ≤ zs.getD (3 * i + 2) 0 ∧ zs.getD (3 * i + 2) 0 ≤ 24
theorem item_probs {zs : List Int} {n : Nat} (h : Lits zs n) (vs : List Int) (i : Nat) (hi : i < n) : Probs (item zs vs i) := itemEv_probs _ _ _ _ (by have := h.p i hi; omega)
theorem item_len {zs : List Int} {n : Nat} (h : Lits zs n) (vs : List Int) (i : Nat) (hi : i < n) : (item zs vs i).length ≤ 26 :=
  Nat.le_trans (itemEv_len _ _ _ _) (by have := h.s i hi; omega)
theorem items_probs {zs : List Int} {n : Nat} (h : Lits zs n) (vs : List Int) (k : Nat) (hk : k ≤ n) : Probs (items zs vs k) := by
  induction k with
  | zero => exact Probs.nil
  | succ k ih => exact (ih (by omega)).append (item_probs h vs k (by omega))
theorem items_len {zs : List Int} {n : Nat} (h : Lits zs n) (vs : List Int) (k : Nat) (hk : k ≤ n) : (items zs vs k).length ≤ 26 * k := by
  induction k with
  | zero => simp [items]
  | succ k ih =>
    have h1 := ih (by omega)
    have h2 := item_len h vs k (by omega)
    simp [items]
    omega
end Go.Proofs.YthbidebcljegjaaDoor

/- The simple filter, plain: the code's numbers and the reference's are the same. No program in sight. -/
import Derived.Test.YthbidebcljegjaaDoorMem
namespace Go.Proofs.YthbidebcljegjaaDoor
set_option linter.unusedSimpArgs false
set_option linter.unusedVariables false

def clamp (lo hi x : Int) : Int := if x < lo then lo else if hi < x then hi else x
theorem clamp_bd (lo hi x : Int) (h : lo ≤ hi) : lo ≤ clamp lo hi x ∧ clamp lo hi x ≤ hi := by unfold clamp; split <;> (try split) <;> omega
def dist (a b : Int) : Int := if a < b then b - a else a - b
theorem dist_bd (a b : Int) (ha : 0 ≤ a ∧ a ≤ 255) (hb : 0 ≤ b ∧ b ≤ 255) : 0 ≤ dist a b ∧ dist a b ≤ 255 := by unfold dist; split <;> omega

/-- The edge is low enough. -/
def isNear (lev p1 p0 q0 q1 : Int) : Bool := decide (dist p0 q0 * 2 + dist p1 q1 / 2 ≤ lev)
/-- By how much both change. -/
def turnA (p1 p0 q0 q1 : Int) : Int := 3 * (q0 - p0) + clamp (-128) 127 (p1 - q1)
def newP (p1 p0 q0 q1 : Int) : Int := clamp 0 255 (p0 + clamp (-16) 15 ((turnA p1 p0 q0 q1 + 3) / 8))
def newQ (p1 p0 q0 q1 : Int) : Int := clamp 0 255 (q0 - clamp (-16) 15 ((turnA p1 p0 q0 q1 + 4) / 8))

/-- The reference's words. -/
def short (n : Int) : Int := clamp (-128) 127 n
def moved (n y : Int) : Int := short (n - 128 - y) + 128
def refA (p1 p0 q0 q1 : Int) : Int := short (short (p1 - q1) + 3 * (q0 - p0))
theorem ref_eighth (A k : Int) (hk : k = 3 ∨ k = 4) : short (short A + k) / 8 = clamp (-16) 15 ((A + k) / 8) := by
  unfold short clamp
  rcases hk with rfl | rfl <;> (repeat' split) <;> omega
theorem ref_moved (n y : Int) : moved n y = clamp 0 255 (n - y) := by
  unfold moved short clamp
  (repeat' split) <;> omega
theorem refQ (p1 p0 q0 q1 : Int) : moved q0 (short (refA p1 p0 q0 q1 + 4) / 8) = newQ p1 p0 q0 q1 := by
  unfold refA newQ turnA
  rw [ref_moved, ref_eighth _ 4 (.inr rfl)]
  rw [show short (p1 - q1) + 3 * (q0 - p0) = 3 * (q0 - p0) + clamp (-128) 127 (p1 - q1) by unfold short; omega]
theorem refP (p1 p0 q0 q1 : Int) : moved p0 (-(short (refA p1 p0 q0 q1 + 3) / 8)) = newP p1 p0 q0 q1 := by
  unfold refA newP turnA
  rw [ref_moved, ref_eighth _ 3 (.inl rfl)]
  rw [show short (p1 - q1) + 3 * (q0 - p0) = 3 * (q0 - p0) + clamp (-128) 127 (p1 - q1) by unfold short; omega]
  congr 1
  omega

/-- The value at a place. -/
def at' (P : List Int) (k : Int) : Int := P.getD k.toNat 0
/-- One line across the edge: c the first place behind it, s from place to place. -/
def fline (lev s : Int) (P : List Int) (c : Int) : List Int :=
  if isNear lev (at' P (c - 2 * s)) (at' P (c - s)) (at' P c) (at' P (c + s)) then
    (P.set (c - s).toNat (newP (at' P (c - 2 * s)) (at' P (c - s)) (at' P c) (at' P (c + s)))).set c.toNat (newQ (at' P (c - 2 * s)) (at' P (c - s)) (at' P c) (at' P (c + s)))
  else P
/-- Some lines. -/
def flines (lev s st : Int) : Nat → List Int → Int → List Int
  | 0, P, _ => P
  | n + 1, P, c => flines lev s st n (fline lev s P c) (c + st)
theorem fline_len (lev s : Int) (P : List Int) (c : Int) : (fline lev s P c).length = P.length := by unfold fline; split <;> simp
theorem flines_succ (lev s st : Int) (n : Nat) : ∀ (P : List Int) (c : Int), flines lev s st (n + 1) P c = fline lev s (flines lev s st n P c) (c + n * st) := by
  induction n with
  | zero => intro P c; simp [flines]
  | succ n ih =>
    intro P c
    have e : c + st + (n : Int) * st = c + ((n + 1 : Nat) : Int) * st := by
      rw [Int.natCast_add, Int.add_mul]; simp; omega
    rw [flines, ih, e]
    rfl
def Bytes (P : List Int) : Prop := ∀ k, 0 ≤ P.getD k 0 ∧ P.getD k 0 ≤ 255
theorem Bytes.set {P : List Int} (h : Bytes P) (i : Nat) (x : Int) (hx : 0 ≤ x ∧ x ≤ 255) : Bytes (P.set i x) := by
  intro k
  rcases Nat.lt_or_ge k P.length with hk | hk
  · by_cases e : i = k
    · subst e; simp [hk]; exact hx
    · have := h k
      simp [List.getElem?_set, e] at this ⊢
      exact this
  · have : (P.set i x).getD k 0 = 0 := by simp [hk]
    rw [this]; omega
theorem fline_bytes (lev s : Int) (P : List Int) (c : Int) (h : Bytes P) : Bytes (fline lev s P c) := by
  unfold fline
  split
  · exact (h.set _ _ (clamp_bd 0 255 _ (by omega))).set _ _ (clamp_bd 0 255 _ (by omega))
  · exact h
/-- The reference writes all four again. -/
theorem fline_four (lev s : Int) (P : List Int) (c x y : Int) (hs : s ≠ 0) (h1 : 0 ≤ c - 2 * s) (h2 : 0 ≤ c - s) (h3 : 0 ≤ c) (h4 : 0 ≤ c + s) (b1 : c - 2 * s < P.length) (b4 : c + s < P.length)
    (b2 : c - s < P.length) (b3 : c < P.length) :
    (((P.set (c - 2 * s).toNat (at' P (c - 2 * s))).set (c - s).toNat x).set c.toNat y).set (c + s).toNat (at' P (c + s)) = (P.set (c - s).toNat x).set c.toNat y := by
  apply List.ext_getElem (by simp)
  intro k hk1 hk2
  have n1 : (c + s).toNat ≠ c.toNat := by omega
  have n2 : (c + s).toNat ≠ (c - s).toNat := by omega
  have n3 : (c - 2 * s).toNat ≠ c.toNat := by omega
  have n4 : (c - 2 * s).toNat ≠ (c - s).toNat := by omega
  simp only [List.getElem_set]
  by_cases e1 : (c + s).toNat = k
  · subst e1
    have hl : (c + s).toNat < P.length := by omega
    rw [if_pos rfl, if_neg (Ne.symm n1), if_neg (Ne.symm n2)]
    simp [at', hl]
  · rw [if_neg e1]
    by_cases e2 : c.toNat = k
    · rw [if_pos e2, if_pos e2]
    · rw [if_neg e2, if_neg e2]
      by_cases e3 : (c - s).toNat = k
      · rw [if_pos e3, if_pos e3]
      · rw [if_neg e3, if_neg e3]
        by_cases e4 : (c - 2 * s).toNat = k
        · subst e4
          have hl : (c - 2 * s).toNat < P.length := by omega
          rw [if_pos rfl]
          simp [at', hl]
        · rw [if_neg e4]
end Go.Proofs.YthbidebcljegjaaDoor

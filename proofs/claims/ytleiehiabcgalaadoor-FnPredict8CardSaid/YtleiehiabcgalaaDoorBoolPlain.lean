/- The boolean coder, plain: what the writer keeps, what the reader keeps, and that what is read is what was written. No program in sight. -/
import Derived.Test.YtleiehiabcgalaaDoorMem
namespace Go.Proofs.YtleiehiabcgalaaDoor
set_option linter.unusedSimpArgs false
set_option linter.unusedVariables false

/-! ### 1. The interval: low, range, shifts -/
/-- How often a range from 1 to 255 is doubled till it is at least 128. -/
def nk (r : Nat) : Nat := 7 - Nat.log2 r
theorem nk_ok : ∀ r : Nat, r < 256 → 1 ≤ r → 128 ≤ r * 2 ^ nk r ∧ r * 2 ^ nk r ≤ 255 ∧ nk r ≤ 7 := by decide +kernel
theorem nk_big : ∀ r : Nat, r < 256 → 128 ≤ r → nk r = 0 := by decide +kernel
theorem nk_small : ∀ r : Nat, r < 128 → 1 ≤ r → nk r = nk (2 * r) + 1 := by decide +kernel

def splitN (r p : Nat) : Nat := 1 + (r - 1) * p / 256
theorem split_bd (r p : Nat) (hr : 128 ≤ r) (hr2 : r ≤ 255) (hp : p ≤ 255) : 1 ≤ splitN r p ∧ splitN r p < r := by
  unfold splitN
  have h : (r - 1) * p ≤ (r - 1) * 255 := Nat.mul_le_mul_left _ hp
  have h2 : (r - 1) * p / 256 ≤ (r - 1) * 255 / 256 := Nat.div_le_div_right h
  omega

/-- The interval: its low end, its range, how many doublings lie behind it. -/
structure Iv where
  low : Nat
  range : Nat
  sh : Nat

def Iv.ok (v : Iv) : Prop := 128 ≤ v.range ∧ v.range ≤ 255

/-- The interval behind a truth. -/
def Iv.step (v : Iv) (e : Bool × Nat) : Iv :=
  let sp := splitN v.range e.2
  let r := if e.1 then v.range - sp else sp
  let l := if e.1 then v.low + sp else v.low
  ⟨l * 2 ^ nk r, r * 2 ^ nk r, v.sh + nk r⟩
def Iv.start : Iv := ⟨0, 255, 0⟩
theorem Iv.start_ok : Iv.start.ok := ⟨by decide, by decide⟩

theorem step_range (v : Iv) (h : v.ok) (e : Bool × Nat) (hp : e.2 ≤ 255) :
    let sp := splitN v.range e.2
    let r := if e.1 then v.range - sp else sp
    1 ≤ r ∧ r < 256 ∧ 1 ≤ sp ∧ sp < v.range := by
  have hs := split_bd v.range e.2 h.1 h.2 hp
  have := h.2
  obtain ⟨b, p⟩ := e
  cases b <;> simp at * <;> omega
theorem Iv.step_ok (v : Iv) (h : v.ok) (e : Bool × Nat) (hp : e.2 ≤ 255) : (v.step e).ok := by
  obtain ⟨h1, h2, _, _⟩ := step_range v h e hp
  have := nk_ok _ h2 h1
  exact ⟨this.1, this.2.1⟩
theorem Iv.step_sh (v : Iv) (h : v.ok) (e : Bool × Nat) (hp : e.2 ≤ 255) : v.sh ≤ (v.step e).sh ∧ (v.step e).sh ≤ v.sh + 7 := by
  obtain ⟨h1, h2, _, _⟩ := step_range v h e hp
  have := nk_ok _ h2 h1
  simp only [Iv.step]
  omega
def Iv.steps (v : Iv) (l : List (Bool × Nat)) : Iv := l.foldl Iv.step v
theorem Iv.steps_cons (v : Iv) (e : Bool × Nat) (l : List (Bool × Nat)) : v.steps (e :: l) = (v.step e).steps l := rfl
theorem Iv.steps_snoc (v : Iv) (e : Bool × Nat) (l : List (Bool × Nat)) : v.steps (l ++ [e]) = (v.steps l).step e := by simp [Iv.steps]
theorem Iv.steps_append (v : Iv) (l l' : List (Bool × Nat)) : v.steps (l ++ l') = (v.steps l).steps l' := by simp [Iv.steps]
def Probs (l : List (Bool × Nat)) : Prop := ∀ e ∈ l, e.2 ≤ 255
theorem Iv.steps_ok (l : List (Bool × Nat)) : ∀ (v : Iv), v.ok → Probs l → (v.steps l).ok := by
  induction l with
  | nil => intro v h _; exact h
  | cons e l ih => intro v h hp; exact ih _ (v.step_ok h e (hp e (by simp))) (fun x hx => hp x (by simp [hx]))
theorem Iv.steps_sh (l : List (Bool × Nat)) : ∀ (v : Iv), v.ok → Probs l → v.sh ≤ (v.steps l).sh ∧ (v.steps l).sh ≤ v.sh + 7 * l.length := by
  induction l with
  | nil => intro v _ _; exact ⟨Nat.le_refl _, by simp [Iv.steps]⟩
  | cons e l ih =>
    intro v h hp
    have a := v.step_sh h e (hp e (by simp))
    have b := ih _ (v.step_ok h e (hp e (by simp))) (fun x hx => hp x (by simp [hx]))
    rw [Iv.steps_cons]
    simp only [List.length_cons]
    omega

/-- A later interval lies within an earlier one. -/
theorem step_within (v : Iv) (h : v.ok) (e : Bool × Nat) (hp : e.2 ≤ 255) :
    v.low * 2 ^ ((v.step e).sh - v.sh) ≤ (v.step e).low ∧ (v.step e).low + (v.step e).range ≤ (v.low + v.range) * 2 ^ ((v.step e).sh - v.sh) := by
  obtain ⟨h1, h2, h3, h4⟩ := step_range v h e hp
  have hsh : (v.step e).sh - v.sh = nk (if e.1 then v.range - splitN v.range e.2 else splitN v.range e.2) := by simp [Iv.step]
  rw [hsh]
  simp only [Iv.step]
  generalize hk : 2 ^ nk (if e.1 then v.range - splitN v.range e.2 else splitN v.range e.2) = K
  obtain ⟨b, p⟩ := e
  cases b
  · simp only [Bool.false_eq_true, if_false] at *
    refine ⟨Nat.le_refl _, ?_⟩
    rw [← Nat.add_mul]
    exact Nat.mul_le_mul_right _ (by omega)
  · simp only [if_true] at *
    refine ⟨Nat.mul_le_mul_right _ (by omega), ?_⟩
    rw [← Nat.add_mul]
    exact Nat.mul_le_mul_right _ (by omega)
theorem steps_within (l : List (Bool × Nat)) : ∀ (v : Iv), v.ok → Probs l →
    v.low * 2 ^ ((v.steps l).sh - v.sh) ≤ (v.steps l).low ∧ (v.steps l).low + (v.steps l).range ≤ (v.low + v.range) * 2 ^ ((v.steps l).sh - v.sh) := by
  induction l with
  | nil => intro v _ _; simp [Iv.steps]
  | cons e l ih =>
    intro v h hp
    have hpe := hp e (by simp)
    have hpl : Probs l := fun x hx => hp x (by simp [hx])
    have a := step_within v h e hpe
    have b := ih _ (v.step_ok h e hpe) hpl
    have s1 := (v.step_sh h e hpe).1
    have s2 := (Iv.steps_sh l _ (v.step_ok h e hpe) hpl).1
    rw [Iv.steps_cons]
    have e2 : ((v.step e).steps l).sh - v.sh = ((v.step e).sh - v.sh) + (((v.step e).steps l).sh - (v.step e).sh) := by omega
    rw [e2, Nat.pow_add, ← Nat.mul_assoc, ← Nat.mul_assoc]
    exact ⟨Nat.le_trans (Nat.mul_le_mul_right _ a.1) b.1, Nat.le_trans b.2 (Nat.mul_le_mul_right _ a.2)⟩

theorem snoc_ind {α : Type} {p : List α → Prop} (h0 : p []) (h1 : ∀ l x, p l → p (l ++ [x])) (l : List α) : p l := by
  have key : ∀ l : List α, p l.reverse := by
    intro l
    induction l with
    | nil => exact h0
    | cons x l ih => rw [List.reverse_cons]; exact h1 _ x ih
  have := key l.reverse
  rwa [List.reverse_reverse] at this

/-! ### 2. Bytes as a number -/
def val (l : List Nat) : Nat := l.foldl (fun a x => a * 256 + x) 0
theorem val_snoc (l : List Nat) (x : Nat) : val (l ++ [x]) = val l * 256 + x := by simp [val]
def IsBy (l : List Nat) : Prop := ∀ x ∈ l, x ≤ 255
theorem val_lt (l : List Nat) (h : IsBy l) : val l < 256 ^ l.length := by
  revert h
  refine snoc_ind (p := fun l => IsBy l → val l < 256 ^ l.length) (fun _ => by simp [val]) (fun l x ih h => ?_) l
  · have hx := h x (by simp)
    have := ih (fun y hy => h y (by simp [hy]))
    rw [val_snoc, List.length_append, Nat.pow_add]
    simp
    omega
theorem val_append (l l' : List Nat) : val (l ++ l') = val l * 256 ^ l'.length + val l' := by
  refine snoc_ind (p := fun l' => val (l ++ l') = val l * 256 ^ l'.length + val l') (by simp [val]) (fun l' x ih => ?_) l'
  · rw [← List.append_assoc, val_snoc, val_snoc, ih, List.length_append, Nat.pow_add, Nat.add_mul, Nat.mul_assoc]
    simp
    omega
theorem val_take (l : List Nat) (h : IsBy l) (r : Nat) (hr : r ≤ l.length) : ∃ q, q < 256 ^ (l.length - r) ∧ val l = val (l.take r) * 256 ^ (l.length - r) + q := by
  refine ⟨val (l.drop r), ?_, ?_⟩
  · have := val_lt (l.drop r) (fun x hx => h x (List.mem_of_mem_drop hx))
    simpa using this
  · have := val_append (l.take r) (l.drop r)
    rw [List.take_append_drop] at this
    simpa using this

/-! ### 3. The writer -/
/-- One more at the end, the carry running back over 255. -/
def carryR : List Nat → List Nat
  | [] => []
  | x :: l => if x = 255 then 0 :: carryR l else (x + 1) :: l
def carryL (l : List Nat) : List Nat := (carryR l.reverse).reverse
theorem carryR_length (l : List Nat) : (carryR l).length = l.length := by
  induction l with
  | nil => rfl
  | cons x l ih => unfold carryR; split <;> simp [ih]
theorem carryL_length (l : List Nat) : (carryL l).length = l.length := by simp [carryL, carryR_length]
theorem carryL_snoc (l : List Nat) (x : Nat) : carryL (l ++ [x]) = if x = 255 then carryL l ++ [0] else l ++ [x + 1] := by
  simp only [carryL, List.reverse_append, List.reverse_cons, List.reverse_nil, List.nil_append, List.singleton_append, carryR]
  split <;> simp
theorem carryL_by (l : List Nat) (h : IsBy l) : IsBy (carryL l) := by
  revert h
  refine snoc_ind (p := fun l => IsBy l → IsBy (carryL l)) (fun _ => by simp [carryL, carryR, IsBy]) (fun l x ih h => ?_) l
  have hx := h x (by simp)
  have hl : IsBy l := fun y hy => h y (by simp [hy])
  rw [carryL_snoc]
  intro y hy
  split at hy
  · rcases List.mem_append.1 hy with m | m
    · exact ih hl y m
    · simp at m; omega
  · rcases List.mem_append.1 hy with m | m
    · exact hl y m
    · simp at m; omega
theorem carryL_val (l : List Nat) (h : IsBy l) (hv : val l + 1 < 256 ^ l.length) : val (carryL l) = val l + 1 := by
  revert h hv
  refine snoc_ind (p := fun l => IsBy l → val l + 1 < 256 ^ l.length → val (carryL l) = val l + 1) (fun _ h => by simp [val] at h) (fun l x ih h hv => ?_) l
  have hx := h x (by simp)
  have hl : IsBy l := fun y hy => h y (by simp [hy])
  rw [carryL_snoc]
  rw [val_snoc, List.length_append, Nat.pow_add] at hv
  split
  · rename_i e
    subst e
    rw [val_snoc, val_snoc, ih hl (by simp at hv; omega)]
    omega
  · rw [val_snoc, val_snoc]; omega

structure WS where
  out : List Nat
  bottom : Nat
  size : Nat
  bits : Nat

/-- Goes on by a bit. -/
def WS.shift (s : WS) : WS :=
  let o := if 2147483648 ≤ s.bottom then carryL s.out else s.out
  let b := s.bottom * 2 % 4294967296
  if s.bits = 1 then ⟨o ++ [b / 16777216], b % 16777216, s.size, 8⟩ else ⟨o, b, s.size, s.bits - 1⟩
/-- Doubles the range till it is at least 128. -/
def WS.norm : Nat → WS → WS
  | 0, s => s
  | k + 1, s => if s.size < 128 then WS.norm k ({ s with size := s.size * 2 }.shift) else s
def WS.put (s : WS) (e : Bool × Nat) : WS :=
  let sp := splitN s.size e.2
  WS.norm 8 (if e.1 then { s with bottom := s.bottom + sp, size := s.size - sp } else { s with size := sp })
def WS.puts (s : WS) (l : List (Bool × Nat)) : WS := l.foldl WS.put s
def WS.start : WS := ⟨[], 0, 255, 24⟩
def WS.flush : Nat → WS → WS
  | 0, s => s
  | k + 1, s => WS.flush k s.shift
/-- What was written, with four bytes behind. -/
def WS.done (s : WS) : List Nat := (WS.flush 32 s).out ++ [0, 0, 0, 0]

/-- The number so far. -/
def WS.num (s : WS) : Nat := val s.out * 2 ^ (32 - s.bits) + s.bottom
/-- How many doublings lie behind it. -/
def WS.sh (s : WS) : Nat := 8 * s.out.length + 24 - s.bits

/-- What holds of a writer's state whose interval is as long as r. -/
structure WS.inv (s : WS) (r : Nat) : Prop where
  b1 : 1 ≤ s.bits
  b24 : s.bits ≤ 24
  b8 : s.out ≠ [] → s.bits ≤ 8
  r1 : 1 ≤ r
  r255 : r ≤ 255
  by_ : IsBy s.out
  low : s.bottom + r ≤ 2 ^ (33 - s.bits)
  all : s.num + r ≤ 2 ^ (8 * s.out.length + 32 - s.bits)

theorem WS.start_inv : WS.start.inv 255 := ⟨by decide, by decide, by decide, by decide, by decide, by simp [WS.start, IsBy], by decide, by decide⟩

theorem num_emit3 (V N b q r m : Int) (a : 16777216 * q + r = b) (c : 2 * m = b) (h : V * 2147483648 + m = N) : (V * 256 + q) * 16777216 + r = 2 * N := by omega
theorem num_emit' (V N b q r m : Nat) (a : 16777216 * q + r = b) (c : 2 * m = b) (h : V * 2147483648 + m = N) : (V * 256 + q) * 16777216 + r = 2 * N := by
  have := num_emit3 V N b q r m (congrArg Int.ofNat a) (congrArg Int.ofNat c) (congrArg Int.ofNat h)
  exact Int.ofNat.inj this
theorem num_emit (V N b : Nat) (h : V * 2147483648 + b / 2 = N) (he : b % 2 = 0) : (V * 256 + b / 16777216) * 16777216 + b % 16777216 = 2 * N :=
  num_emit' V N b _ _ (b / 2) (Nat.div_add_mod b 16777216) (by have c := Nat.div_add_mod b 2; rw [he] at c; exact c) h
theorem WS.shift_inv (s : WS) (r r' : Nat) (h : s.inv r) (h1 : 1 ≤ r') (h2 : r' ≤ 2 * r) (h3 : r' ≤ 255) :
    s.shift.inv r' ∧ s.shift.num = 2 * s.num ∧ s.shift.sh = s.sh + 1 ∧ s.shift.size = s.size ∧ s.bottom < 4294967296 := by
  obtain ⟨out, bottom, size, bits⟩ := s
  obtain ⟨g1, g2, g3, g4, g5, g6, g7, g8⟩ := h
  simp only [WS.num] at *
  have hlt : bottom < 4294967296 := by
    have : (2 : Nat) ^ (33 - bits) ≤ 2 ^ 32 := Nat.pow_le_pow_right (by decide) (by omega)
    omega
  by_cases hb : bits = 1
  · subst hb
    have e1 : (2 : Nat) ^ (32 - 1) = 2147483648 := by simp
    have e8 : (2 : Nat) ^ (8 * out.length + 32 - 1) = 256 ^ out.length * 2147483648 := by
      rw [show 8 * out.length + 32 - 1 = 8 * out.length + 31 by omega, Nat.pow_add, Nat.pow_mul]
    rw [e1] at g8
    rw [e8] at g8
    have he : bottom * 2 % 4294967296 % 2 = 0 := by omega
    have key : ∀ o : List Nat, o.length = out.length → IsBy o → val o * 2147483648 + (bottom * 2 % 4294967296) / 2 = val out * 2147483648 + bottom →
        (WS.mk (o ++ [bottom * 2 % 4294967296 / 16777216]) (bottom * 2 % 4294967296 % 16777216) size 8).inv r' ∧
        val (o ++ [bottom * 2 % 4294967296 / 16777216]) * 2 ^ (32 - 8) + bottom * 2 % 4294967296 % 16777216 = 2 * (val out * 2147483648 + bottom) := by
      intro o ho hby hval
      have en : val (o ++ [bottom * 2 % 4294967296 / 16777216]) * 2 ^ (32 - 8) + bottom * 2 % 4294967296 % 16777216 = 2 * (val out * 2147483648 + bottom) := by
        rw [val_snoc, show (2 : Nat) ^ (32 - 8) = 16777216 by simp]
        exact num_emit _ _ _ hval he
      refine ⟨⟨by simp, by simp, fun _ => by simp, h1, h3, ?_, ?_, ?_⟩, en⟩
      · intro x hx
        rcases List.mem_append.1 hx with m | m
        · exact hby x m
        · simp at m; omega
      · show bottom * 2 % 4294967296 % 16777216 + r' ≤ 2 ^ (33 - 8)
        rw [show (2 : Nat) ^ (33 - 8) = 33554432 by simp]
        omega
      · show val (o ++ [bottom * 2 % 4294967296 / 16777216]) * 2 ^ (32 - 8) + bottom * 2 % 4294967296 % 16777216 + r' ≤ _
        rw [en]
        show _ ≤ 2 ^ (8 * (o ++ [bottom * 2 % 4294967296 / 16777216]).length + 32 - 8)
        rw [List.length_append, ho, show 8 * (out.length + [bottom * 2 % 4294967296 / 16777216].length) + 32 - 8 = 8 * out.length + 32 by simp; omega, Nat.pow_add, Nat.pow_mul]
        have : (2 : Nat) ^ 8 = 256 := by simp
        rw [this]
        omega
    unfold WS.shift
    simp only [if_true]
    by_cases hc : 2147483648 ≤ bottom
    · have hv : val out + 1 < 256 ^ out.length := by
        have hh : (val out + 1) * 2147483648 < 256 ^ out.length * 2147483648 := by omega
        exact Nat.lt_of_mul_lt_mul_right hh
      have a := key (carryL out) (carryL_length out) (carryL_by out g6) (by rw [carryL_val out g6 hv]; omega)
      simp only [hc, if_true]
      refine ⟨a.1, a.2, ?_, trivial, hlt⟩
      simp [WS.sh, carryL_length]; omega
    · have a := key out rfl g6 (by omega)
      simp only [hc, if_false]
      refine ⟨a.1, a.2, ?_, trivial, hlt⟩
      simp [WS.sh]; omega
  · have e32 : (2 : Nat) ^ (33 - bits) ≤ 2 ^ 31 := Nat.pow_le_pow_right (by decide) (by omega)
    have hc : ¬ 2147483648 ≤ bottom := by omega
    have hm : bottom * 2 % 4294967296 = bottom * 2 := by omega
    have p1 : (2 : Nat) ^ (32 - (bits - 1)) = 2 ^ (32 - bits) * 2 := by rw [show 32 - (bits - 1) = (32 - bits) + 1 by omega, Nat.pow_succ]
    have p2 : (2 : Nat) ^ (33 - (bits - 1)) = 2 ^ (33 - bits) * 2 := by rw [show 33 - (bits - 1) = (33 - bits) + 1 by omega, Nat.pow_succ]
    have p3 : (2 : Nat) ^ (8 * out.length + 32 - (bits - 1)) = 2 ^ (8 * out.length + 32 - bits) * 2 := by rw [show 8 * out.length + 32 - (bits - 1) = (8 * out.length + 32 - bits) + 1 by omega, Nat.pow_succ]
    unfold WS.shift
    simp only [hb, hc, if_false, hm]
    refine ⟨⟨by simp; omega, by simp; omega, fun ho => by have := g3 ho; simp; omega, h1, h3, g6, ?_, ?_⟩, ?_, ?_, trivial, hlt⟩
    · simp only []; rw [p2]; omega
    · simp only [WS.num]; rw [p1, p3, ← Nat.mul_assoc]; omega
    · rw [p1, ← Nat.mul_assoc]; omega
    · simp [WS.sh]; omega

/-- The writer's state tells this interval. -/
structure WS.tells (s : WS) (v : Iv) : Prop where
  inv : s.inv v.range
  low : s.num = v.low
  size : s.size = v.range
  sh : s.sh = v.sh

theorem WS.start_tells : WS.start.tells Iv.start := ⟨WS.start_inv, rfl, rfl, rfl⟩

theorem WS.norm_tells (k : Nat) : ∀ (s : WS) (l r n : Nat), s.inv r → s.num = l → s.size = r → s.sh = n → 1 ≤ r → r < 256 → nk r ≤ k →
    (WS.norm k s).tells ⟨l * 2 ^ nk r, r * 2 ^ nk r, n + nk r⟩ := by
  induction k with
  | zero =>
    intro s l r n hi h1 h2 h3 h4 h5 hk
    have e : nk r = 0 := by omega
    rw [e]
    exact ⟨by simpa [WS.norm] using hi, by simpa [WS.norm] using h1, by simpa [WS.norm] using h2, by simpa [WS.norm] using h3⟩
  | succ k ih =>
    intro s l r n hi h1 h2 h3 h4 h5 hk
    unfold WS.norm
    by_cases hs : s.size < 128
    · rw [if_pos hs]
      have er := nk_small r (by omega) h4
      have hi' : ({ s with size := s.size * 2 } : WS).inv r := ⟨hi.b1, hi.b24, hi.b8, hi.r1, hi.r255, hi.by_, hi.low, hi.all⟩
      obtain ⟨a1, a2, a3, a4, _⟩ := WS.shift_inv { s with size := s.size * 2 } r (2 * r) hi' (by omega) (Nat.le_refl _) (by omega)
      have b := ih _ (2 * l) (2 * r) (n + 1) a1 (by rw [a2, ← h1]; rfl) (by rw [a4, ← h2]; simp; omega) (by rw [a3, ← h3]; rfl) (by omega) (by omega) (by omega)
      have e1 : 2 * l * 2 ^ nk (2 * r) = l * 2 ^ nk r := by rw [er, Nat.pow_succ]; rw [Nat.mul_comm 2 l, Nat.mul_assoc, Nat.mul_comm 2]
      have e2 : 2 * r * 2 ^ nk (2 * r) = r * 2 ^ nk r := by rw [er, Nat.pow_succ]; rw [Nat.mul_comm 2 r, Nat.mul_assoc, Nat.mul_comm 2]
      have e3 : n + 1 + nk (2 * r) = n + nk r := by omega
      rw [e1, e2, e3] at b
      exact b
    · rw [if_neg hs]
      have e : nk r = 0 := nk_big r h5 (by omega)
      rw [e]
      exact ⟨by simpa using hi, by simpa using h1, by simpa using h2, by simpa using h3⟩

theorem WS.put_tells (s : WS) (v : Iv) (h : s.tells v) (hv : v.ok) (e : Bool × Nat) (hp : e.2 ≤ 255) : (s.put e).tells (v.step e) := by
  obtain ⟨h1, h2, h3, h4⟩ := step_range v hv e hp
  obtain ⟨hi, hl, hs, hn⟩ := h
  obtain ⟨b, p⟩ := e
  unfold WS.put Iv.step
  rw [hs]
  cases b
  · simp only [Bool.false_eq_true, if_false] at *
    exact WS.norm_tells 8 _ _ _ _ ⟨hi.b1, hi.b24, hi.b8, h1, by have := hi.r255; omega, hi.by_, by have := hi.low; simp; omega, by have := hi.all; simp [WS.num] at *; omega⟩ (by simpa [WS.num] using hl) rfl (by simpa [WS.sh] using hn) h1 h2 (by have := nk_ok _ h2 h1; omega)
  · simp only [if_true] at *
    refine WS.norm_tells 8 _ _ _ _ ⟨hi.b1, hi.b24, hi.b8, h1, by have := hi.r255; omega, hi.by_, by have := hi.low; simp; omega, ?_⟩ ?_ rfl (by simpa [WS.sh] using hn) h1 h2 (by have := nk_ok _ h2 h1; omega)
    · have := hi.all
      simp only [WS.num] at *
      omega
    · simp only [WS.num] at *
      omega
theorem WS.puts_tells (l : List (Bool × Nat)) : ∀ (s : WS) (v : Iv), s.tells v → v.ok → Probs l → (s.puts l).tells (v.steps l) := by
  induction l with
  | nil => intro s v h _ _; exact h
  | cons e l ih => intro s v h hv hp; exact ih _ _ (s.put_tells v h hv e (hp e (by simp))) (v.step_ok hv e (hp e (by simp))) (fun x hx => hp x (by simp [hx]))
theorem WS.puts_snoc (s : WS) (e : Bool × Nat) (l : List (Bool × Nat)) : s.puts (l ++ [e]) = (s.puts l).put e := by simp [WS.puts]
theorem WS.puts_append (s : WS) (l l' : List (Bool × Nat)) : s.puts (l ++ l') = (s.puts l).puts l' := by simp [WS.puts]

/-- All is written: behind the last bit shifted out nothing is left. -/
theorem WS.flush_inv (k : Nat) : ∀ (s : WS) (r : Nat), s.inv r → (WS.flush k s).inv 1 ∧ (WS.flush k s).num = 2 ^ k * s.num ∧ (WS.flush k s).sh = s.sh + k := by
  induction k with
  | zero =>
    intro s r h
    refine ⟨⟨h.b1, h.b24, h.b8, Nat.le_refl _, by decide, h.by_, ?_, ?_⟩, by simp [WS.flush], rfl⟩
    · have := h.low; have := h.r1; show s.bottom + 1 ≤ 2 ^ (33 - s.bits); omega
    · have := h.all; have := h.r1; show s.num + 1 ≤ 2 ^ (8 * s.out.length + 32 - s.bits); omega
  | succ k ih =>
    intro s r h
    obtain ⟨a1, a2, a3, _, _⟩ := s.shift_inv r 1 h (Nat.le_refl _) (by have := h.r1; omega) (by decide)
    obtain ⟨b1, b2, b3⟩ := ih _ 1 a1
    refine ⟨b1, ?_, ?_⟩
    · show (WS.flush k s.shift).num = _
      rw [b2, a2, Nat.pow_succ, Nat.mul_assoc]
    · show (WS.flush k s.shift).sh = _
      rw [b3, a3]; omega
def WS.dry (s : WS) : Prop := s.bottom < 2 ^ (32 - s.bits)
theorem WS.shift_dry (s : WS) (r : Nat) (h : s.inv r) (hd : s.dry ∨ s.bits = 1) : s.shift.dry := by
  obtain ⟨out, bottom, size, bits⟩ := s
  have g1 := h.b1
  have g2 := h.b24
  simp only [WS.dry] at *
  unfold WS.shift
  by_cases hb : bits = 1
  · simp only [hb, if_true]
    rw [show (2 : Nat) ^ (32 - 8) = 16777216 by simp]
    omega
  · have hd' : bottom < 2 ^ (32 - bits) := by
      rcases hd with hd | hd
      · exact hd
      · exact absurd hd hb
    have p1 : (2 : Nat) ^ (32 - (bits - 1)) = 2 ^ (32 - bits) * 2 := by rw [show 32 - (bits - 1) = (32 - bits) + 1 by omega, Nat.pow_succ]
    simp only [hb, if_false]
    rw [p1]
    have := Nat.mod_le (bottom * 2) 4294967296
    omega
theorem WS.flush_dry (k : Nat) : ∀ (s : WS) (r : Nat), s.inv r → (s.dry ∨ s.bits ≤ k) → (WS.flush k s).dry := by
  induction k with
  | zero =>
    intro s r h hd
    rcases hd with hd | hd
    · exact hd
    · have := h.b1; omega
  | succ k ih =>
    intro s r h hd
    obtain ⟨a1, _, _, _, _⟩ := s.shift_inv r 1 h (Nat.le_refl _) (by have := h.r1; omega) (by decide)
    refine ih s.shift 1 a1 ?_
    rcases hd with hd | hd
    · exact .inl (s.shift_dry r h (.inl hd))
    · by_cases hb : s.bits = 1
      · exact .inl (s.shift_dry r h (.inr hb))
      · refine .inr ?_
        unfold WS.shift
        simp only [hb, if_false]
        omega
end Go.Proofs.YtleiehiabcgalaaDoor

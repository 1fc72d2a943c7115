/- The boolean coder, plain: the reader follows the writer. -/
import Derived.Test.YtleiehiabcgalaaDoorBoolPlain
namespace Go.Proofs.YtleiehiabcgalaaDoor
set_option linter.unusedSimpArgs false
set_option linter.unusedVariables false

/-- The bytes lie in the interval. -/
structure Holds (bytes : List Nat) (v : Iv) : Prop where
  room : v.sh + 8 ≤ 8 * bytes.length
  lo : v.low * 2 ^ (8 * bytes.length - 8 - v.sh) ≤ val bytes
  hi : val bytes < (v.low + v.range) * 2 ^ (8 * bytes.length - 8 - v.sh)
/-- The bytes tell these truths from this interval on. -/
def Codes (bytes : List Nat) (v : Iv) (l : List (Bool × Nat)) : Prop := Holds bytes (v.steps l)

theorem Codes.here {bytes : List Nat} {v : Iv} {l : List (Bool × Nat)} (h : Codes bytes v l) (hv : v.ok) (hp : Probs l) : Holds bytes v := by
  obtain ⟨h1, h2, h3⟩ := h
  have a := steps_within l v hv hp
  have b := (Iv.steps_sh l v hv hp).1
  have e : 8 * bytes.length - 8 - v.sh = ((v.steps l).sh - v.sh) + (8 * bytes.length - 8 - (v.steps l).sh) := by omega
  refine ⟨by omega, ?_, ?_⟩
  · rw [e, Nat.pow_add, ← Nat.mul_assoc]
    exact Nat.le_trans (Nat.mul_le_mul_right _ a.1) h2
  · rw [e, Nat.pow_add, ← Nat.mul_assoc]
    exact Nat.lt_of_lt_of_le h3 (Nat.mul_le_mul_right _ a.2)
theorem Codes.tail {bytes : List Nat} {v : Iv} {e : Bool × Nat} {l : List (Bool × Nat)} (h : Codes bytes v (e :: l)) : Codes bytes (v.step e) l := h

/-- A writer's last state, with four bytes behind, lies in the interval. -/
theorem flushed (f : WS) (v : Iv) (K N : Nat) (hK : K = 2 ^ 32) (hN : N = v.low) (f1 : f.inv 1) (f2 : f.num = K * N) (f3 : 8 * f.out.length + 24 - f.bits = v.sh + 32) (f4 : f.dry) (hok : v.ok) :
    Holds (f.out ++ [0, 0, 0, 0]) v ∧ IsBy (f.out ++ [0, 0, 0, 0]) ∧ 8 * f.out.length ≤ v.sh + 32 := by
  obtain ⟨out, bottom, size, bits⟩ := f
  have g1 := f1.b1
  have g2 := f1.b24
  have g6 := f1.by_
  simp only [WS.dry, WS.num] at *
  have hlen : 8 * out.length = v.sh + 8 + bits := by omega
  have pw : K = 2 ^ bits * 2 ^ (32 - bits) := by rw [hK, ← Nat.pow_add]; congr 1; omega
  clear hK
  have hb0 : bottom = 0 := by
    have e1 : (val out * 2 ^ (32 - bits) + bottom) % 2 ^ (32 - bits) = bottom := by
      rw [Nat.mul_comm, Nat.mul_add_mod, Nat.mod_eq_of_lt f4]
    have e2 : (K * N) % 2 ^ (32 - bits) = 0 := by
      rw [pw, Nat.mul_assoc, Nat.mul_comm (2 ^ (32 - bits)), ← Nat.mul_assoc, Nat.mul_mod_left]
    rw [f2, e2] at e1
    exact e1.symm
  subst hb0
  have hval : val out = v.low * 2 ^ bits := by
    have e1 : val out * 2 ^ (32 - bits) = v.low * 2 ^ bits * 2 ^ (32 - bits) := by
      rw [Nat.add_zero] at f2
      rw [Nat.mul_assoc, ← pw, f2, hN, Nat.mul_comm]
    exact Nat.eq_of_mul_eq_mul_right (Nat.pow_pos (by decide)) e1
  have hT : val (out ++ [0, 0, 0, 0]) = v.low * 2 ^ (bits + 32) := by
    have e4 : (256 : Nat) ^ ([0, 0, 0, 0] : List Nat).length = 2 ^ 32 := by
      rw [show (256 : Nat) = 2 ^ 8 by decide, ← Nat.pow_mul]
      exact congrArg (2 ^ ·) (show 8 * ([0, 0, 0, 0] : List Nat).length = 32 by decide)
    rw [val_append, hval, e4, Nat.pow_add, ← Nat.mul_assoc]
    exact Nat.add_zero _
  have hL : 8 * (out ++ [0, 0, 0, 0]).length = v.sh + 8 + bits + 32 := by rw [List.length_append]; simp; omega
  have hE : 8 * (out ++ [0, 0, 0, 0]).length - 8 - v.sh = bits + 32 := by omega
  refine ⟨⟨by omega, ?_, ?_⟩, ?_, by omega⟩
  · rw [hE, hT]; exact Nat.le_refl _
  · rw [hE, hT]
    exact Nat.mul_lt_mul_of_pos_right (by have := hok.1; omega) (Nat.pow_pos (by decide))
  · intro x hx
    rcases List.mem_append.1 hx with m | m
    · exact g6 x m
    · simp at m; omega

/-- What was written tells what was put. -/
theorem done_codes (l : List (Bool × Nat)) (hp : Probs l) : Codes (WS.start.puts l).done Iv.start l ∧ IsBy (WS.start.puts l).done ∧ (WS.start.puts l).done.length ≤ l.length + 12 := by
  have ht := WS.puts_tells l _ _ WS.start_tells Iv.start_ok hp
  have hok := Iv.steps_ok l _ Iv.start_ok hp
  have hsh := (Iv.steps_sh l _ Iv.start_ok hp).2
  obtain ⟨hi, hl, hz, hn⟩ := ht
  obtain ⟨f1, f2, f3⟩ := WS.flush_inv 32 _ _ hi
  have f4 := WS.flush_dry 32 _ _ hi (.inr (by have := hi.b24; omega))
  have f3' := f3.trans (congrArg (· + 32) hn)
  obtain ⟨a, b, c⟩ := flushed (WS.flush 32 (WS.start.puts l)) (Iv.start.steps l) _ _ rfl hl f1 f2 f3' f4 hok
  refine ⟨a, b, ?_⟩
  have hz0 : Iv.start.sh = 0 := rfl
  have e : (WS.start.puts l).done.length = (WS.flush 32 (WS.start.puts l)).out.length + 4 := List.length_append
  omega

/-- What the reader keeps: bytes taken, bits, how many, the range less 1. -/
structure DS where
  r : Nat
  b : Nat
  n : Nat
  rm : Nat
def DS.start : DS := ⟨0, 0, 0, 254⟩

/-- A byte more, where fewer than 8 bits are left. -/
def DS.load (bytes : List Nat) (s : DS) : DS := if s.n < 8 then ⟨s.r + 1, s.b + bytes.getD s.r 0 * 2 ^ (8 - s.n), s.n + 8, s.rm⟩ else s
/-- The range is split. -/
def DS.cut (s : DS) (p : Nat) : Bool × DS :=
  let sp := splitN (s.rm + 1) p
  if sp * 256 ≤ s.b then (true, ⟨s.r, s.b - sp * 256, s.n, s.rm - sp⟩) else (false, ⟨s.r, s.b, s.n, sp - 1⟩)
/-- The range is doubled till it is at least 128. -/
def DS.norm (s : DS) : DS := ⟨s.r, s.b * 2 ^ nk (s.rm + 1), s.n - nk (s.rm + 1), (s.rm + 1) * 2 ^ nk (s.rm + 1) - 1⟩

structure DS.tells (bytes : List Nat) (s : DS) (v : Iv) : Prop where
  len : s.r ≤ bytes.length
  bits : s.n + v.sh = 8 * s.r
  n15 : s.n ≤ 15
  eq : s.b + 256 * v.low = val (bytes.take s.r) * 2 ^ (16 - s.n)
  dvd : 2 ^ (16 - s.n) ∣ s.b
  lim : s.b < 256 * v.range
  rm : s.rm + 1 = v.range

theorem DS.start_tells (bytes : List Nat) : DS.start.tells bytes Iv.start := ⟨by simp [DS.start], rfl, by decide, by simp [DS.start, Iv.start, val], by simp [DS.start], by decide, rfl⟩

theorem take_succ_val (bytes : List Nat) (r : Nat) (h : r < bytes.length) : val (bytes.take (r + 1)) = val (bytes.take r) * 256 + bytes.getD r 0 := by
  rw [List.take_succ_eq_append_getElem h, val_snoc]
  simp [h]

/-- What a state with 8 bits at least knows of the bytes. -/
theorem DS.pos {bytes : List Nat} {r n : Nat} {v : Iv} (hb : IsBy bytes) (hr : r ≤ bytes.length) (hn : n + v.sh = 8 * r) (h8 : 8 ≤ n) (h16 : n ≤ 16) (hh : v.sh + 8 ≤ 8 * bytes.length) :
    ∀ k, (k * 2 ^ (8 * bytes.length - 8 - v.sh) ≤ val bytes ↔ k * 256 ≤ val (bytes.take r) * 2 ^ (16 - n)) := by
  intro k
  obtain ⟨q, hq, hv⟩ := val_take bytes hb r hr
  have e256 : (256 : Nat) = 2 ^ 8 := by decide
  have eq1 : (256 : Nat) ^ (bytes.length - r) = 2 ^ (8 * (bytes.length - r)) := by rw [e256, ← Nat.pow_mul]
  have e1 : 8 * bytes.length - 8 - v.sh = (n - 8) + 8 * (bytes.length - r) := by omega
  have e2 : (256 : Nat) = 2 ^ (n - 8) * 2 ^ (16 - n) := by rw [← Nat.pow_add, e256]; congr 1; omega
  rw [eq1] at hq hv
  rw [e1, hv, Nat.pow_add, ← Nat.mul_assoc]
  generalize 2 ^ (8 * (bytes.length - r)) = Q at *
  generalize val (bytes.take r) = V at *
  have hP : 0 < 2 ^ (16 - n) := Nat.pow_pos (by decide)
  constructor
  · intro h
    have h1 : k * 2 ^ (n - 8) * Q < (V + 1) * Q := by rw [Nat.add_mul]; omega
    have h2 := Nat.lt_of_mul_lt_mul_right h1
    rw [e2, ← Nat.mul_assoc]
    exact Nat.mul_le_mul_right _ (by omega)
  · intro h
    rw [e2, ← Nat.mul_assoc] at h
    have h2 := Nat.le_of_mul_le_mul_right h hP
    exact Nat.le_trans (Nat.mul_le_mul_right Q h2) (Nat.le_add_right _ _)

theorem DS.load_tells {bytes : List Nat} {s : DS} {v : Iv} (hb : IsBy bytes) (h : s.tells bytes v) (hh : Holds bytes v) : (s.load bytes).tells bytes v ∧ 8 ≤ (s.load bytes).n ∧ (s.n < 8 → s.r < bytes.length) := by
  unfold DS.load
  by_cases h8 : s.n < 8
  · rw [if_pos h8]
    have hr : s.r < bytes.length := by have := h.bits; have := hh.room; omega
    have hn : s.n + 8 + v.sh = 8 * (s.r + 1) := by have := h.bits; omega
    have e16 : (2 : Nat) ^ (16 - s.n) = 256 * 2 ^ (8 - s.n) := by rw [show 16 - s.n = 8 + (8 - s.n) by omega, Nat.pow_add]
    have e8 : 16 - (s.n + 8) = 8 - s.n := by omega
    have heq : s.b + bytes.getD s.r 0 * 2 ^ (8 - s.n) + 256 * v.low = val (bytes.take (s.r + 1)) * 2 ^ (16 - (s.n + 8)) := by
      rw [e8, take_succ_val bytes s.r hr, Nat.add_mul, Nat.mul_assoc, ← e16, ← h.eq]
      omega
    refine ⟨⟨by simp; omega, hn, by simp; omega, heq, ?_, ?_, h.rm⟩, by simp, fun _ => hr⟩
    · show 2 ^ (16 - (s.n + 8)) ∣ s.b + bytes.getD s.r 0 * 2 ^ (8 - s.n)
      rw [e8]
      refine Nat.dvd_add (Nat.dvd_trans ?_ h.dvd) (Nat.dvd_mul_left _ _)
      rw [e16]
      exact Nat.dvd_mul_left _ _
    · have p := (DS.pos hb (show s.r + 1 ≤ bytes.length by omega) hn (by omega) (by omega) hh.room (v.low + v.range))
      have hn2 : ¬ (v.low + v.range) * 2 ^ (8 * bytes.length - 8 - v.sh) ≤ val bytes := by have := hh.hi; omega
      rw [p] at hn2
      rw [← heq] at hn2
      simp only
      omega
  · rw [if_neg h8]
    exact ⟨h, by omega, fun hc => absurd hc h8⟩

theorem DS.cut_tells {bytes : List Nat} {s : DS} {v : Iv} (hb : IsBy bytes) (h : s.tells bytes v) (h8 : 8 ≤ s.n) (hv : v.ok) (e : Bool × Nat) (hp : e.2 ≤ 255) (hh : Holds bytes v) (hs : Holds bytes (v.step e)) :
    (s.cut e.2).1 = e.1 ∧ ((s.cut e.2).2.norm).tells bytes (v.step e) ∧ (s.cut e.2).2.b < 256 * ((s.cut e.2).2.rm + 1) ∧ (s.cut e.2).2.rm < 255 := by
  obtain ⟨h1, h2, h3, h4⟩ := step_range v hv e hp
  have hk := nk_ok _ h2 h1
  have P := DS.pos hb h.len h.bits h8 (by have := h.n15; omega) hh.room
  have hrm : s.rm + 1 = v.range := h.rm
  have heq := h.eq
  have key : ∀ l r, (v.step e).low = l * 2 ^ nk r → (v.step e).sh = v.sh + nk r → (v.step e).range = r * 2 ^ nk r →
      l * 256 ≤ val (bytes.take s.r) * 2 ^ (16 - s.n) ∧ val (bytes.take s.r) * 2 ^ (16 - s.n) < (l + r) * 256 := by
    intro l r e1 e2 e3
    have a := hs.lo
    have b := hs.hi
    have c := hs.room
    have ex : 8 * bytes.length - 8 - v.sh = nk r + (8 * bytes.length - 8 - (v.step e).sh) := by omega
    constructor
    · rw [← P, ex, Nat.pow_add, ← Nat.mul_assoc, ← e1]
      exact a
    · have hn : ¬ (l + r) * 2 ^ (8 * bytes.length - 8 - v.sh) ≤ val bytes := by
        rw [ex, Nat.pow_add, ← Nat.mul_assoc, Nat.add_mul, ← e1, ← e3]
        omega
      rw [P] at hn
      omega
  obtain ⟨b, p⟩ := e
  have hn15 := h.n15
  have hbits := h.bits
  have fin : ∀ l r B rm, l * 256 + B = val (bytes.take s.r) * 2 ^ (16 - s.n) → rm + 1 = r → (v.step (b, p)).low = l * 2 ^ nk r → (v.step (b, p)).sh = v.sh + nk r → (v.step (b, p)).range = r * 2 ^ nk r → nk r ≤ 7 → 1 ≤ r →
      2 ^ (16 - s.n) ∣ B → B < 256 * r → (DS.mk s.r B s.n rm).norm.tells bytes (v.step (b, p)) := by
    intro l r B rm e0 e1 e2 e3 e4 e5 e6 e7 e8
    unfold DS.norm
    simp only [e1]
    have ex : (2 : Nat) ^ (16 - (s.n - nk r)) = 2 ^ (16 - s.n) * 2 ^ nk r := by rw [← Nat.pow_add]; congr 1; omega
    refine ⟨h.len, ?_, ?_, ?_, ?_, ?_, ?_⟩
    · rw [e3]; simp only; omega
    · simp only; omega
    · simp only
      rw [e2, ex, ← Nat.mul_assoc (val (bytes.take s.r)), ← e0, Nat.add_mul, ← Nat.mul_assoc, Nat.mul_comm 256 l]; exact Nat.add_comm _ _
    · simp only
      rw [ex]
      exact Nat.mul_dvd_mul_right e7 _
    · simp only
      rw [e4, ← Nat.mul_assoc]
      exact Nat.mul_lt_mul_of_pos_right e8 (Nat.pow_pos (by decide))
    · simp only
      rw [e4]
      have : 1 ≤ r * 2 ^ nk r := Nat.mul_pos e6 (Nat.pow_pos (by decide))
      omega
  have d256 : 2 ^ (16 - s.n) ∣ 256 := by
    rw [show (256 : Nat) = 2 ^ 8 by decide]
    exact Nat.pow_dvd_pow 2 (by omega)
  have hlim := h.lim
  cases b
  · simp only [Bool.false_eq_true, if_false] at *
    have k := key v.low (splitN v.range p) (by simp [Iv.step]) (by simp [Iv.step]) (by simp [Iv.step])
    have hc : ¬ splitN (s.rm + 1) p * 256 ≤ s.b := by rw [hrm]; omega
    unfold DS.cut
    simp only [hc, if_false]
    refine ⟨trivial, fin v.low (splitN v.range p) s.b _ (by omega) (by rw [hrm]; omega) (by simp [Iv.step]) (by simp [Iv.step]) (by simp [Iv.step]) hk.2.2 h1 h.dvd (by omega), ?_, ?_⟩
    · rw [hrm]; omega
    · rw [hrm]; omega
  · simp only [if_true] at *
    have k := key (v.low + splitN v.range p) (v.range - splitN v.range p) (by simp [Iv.step]) (by simp [Iv.step]) (by simp [Iv.step])
    have hc : splitN (s.rm + 1) p * 256 ≤ s.b := by rw [hrm]; omega
    unfold DS.cut
    simp only [hc, if_true]
    refine ⟨trivial, fin (v.low + splitN v.range p) (v.range - splitN v.range p) (s.b - splitN (s.rm + 1) p * 256) _ (by rw [hrm]; omega) (by rw [hrm]; omega) (by simp [Iv.step]) (by simp [Iv.step]) (by simp [Iv.step]) hk.2.2 h1
      ((Nat.dvd_sub h.dvd (Nat.dvd_trans d256 (Nat.dvd_mul_left _ _)))) (by rw [hrm]; omega), ?_, ?_⟩
    · rw [hrm]; omega
    · rw [hrm]; omega
end Go.Proofs.YtleiehiabcgalaaDoor

/- Which symbol bits tell, plain; the look-up table of a tree. No program in sight. -/
import Derived.Test.YtpiapfahcoopbaaDoorTreePlain
import Derived.Test.YtpiapfahcoopbaaDoorBitsPlain
namespace Go.Proofs.YtpiapfahcoopbaaDoor
set_option linter.unusedSimpArgs false
set_option linter.unusedVariables false

/-- The first n bits of a number, the lowest one first, as a number whose highest bit is the first one. -/
def revN (x : Nat) : Nat → Nat
  | 0 => 0
  | k + 1 => 2 * revN x k + x / 2 ^ k % 2
theorem revN_lt (x k : Nat) : revN x k < 2 ^ k := by
  induction k with
  | zero => simp [revN]
  | succ k ih =>
    rw [revN, Nat.pow_succ]
    have : x / 2 ^ k % 2 < 2 := Nat.mod_lt _ (by decide)
    omega
theorem revN_div (x j k : Nat) : revN x (j + k) / 2 ^ k = revN x j := by
  induction k with
  | zero => simp
  | succ k ih =>
    rw [← Nat.add_assoc, revN, Nat.pow_succ', ← Nat.div_div_eq_div_mul]
    have h : x / 2 ^ (j + k) % 2 < 2 := Nat.mod_lt _ (by decide)
    rw [show (2 * revN x (j + k) + x / 2 ^ (j + k) % 2) / 2 = revN x (j + k) by omega]
    exact ih
theorem revN_div' (x : Nat) {j n : Nat} (h : j ≤ n) : revN x n / 2 ^ (n - j) = revN x j := by
  have := revN_div x j (n - j)
  rwa [show j + (n - j) = n by omega] at this
theorem bit_mod (x : Nat) {i k : Nat} (h : i < k) : x % 2 ^ k / 2 ^ i % 2 = x / 2 ^ i % 2 := by
  have e : 2 ^ k = 2 ^ i * 2 ^ (k - i) := by rw [← Nat.pow_add]; congr 1; omega
  rw [e, Nat.mod_mul_right_div_self]
  have e2 : 2 ^ (k - i) = 2 * 2 ^ (k - i - 1) := by rw [← Nat.pow_succ']; congr 1; omega
  rw [e2, Nat.mod_mul_right_mod]
theorem revN_mod (x n : Nat) : ∀ k, k ≤ n → revN (x % 2 ^ n) k = revN x k
  | 0, _ => rfl
  | k + 1, h => by
    rw [revN, revN, revN_mod x n k (by omega), bit_mod x (show k < n by omega)]
theorem revN_back8 : ∀ n, n < 9 → ∀ x, x < 256 → revN (revN x n) n = x % 2 ^ n := by decide +kernel
theorem revN_back (x n : Nat) (hn : n ≤ 8) : revN (revN x n) n = x % 2 ^ n := by
  have h := revN_back8 n (by omega) (x % 256) (Nat.mod_lt _ (by decide))
  have e : revN (x % 256) n = revN x n := revN_mod x 8 n hn
  rw [e] at h
  rw [h]
  have e2 : (256 : Nat) = 2 ^ n * 2 ^ (8 - n) := by rw [← Nat.pow_add, show n + (8 - n) = 8 by omega]
  rw [e2, Nat.mod_mul_right_mod]
theorem revN_iff (x c n : Nat) (hn : n ≤ 8) (hc : c < 2 ^ n) : revN x n = c ↔ x % 2 ^ n = revN c n := by
  constructor
  · rintro rfl
    exact (revN_back x n hn).symm
  · intro h
    have h1 := revN_mod x n n (Nat.le_refl _)
    rw [h, revN_back c n hn, Nat.mod_eq_of_lt hc] at h1
    exact h1.symm

/-- The first k bits from a place on, as a number whose highest bit is the first one. -/
def vN (B : List Nat) (pos k : Nat) : Nat := revN (leN B / 2 ^ pos) k
theorem vN_succ (B : List Nat) (pos k : Nat) : vN B pos (k + 1) = 2 * vN B pos k + leN B / 2 ^ (pos + k) % 2 := by
  unfold vN
  rw [revN, Nat.div_div_eq_div_mul, ← Nat.pow_add]
theorem vN_lt (B : List Nat) (pos k : Nat) : vN B pos k < 2 ^ k := revN_lt _ _
theorem vN_div (B : List Nat) (pos : Nat) {j n : Nat} (h : j ≤ n) : vN B pos n / 2 ^ (n - j) = vN B pos j := revN_div' _ h
theorem vN_bits (B : List Nat) (pos : Nat) {k n : Nat} (h : k ≤ n) : revN (bitsAt B pos n) k = vN B pos k := by
  unfold bitsAt vN
  exact revN_mod _ n k h
def Hit (L B : List Nat) (pos t : Nat) : Prop := Used L t ∧ vN B pos (L.getD t 0) = codeG L t
theorem hit_ex {L : List Nat} (hL : ∀ x ∈ L, x ≤ 15) (hk : kS L 15 = 32768) (B : List Nat) (pos : Nat) : ∃ t, Hit L B pos t := by
  rcases cover L 15 (vN B pos 15) with ⟨t, h1, h2, h3⟩ | h
  · exact ⟨t, h1, by rw [← h3, vN_div B pos h2]⟩
  · rw [top15 hk] at h
    have := vN_lt B pos 15
    omega
theorem hit_uniq {L B : List Nat} {pos s t : Nat} (hs : Hit L B pos s) (ht : Hit L B pos t) : s = t := by
  rcases Nat.le_total (L.getD s 0) (L.getD t 0) with h | h
  · exact prefix_free hs.1 ht.1 h (by rw [← ht.2, vN_div B pos h, hs.2])
  · exact (prefix_free ht.1 hs.1 h (by rw [← hs.2, vN_div B pos h, ht.2])).symm
/-- No code yet. -/
theorem hit_later {L B : List Nat} {pos t d : Nat} (ht : Hit L B pos t) (h : topN L d ≤ vN B pos d) : d < L.getD t 0 := by
  rcases Nat.lt_or_ge d (L.getD t 0) with h1 | h1
  · exact h1
  · exfalso
    have h2 := code_lt_top ht.1
    rw [← ht.2, ← vN_div B pos h1] at h2
    rcases Nat.lt_or_eq_of_le h1 with h3 | h3
    · have h4 := top_grow' L h3
      have h5 := gN_le_top L d
      have h6 : topN L (L.getD t 0) ≤ vN B pos d / 2 ^ (d - L.getD t 0) := by
        rw [Nat.le_div_iff_mul_le (Nat.pow_pos (by decide))]
        omega
      omega
    · rw [h3, Nat.sub_self, Nat.pow_zero, Nat.div_one] at h2
      omega
instance (L B : List Nat) (pos t : Nat) : Decidable (Hit L B pos t) := by
  unfold Hit
  exact decidable_of_iff ((t < L.length ∧ L.getD t 0 ≠ 0) ∧ vN B pos (L.getD t 0) = codeG L t) ⟨fun h => ⟨⟨h.1.1, h.1.2⟩, h.2⟩, fun h => ⟨⟨h.1.lt, h.1.ne⟩, h.2⟩⟩
def dec (L B : List Nat) (pos : Nat) : Nat := ((List.range L.length).find? (fun t => decide (Hit L B pos t))).getD 0
theorem dec_hit {L : List Nat} (hL : ∀ x ∈ L, x ≤ 15) (hk : kS L 15 = 32768) (B : List Nat) (pos : Nat) : Hit L B pos (dec L B pos) := by
  obtain ⟨t, ht⟩ := hit_ex hL hk B pos
  unfold dec
  cases h : (List.range L.length).find? (fun t => decide (Hit L B pos t)) with
  | none =>
    rw [List.find?_eq_none] at h
    exact absurd (decide_eq_true ht) (h t (List.mem_range.2 ht.1.lt))
  | some s =>
    have := List.find?_some h
    simpa using this
theorem dec_eq {L : List Nat} (hL : ∀ x ∈ L, x ≤ 15) (hk : kS L 15 = 32768) {B : List Nat} {pos t : Nat} (h : Hit L B pos t) : dec L B pos = t := hit_uniq (dec_hit hL hk B pos) h

/-- Where the symbols begin, and which they are. -/
def runP (L B : List Nat) : Nat → Nat
  | 0 => 0
  | m + 1 => runP L B m + L.getD (dec L B (runP L B m)) 0
def runS (L B : List Nat) (m : Nat) : List Int := (List.range m).map fun j => ((dec L B (runP L B j) : Nat) : Int)
theorem runS_succ (L B : List Nat) (m : Nat) : runS L B (m + 1) = runS L B m ++ [((dec L B (runP L B m) : Nat) : Int)] := by simp [runS, List.range_succ]
theorem runS_len (L B : List Nat) (m : Nat) : (runS L B m).length = m := by simp [runS]
/-- So many symbols are all there. -/
def StopR (L B : List Nat) (n m : Nat) : Prop := m ≤ n ∧ (∀ j, j < m → runP L B (j + 1) ≤ 8 * B.length) ∧ (m = n ∨ ¬ runP L B (m + 1) ≤ 8 * B.length)
theorem StopR.uniq {L B : List Nat} {n m m' : Nat} (h : StopR L B n m) (h' : StopR L B n m') : m = m' := by
  obtain ⟨h1, h2, h3⟩ := h
  obtain ⟨h1', h2', h3'⟩ := h'
  rcases Nat.lt_trichotomy m m' with hlt | heq | hgt
  · rcases h3 with h3 | h3
    · omega
    · exact absurd (h2' m hlt) h3
  · exact heq
  · rcases h3' with h3' | h3'
    · omega
    · exact absurd (h2 m' hgt) h3'

/-- What a tree's look-up table holds of the first k symbols. -/
structure LutK (L : List Nat) (k : Nat) (ns : List Nd) (lt : Nat → Nat) : Prop where
  short : ∀ x t, x < 128 → Used L t → t < k → L.getD t 0 ≤ 7 → revN x (L.getD t 0) = codeG L t → lt x = t * 256 + (L.getD t 0 + 1)
  long : ∀ x t, x < 128 → Used L t → t < k → 7 < L.getD t 0 → codeG L t / 2 ^ (L.getD t 0 - 7) = revN x 7 → ∃ i nd, lt x = i * 256 ∧ 0 < i ∧ ns[i]? = some nd ∧ nd.d = 7 ∧ nd.v = revN x 7
  none : ∀ x, x < 128 → (∀ t, Used L t → t < k → ¬ (L.getD t 0 ≤ 7 ∧ revN x (L.getD t 0) = codeG L t) ∧ ¬ (7 < L.getD t 0 ∧ codeG L t / 2 ^ (L.getD t 0 - 7) = revN x 7)) → lt x = 0
namespace LutK
variable {L : List Nat} {k : Nat} {ns ns' : List Nd} {lt : Nat → Nat}
theorem start (L : List Nat) (ns : List Nd) : LutK L 0 ns (fun _ => 0) := ⟨fun x t _ _ h => by omega, fun x t _ _ h => by omega, fun x _ _ => rfl⟩
theorem move (h : LutK L k ns lt) (hm : ∀ (i : Nat) (nd : Nd), ns[i]? = some nd → ∃ b : Nd, ns'[i]? = some b ∧ b.d = nd.d ∧ b.v = nd.v) : LutK L k ns' lt :=
  ⟨h.short, fun x t h1 h2 h3 h4 h5 => by
    obtain ⟨i, nd, e1, e2, e3, e4, e5⟩ := h.long x t h1 h2 h3 h4 h5
    obtain ⟨b, b1, b2, b3⟩ := hm i nd e3
    exact ⟨i, b, e1, e2, b1, by omega, by omega⟩, h.none⟩
theorem skip (h : LutK L k ns lt) (h0 : L.getD k 0 = 0) : LutK L (k + 1) ns lt :=
  ⟨fun x t h1 h2 h3 => h.short x t h1 h2 (by
      rcases Nat.lt_or_eq_of_le (Nat.le_of_lt_succ h3) with e | e
      · exact e
      · subst e; exact absurd h0 h2.ne),
   fun x t h1 h2 h3 => h.long x t h1 h2 (by
      rcases Nat.lt_or_eq_of_le (Nat.le_of_lt_succ h3) with e | e
      · exact e
      · subst e; exact absurd h0 h2.ne),
   fun x h1 h2 => h.none x h1 (fun t h3 h4 => h2 t h3 (by omega))⟩
/-- Two codes cannot meet in one entry. -/
theorem clash {x s t : Nat} (hx : x < 128) (hs : Used L s) (ht : Used L t) (h1 : L.getD s 0 ≤ 7) (h2 : revN x (L.getD s 0) = codeG L s) (h3 : 7 < L.getD t 0) (h4 : codeG L t / 2 ^ (L.getD t 0 - 7) = revN x 7) : False := by
  have h5 : codeG L t / 2 ^ (L.getD t 0 - L.getD s 0) = codeG L s := by
    rw [← h2, ← revN_div' x h1, ← h4, Nat.div_div_eq_div_mul, ← Nat.pow_add]
    congr 2
    omega
  have := prefix_free hs ht (by omega) h5
  subst this
  omega
theorem same {x s t : Nat} (hs : Used L s) (ht : Used L t) (h1 : L.getD s 0 ≤ 7) (h2 : revN x (L.getD s 0) = codeG L s) (h3 : L.getD t 0 ≤ 7) (h4 : revN x (L.getD t 0) = codeG L t) : s = t := by
  rcases Nat.le_total (L.getD s 0) (L.getD t 0) with h | h
  · exact prefix_free hs ht h (by rw [← h4, revN_div' x h, h2])
  · exact (prefix_free ht hs h (by rw [← h2, revN_div' x h, h4])).symm
/-- A short code fills its entries. -/
theorem fill (h : LutK L k ns lt) (hk : Used L k) (h7 : L.getD k 0 ≤ 7) (lt' : Nat → Nat) (hl : ∀ x, x < 128 → lt' x = if revN x (L.getD k 0) = codeG L k then k * 256 + (L.getD k 0 + 1) else lt x) : LutK L (k + 1) ns lt' := by
  refine ⟨fun x t h1 h2 h3 h4 h5 => ?_, fun x t h1 h2 h3 h4 h5 => ?_, fun x h1 h2 => ?_⟩
  · rw [hl x h1]
    by_cases e : revN x (L.getD k 0) = codeG L k
    · rw [if_pos e]
      have := same hk h2 h7 e h4 h5
      subst this
      rfl
    · rw [if_neg e]
      refine h.short x t h1 h2 ?_ h4 h5
      rcases Nat.lt_or_eq_of_le (Nat.le_of_lt_succ h3) with e2 | e2
      · exact e2
      · subst e2; exact absurd h5 e
  · rw [hl x h1]
    have hne : t ≠ k := by rintro rfl; omega
    rw [if_neg (fun e => clash h1 hk h2 h7 e h4 h5)]
    exact h.long x t h1 h2 (by omega) h4 h5
  · rw [hl x h1, if_neg (fun e => (h2 k hk (Nat.lt_succ_self _)).1 ⟨h7, e⟩)]
    exact h.none x h1 (fun t h3 h4 => h2 t h3 (by omega))
/-- A long code has an entry that tells its node of depth 7. -/
theorem point (h : LutK L k ns lt) (hk : Used L k) (h7 : 7 < L.getD k 0) (x0 i : Nat) (nd : Nd) (hx : x0 < 128) (hx0 : codeG L k / 2 ^ (L.getD k 0 - 7) = revN x0 7) (hi : ns[i]? = some nd) (hi0 : 0 < i) (hd : nd.d = 7) (hv : nd.v = revN x0 7) (lt' : Nat → Nat) (hl : ∀ x, x < 128 → lt' x = if x = x0 ∧ lt x0 = 0 then i * 256 else lt x) : LutK L (k + 1) ns lt' := by
  have hinj : ∀ x, x < 128 → revN x 7 = revN x0 7 → x = x0 := by
    intro x h1 h2
    have e1 := revN_back x 7 (by decide)
    have e2 := revN_back x0 7 (by decide)
    rw [h2, e2, Nat.mod_eq_of_lt (show x0 < 2 ^ 7 from hx), Nat.mod_eq_of_lt (show x < 2 ^ 7 from h1)] at e1
    exact e1.symm
  refine ⟨fun x t h1 h2 h3 h4 h5 => ?_, fun x t h1 h2 h3 h4 h5 => ?_, fun x h1 h2 => ?_⟩
  · have hne : t ≠ k := by rintro rfl; omega
    have e := h.short x t h1 h2 (by omega) h4 h5
    rw [hl x h1, if_neg (fun c => by obtain ⟨rfl, c2⟩ := c; omega), e]
  · by_cases ht : t = k
    · subst ht
      have : x = x0 := hinj x h1 (by rw [← h5, hx0])
      subst this
      rw [hl x h1]
      by_cases e : lt x = 0
      · rw [if_pos ⟨rfl, e⟩]
        exact ⟨i, nd, rfl, hi0, hi, hd, hv⟩
      · rw [if_neg (fun c => e c.2)]
        have h6 : ¬ ∀ s, Used L s → s < t → ¬ (L.getD s 0 ≤ 7 ∧ revN x (L.getD s 0) = codeG L s) ∧ ¬ (7 < L.getD s 0 ∧ codeG L s / 2 ^ (L.getD s 0 - 7) = revN x 7) := fun c => e (h.none x h1 c)
        rw [Classical.not_forall] at h6
        obtain ⟨s, h6⟩ := h6
        rw [Classical.not_imp] at h6
        obtain ⟨u1, h6⟩ := h6
        rw [Classical.not_imp] at h6
        obtain ⟨u2, h6⟩ := h6
        by_cases c1 : L.getD s 0 ≤ 7 ∧ revN x (L.getD s 0) = codeG L s
        · exact absurd (clash h1 u1 h2 c1.1 c1.2 h4 h5) (by simp)
        · by_cases c2 : 7 < L.getD s 0 ∧ codeG L s / 2 ^ (L.getD s 0 - 7) = revN x 7
          · exact h.long x s h1 u1 u2 c2.1 c2.2
          · exact absurd ⟨c1, c2⟩ h6
    · obtain ⟨j, b, e1, e2, e3⟩ := h.long x t h1 h2 (by omega) h4 h5
      rw [hl x h1, if_neg (fun c => by obtain ⟨rfl, c2⟩ := c; omega)]
      exact ⟨j, b, e1, e2, e3⟩
  · have h3 := h.none x h1 (fun t h3 h4 => h2 t h3 (by omega))
    rw [hl x h1, if_neg (fun c => by
      obtain ⟨rfl, _⟩ := c
      exact (h2 k hk (Nat.lt_succ_self _)).2 ⟨h7, hx0⟩)]
    exact h3
end LutK

/-- The program's code, of which the lowest bits count. -/
theorem codeF_mod {L : List Nat} (hL : ∀ x ∈ L, x ≤ 15) (hk : kS L 15 ≤ 32768) {s : Nat} (h : Used L s) : codeF L s % 2 ^ L.getD s 0 = codeG L s := by
  rw [code_low, Nat.mod_eq_of_lt (code_lt hL hk h)]
end Go.Proofs.YtpiapfahcoopbaaDoor

/- Prefix codes as trees, plain: which symbol bits tell, and what a tree under construction is. No program in sight. -/
import Derived.Test.YtpiapfahcoopbaaDoorCodesPlain
namespace Go.Proofs.YtpiapfahcoopbaaDoor
set_option linter.unusedSimpArgs false
set_option linter.unusedVariables false

/-- A symbol that has a code. -/
structure Used (L : List Nat) (s : Nat) : Prop where
  lt : s < L.length
  ne : L.getD s 0 ≠ 0
/-- Behind the last code of a length. -/
def topN (L : List Nat) (n : Nat) : Nat := gN L n + if n = 0 then 0 else cnt L n
theorem gN_top2 (L : List Nat) (n : Nat) : gN L (n + 1) = 2 * topN L n := rfl
theorem gN_le_top (L : List Nat) (n : Nat) : gN L n ≤ topN L n := Nat.le_add_right _ _
theorem top_grow (L : List Nat) (n k : Nat) : topN L n * 2 ^ (k + 1) ≤ gN L (n + k + 1) := by
  induction k with
  | zero => rw [gN_top2]; omega
  | succ k ih =>
    have h := gN_le_top L (n + k + 1)
    rw [show n + (k + 1) + 1 = n + k + 1 + 1 by omega, gN_top2, Nat.pow_succ, ← Nat.mul_assoc]
    omega
theorem top_grow' (L : List Nat) {n m : Nat} (h : n < m) : topN L n * 2 ^ (m - n) ≤ gN L m := by
  have := top_grow L n (m - n - 1)
  rw [show m - n - 1 + 1 = m - n by omega, show n + (m - n - 1) + 1 = m by omega] at this
  exact this
theorem getD_mem_le {L : List Nat} (hL : ∀ x ∈ L, x ≤ 15) (s : Nat) : L.getD s 0 ≤ 15 := by
  rcases Nat.lt_or_ge s L.length with h | h
  · have : L.getD s 0 = L[s] := by simp [h]
    rw [this]
    exact hL _ (List.getElem_mem h)
  · simp [h]
theorem code_ge {L : List Nat} {s : Nat} (h : Used L s) : gN L (L.getD s 0) ≤ codeG L s := by
  unfold codeG
  rw [if_neg h.ne]
  exact Nat.le_add_right _ _
theorem code_lt_top {L : List Nat} {s : Nat} (h : Used L s) : codeG L s < topN L (L.getD s 0) := by
  unfold codeG topN
  rw [if_neg h.ne, if_neg h.ne]
  have := cntT_lt L (L.getD s 0) s h.lt rfl
  omega
theorem top_le {L : List Nat} (hk : kS L 15 ≤ 32768) (n : Nat) (hn : n ≤ 15) : topN L n ≤ 2 ^ n := by
  unfold topN
  by_cases h : n = 0
  · subst h; simp [gN]
  · rw [if_neg h]
    exact gN_top L n (by omega) hn hk
theorem code_lt {L : List Nat} (hL : ∀ x ∈ L, x ≤ 15) (hk : kS L 15 ≤ 32768) {s : Nat} (h : Used L s) : codeG L s < 2 ^ L.getD s 0 :=
  Nat.lt_of_lt_of_le (code_lt_top h) (top_le hk _ (getD_mem_le hL s))
theorem cntT_mono (L : List Nat) (n : Nat) {a b : Nat} (h : a ≤ b) : cntT L n a ≤ cntT L n b := by
  unfold cntT
  have e : L.take a = (L.take b).take a := by rw [List.take_take, Nat.min_eq_left h]
  rw [e]
  exact (List.take_sublist a (L.take b)).count_le n
theorem cntT_step {L : List Nat} {s t : Nat} (hs : s < L.length) (h : s < t) : cntT L (L.getD s 0) s < cntT L (L.getD s 0) t := by
  have h1 := cntT_succ L (L.getD s 0) s hs
  rw [if_pos rfl] at h1
  have h2 := cntT_mono L (L.getD s 0) (show s + 1 ≤ t from h)
  omega
/-- No code is the beginning of another one. -/
theorem prefix_free {L : List Nat} {s t : Nat} (hs : Used L s) (ht : Used L t) (hl : L.getD s 0 ≤ L.getD t 0) (h : codeG L t / 2 ^ (L.getD t 0 - L.getD s 0) = codeG L s) : s = t := by
  rcases Nat.lt_or_eq_of_le hl with hlt | heq
  · have h1 := top_grow' L hlt
    have h2 := code_ge ht
    have h3 := code_lt_top hs
    have h4 : topN L (L.getD s 0) ≤ codeG L t / 2 ^ (L.getD t 0 - L.getD s 0) := by
      rw [Nat.le_div_iff_mul_le (Nat.pow_pos (by decide))]
      omega
    omega
  · rw [heq, Nat.sub_self, Nat.pow_zero, Nat.div_one] at h
    unfold codeG at h
    rw [if_neg ht.ne, if_neg hs.ne, ← heq] at h
    rcases Nat.lt_trichotomy s t with h1 | h1 | h1
    · have := cntT_step hs.lt h1
      omega
    · exact h1
    · have := cntT_step ht.lt h1
      rw [← heq] at this
      omega
theorem rank_ex (L : List Nat) (n r : Nat) : ∀ m, m ≤ L.length → r < cntT L n m → ∃ t, t < m ∧ L.getD t 0 = n ∧ cntT L n t = r
  | 0, _, h => by rw [cntT_zero] at h; omega
  | m + 1, hm, h => by
    rw [cntT_succ L n m (by omega)] at h
    by_cases h1 : r < cntT L n m
    · obtain ⟨t, ht, h2⟩ := rank_ex L n r m (by omega) h1
      exact ⟨t, by omega, h2⟩
    · by_cases h2 : L.getD m 0 = n
      · rw [if_pos h2] at h
        exact ⟨m, by omega, h2, by omega⟩
      · rw [if_neg h2] at h
        omega
/-- The symbol of a code. -/
theorem code_ex {L : List Nat} {n v : Nat} (hn : n ≠ 0) (h1 : gN L n ≤ v) (h2 : v < topN L n) : ∃ t, Used L t ∧ L.getD t 0 = n ∧ codeG L t = v := by
  unfold topN at h2
  rw [if_neg hn] at h2
  obtain ⟨t, ht, h3, h4⟩ := rank_ex L n (v - gN L n) L.length (Nat.le_refl _) (by rw [cntT_all]; omega)
  refine ⟨t, ⟨ht, by omega⟩, h3, ?_⟩
  unfold codeG
  rw [h3, if_neg hn, h4]
  omega
theorem top15 {L : List Nat} (hk : kS L 15 = 32768) : topN L 15 = 32768 := by
  have h1 := frI_all L hk
  have h2 := frI_gN L 14
  rw [show 14 + 1 = 15 by rfl, h1] at h2
  unfold topN
  rw [if_neg (by decide)]
  have e : (2 : Int) ^ 15 = 32768 := by decide
  omega
/-- Every place is a code's, or below one, or free for longer ones. -/
theorem cover (L : List Nat) : ∀ (d v : Nat), (∃ t, Used L t ∧ L.getD t 0 ≤ d ∧ v / 2 ^ (d - L.getD t 0) = codeG L t) ∨ topN L d ≤ v
  | 0, v => .inr (by simp [topN, gN])
  | d + 1, v => by
    rcases cover L d (v / 2) with ⟨t, h1, h2, h3⟩ | h
    · refine .inl ⟨t, h1, by omega, ?_⟩
      rw [show d + 1 - L.getD t 0 = d - L.getD t 0 + 1 by omega, Nat.pow_succ', ← Nat.div_div_eq_div_mul]
      exact h3
    · have h1 : gN L (d + 1) ≤ v := by rw [gN_top2]; omega
      by_cases h2 : v < topN L (d + 1)
      · obtain ⟨t, h3, h4, h5⟩ := code_ex (by omega) h1 h2
        refine .inl ⟨t, h3, by omega, ?_⟩
        rw [h4, Nat.sub_self, Nat.pow_zero, Nat.div_one, h5]
      · exact .inr (by omega)
/-- The places that are no code's and not below one hold a longer code, where the tree has no gap. -/
theorem own_ex {L : List Nat} (hk : kS L 15 = 32768) : ∀ (k d v : Nat), d + k = 15 → gN L d ≤ v → v < 2 ^ d → ∃ t, Used L t ∧ d ≤ L.getD t 0 ∧ codeG L t / 2 ^ (L.getD t 0 - d) = v
  | 0, d, v, hd, h1, h2 => by
    have : d = 15 := by omega
    subst this
    have h3 := top15 hk
    obtain ⟨t, h4, h5, h6⟩ := code_ex (L := L) (n := 15) (v := v) (by decide) h1 (by rw [h3]; exact h2)
    exact ⟨t, h4, by omega, by rw [h5, Nat.sub_self, Nat.pow_zero, Nat.div_one, h6]⟩
  | k + 1, d, v, hd, h1, h2 => by
    by_cases h3 : v < topN L d
    · have hd0 : d ≠ 0 := by
        rintro rfl
        simp [topN, gN] at h3
      obtain ⟨t, h4, h5, h6⟩ := code_ex hd0 h1 h3
      exact ⟨t, h4, by omega, by rw [h5, Nat.sub_self, Nat.pow_zero, Nat.div_one, h6]⟩
    · obtain ⟨t, h4, h5, h6⟩ := own_ex hk k (d + 1) (2 * v) (by omega) (by rw [gN_top2]; omega) (by rw [Nat.pow_succ]; omega)
      refine ⟨t, h4, by omega, ?_⟩
      rw [show L.getD t 0 - d = L.getD t 0 - (d + 1) + 1 by omega, Nat.pow_succ, ← Nat.div_div_eq_div_mul, h6]
      omega

/-- How many symbols' codes begin so. -/
def ownB (L : List Nat) (d v t : Nat) : Bool := decide (L.getD t 0 ≠ 0 ∧ d ≤ L.getD t 0 ∧ codeG L t / 2 ^ (L.getD t 0 - d) = v)
def own (L : List Nat) (d v : Nat) : Nat := (List.range L.length).countP (ownB L d v)
theorem countP_two {α : Type} (p q r : α → Bool) (h : ∀ t, (if p t then 1 else 0) = (if q t then 1 else 0) + (if r t then 1 else 0)) : ∀ l : List α, l.countP p = l.countP q + l.countP r
  | [] => rfl
  | a :: l => by
    rw [List.countP_cons, List.countP_cons, List.countP_cons, countP_two p q r h l]
    have := h a
    omega
theorem own_split {L : List Nat} {d v : Nat} (h : topN L d ≤ v) : own L d v = own L (d + 1) (2 * v) + own L (d + 1) (2 * v + 1) := by
  unfold own
  have key : ∀ l : List Nat, (∀ t ∈ l, t < L.length) → l.countP (ownB L d v) = l.countP (ownB L (d + 1) (2 * v)) + l.countP (ownB L (d + 1) (2 * v + 1)) := by
    intro l
    induction l with
    | nil => intro _; rfl
    | cons t l ih =>
      intro hl
      rw [List.countP_cons, List.countP_cons, List.countP_cons, ih (fun x hx => hl x (by simp [hx]))]
      have ht : t < L.length := hl t (by simp)
      have e : (if ownB L d v t then 1 else 0) = (if ownB L (d + 1) (2 * v) t then 1 else 0) + (if ownB L (d + 1) (2 * v + 1) t then 1 else 0) := by
        unfold ownB
        have hu : L.getD t 0 ≠ 0 → codeG L t < topN L (L.getD t 0) := fun h => code_lt_top ⟨ht, h⟩
        generalize L.getD t 0 = n at hu ⊢
        generalize codeG L t = c at hu ⊢
        by_cases h0 : n = 0
        · simp [h0]
        · by_cases h1 : d ≤ n
          · by_cases h2 : d = n
            · have h3 := hu h0
              rw [← h2] at h3
              have h4 : ¬ c = v := by omega
              have h5 : ¬ d + 1 ≤ d := by omega
              simp [← h2, h4, h5]
            · have h3 : d + 1 ≤ n := by omega
              have h4 : c / 2 ^ (n - d) = c / 2 ^ (n - (d + 1)) / 2 := by
                rw [Nat.div_div_eq_div_mul, ← Nat.pow_succ, show (n - (d + 1)).succ = n - d by omega]
              rw [h4]
              generalize c / 2 ^ (n - (d + 1)) = y
              by_cases h5 : y / 2 = v
              · rcases (by omega : y = 2 * v ∨ y = 2 * v + 1) with h6 | h6
                · have h7 : ¬ y = 2 * v + 1 := by omega
                  rw [if_pos (by simp [h0, h1, h5]), if_pos (by simp [h0, h3, h6]), if_neg (by simp [h0, h3, h7])]
                · have h7 : ¬ y = 2 * v := by omega
                  rw [if_pos (by simp [h0, h1, h5]), if_neg (by simp [h0, h3, h7]), if_pos (by simp [h0, h3, h6])]
              · have h6 : ¬ y = 2 * v := by omega
                have h7 : ¬ y = 2 * v + 1 := by omega
                rw [if_neg (by simp [h0, h1, h5]), if_neg (by simp [h0, h3, h6]), if_neg (by simp [h0, h3, h7])]
          · have h2 : ¬ d + 1 ≤ n := by omega
            rw [if_neg (by simp [h0, h1]), if_neg (by simp [h0, h2]), if_neg (by simp [h0, h2])]
      omega
  exact key _ (fun t ht => List.mem_range.1 ht)
theorem own_root {L : List Nat} (hL : ∀ x ∈ L, x ≤ 15) (hk : kS L 15 ≤ 32768) : own L 0 0 = nz L := by
  unfold own nz
  have e : L.countP (fun x => x != 0) = (List.range L.length).countP (fun t => L.getD t 0 != 0) := by
    have h : L = (List.range L.length).map (fun t => L.getD t 0) := by
      apply List.ext_getElem
      · simp
      · intro i h1 h2
        simp [h1]
    have h2 := congrArg (List.countP (fun x => x != 0)) h
    rw [List.countP_map] at h2
    exact h2
  rw [e]
  apply List.countP_congr
  intro t ht
  have ht' := List.mem_range.1 ht
  unfold ownB
  have hu : L.getD t 0 ≠ 0 → codeG L t < 2 ^ L.getD t 0 := fun h => code_lt hL hk ⟨ht', h⟩
  generalize L.getD t 0 = n at hu ⊢
  generalize codeG L t = c at hu ⊢
  by_cases h0 : n = 0
  · simp [h0]
  · have h1 := hu h0
    simp only [decide_eq_true_eq]
    constructor
    · intro _; simpa using h0
    · intro _
      exact ⟨h0, Nat.zero_le _, by rw [Nat.sub_zero]; exact Nat.div_eq_of_lt h1⟩
theorem own_pos {L : List Nat} {d v t : Nat} (h : Used L t) (h1 : d ≤ L.getD t 0) (h2 : codeG L t / 2 ^ (L.getD t 0 - d) = v) : 1 ≤ own L d v := by
  unfold own
  have : 0 < (List.range L.length).countP (ownB L d v) := List.countP_pos_iff.2 ⟨t, List.mem_range.2 h.lt, by unfold ownB; exact decide_eq_true ⟨h.ne, h1, h2⟩⟩
  omega
theorem own_one {L : List Nat} (hk : kS L 15 = 32768) {d v : Nat} (hd : d ≤ 15) (h1 : gN L d ≤ v) (h2 : v < 2 ^ d) : 1 ≤ own L d v := by
  obtain ⟨t, h3, h4, h5⟩ := own_ex hk (15 - d) d v (by omega) h1 h2
  exact own_pos h3 h4 h5
theorem own_two {L : List Nat} (hk : kS L 15 = 32768) {d v : Nat} (hd : d < 15) (h1 : topN L d ≤ v) (h2 : v < 2 ^ d) : 2 ≤ own L d v := by
  rw [own_split h1]
  have h3 : gN L (d + 1) ≤ 2 * v := by rw [gN_top2]; omega
  have h4 := own_one hk (d := d + 1) (v := 2 * v) (by omega) h3 (by rw [Nat.pow_succ]; omega)
  have h5 := own_one hk (d := d + 1) (v := 2 * v + 1) (by omega) (by omega) (by rw [Nat.pow_succ]; omega)
  omega

/-- A node: where it stands (so many bits from the root, and which), what the program keeps of its children, and its symbol. -/
structure Nd where
  d : Nat
  v : Nat
  ch : Int
  sym : Nat
def sumN (f : Nd → Nat) (ns : List Nd) : Nat := (ns.map f).sum
theorem sumN_append (f : Nd → Nat) (a b : List Nd) : sumN f (a ++ b) = sumN f a + sumN f b := by simp [sumN]
theorem sumN_set (f : Nd → Nat) (nd' : Nd) : ∀ (ns : List Nd) (i : Nat) (nd : Nd), ns[i]? = some nd → sumN f (ns.set i nd') + f nd = sumN f ns + f nd'
  | [], i, nd, h => by simp at h
  | a :: l, 0, nd, h => by
    simp at h
    subst h
    simp [sumN]
    omega
  | a :: l, i + 1, nd, h => by
    simp at h
    have := sumN_set f nd' l i nd h
    simp [sumN] at this ⊢
    omega
theorem sumN_le {f g : Nd → Nat} : ∀ {ns : List Nd}, (∀ nd ∈ ns, f nd ≤ g nd) → sumN f ns ≤ sumN g ns
  | [], _ => by simp [sumN]
  | a :: l, h => by
    have h1 := h a (by simp)
    have h2 := sumN_le (ns := l) (fun nd hn => h nd (by simp [hn]))
    simp [sumN] at h2 ⊢
    omega
theorem sumN_congr {f g : Nd → Nat} {ns : List Nd} (h : ∀ nd ∈ ns, f nd = g nd) : sumN f ns = sumN g ns := by
  unfold sumN
  rw [List.map_congr_left h]
/-- Two sums of which one is at most the other, and which are alike, are alike at each place. -/
theorem sumN_tight {f g : Nd → Nat} : ∀ {ns : List Nd}, (∀ nd ∈ ns, f nd ≤ g nd) → sumN g ns ≤ sumN f ns → ∀ nd ∈ ns, f nd = g nd
  | [], _, _, nd, hn => by cases hn
  | a :: l, h, hs, nd, hn => by
    have h1 := h a (by simp)
    have h2 := sumN_le (ns := l) (fun nd hn => h nd (by simp [hn]))
    simp [sumN] at hs h2
    rcases List.mem_cons.1 hn with rfl | hn
    · omega
    · exact sumN_tight (fun x hx => h x (by simp [hx])) (by simp [sumN]; omega) nd hn
def fC (nd : Nd) : Nat := if nd.ch ≤ 0 then 1 else 0
def fO (L : List Nat) (nd : Nd) : Nat := if nd.ch ≤ 0 then own L nd.d nd.v else 0
def fW (nd : Nd) : Nat := if nd.ch ≤ 0 then 2 ^ (15 - nd.d) else 0
def fL (nd : Nd) : Nat := if nd.ch = -1 then 1 else 0
def fK (nd : Nd) : Nat := if nd.ch = -1 then 2 ^ (15 - nd.d) else 0

/-- A tree that holds the first k symbols. -/
structure Tree (L : List Nat) (k : Nat) (ns : List Nd) : Prop where
  root : ∃ nd, ns[0]? = some nd ∧ nd.d = 0 ∧ nd.v = 0
  good : ∀ nd ∈ ns, gN L nd.d ≤ nd.v ∧ nd.v < 2 ^ nd.d ∧ nd.d ≤ 15
  kind : ∀ nd ∈ ns, nd.ch = -1 ∨ nd.ch = 0 ∨ (0 < nd.ch ∧ nd.ch + 1 < ns.length)
  kids : ∀ nd ∈ ns, ∀ c : Nat, nd.ch = c → 0 < c → ∃ a b, ns[c]? = some a ∧ ns[c + 1]? = some b ∧ a.d = nd.d + 1 ∧ a.v = 2 * nd.v ∧ b.d = nd.d + 1 ∧ b.v = 2 * nd.v + 1
  inner : ∀ nd ∈ ns, 0 < nd.ch → topN L nd.d ≤ nd.v
  leaf : ∀ nd ∈ ns, nd.ch = -1 → nd.sym < k ∧ Used L nd.sym ∧ nd.d = L.getD nd.sym 0 ∧ nd.v = codeG L nd.sym
  size : ns.length + 1 = 2 * sumN fC ns
  ownS : sumN (fO L) ns = nz L
  wS : sumN fW ns = 32768
  leaves : sumN fL ns = nzT L k
  lw : sumN fK ns = kT L k
namespace Tree
variable {L : List Nat} {k : Nat} {ns : List Nd}
theorem start (hL : ∀ x ∈ L, x ≤ 15) (hk : kS L 15 ≤ 32768) : Tree L 0 [⟨0, 0, 0, 0⟩] where
  root := ⟨_, rfl, rfl, rfl⟩
  good := by intro nd h; rw [List.mem_singleton] at h; subst h; simp [gN]
  kind := by intro nd h; rw [List.mem_singleton] at h; subst h; exact .inr (.inl rfl)
  kids := by intro nd h c hc h0; rw [List.mem_singleton] at h; subst h; simp at hc; omega
  inner := by intro nd h hc; rw [List.mem_singleton] at h; subst h; simp at hc
  leaf := by intro nd h hc; rw [List.mem_singleton] at h; subst h; simp at hc
  size := by simp [sumN, fC]
  ownS := by simp [sumN, fO, own_root hL hk]
  wS := by simp [sumN, fW]
  leaves := by simp [sumN, fL, nzT]
  lw := by simp [sumN, fK, kT]
theorem skip (h : Tree L k ns) (hk : k < L.length) (h0 : L.getD k 0 = 0) : Tree L (k + 1) ns :=
  { h with
    leaf := fun nd hn hc => ⟨by have := (h.leaf nd hn hc).1; omega, (h.leaf nd hn hc).2⟩
    leaves := by rw [nzT_succ L k hk, if_pos h0, h.leaves]; rfl
    lw := by rw [kT_succ L k hk, h0, h.lw]; simp [wgt] }
/-- A node without children gets two. -/
def cut (ns : List Nd) (i : Nat) (nd : Nd) : List Nd := ns.set i ⟨nd.d, nd.v, ns.length, nd.sym⟩ ++ [⟨nd.d + 1, 2 * nd.v, 0, 0⟩, ⟨nd.d + 1, 2 * nd.v + 1, 0, 0⟩]
theorem cut_len (ns : List Nd) (i : Nat) (nd : Nd) : (cut ns i nd).length = ns.length + 2 := by simp [cut]
theorem cut_old {i : Nat} {nd : Nd} (j : Nat) (hj : j < ns.length) (hne : j ≠ i) : (cut ns i nd)[j]? = ns[j]? := by
  unfold cut
  rw [List.getElem?_append_left (by simpa using hj), List.getElem?_set_ne (by omega)]
theorem cut_at {i : Nat} {nd : Nd} (hi : i < ns.length) : (cut ns i nd)[i]? = some ⟨nd.d, nd.v, ns.length, nd.sym⟩ := by
  unfold cut
  rw [List.getElem?_append_left (by simpa using hi), List.getElem?_set_self hi]
theorem cut_a {i : Nat} {nd : Nd} : (cut ns i nd)[ns.length]? = some ⟨nd.d + 1, 2 * nd.v, 0, 0⟩ := by
  unfold cut
  rw [List.getElem?_append_right (by simp)]
  simp
theorem cut_b {i : Nat} {nd : Nd} : (cut ns i nd)[ns.length + 1]? = some ⟨nd.d + 1, 2 * nd.v + 1, 0, 0⟩ := by
  unfold cut
  rw [List.getElem?_append_right (by simp)]
  simp
/-- Labels stay. -/
theorem cut_label {i : Nat} {nd : Nd} (hi : ns[i]? = some nd) (j : Nat) (a : Nd) (ha : ns[j]? = some a) : ∃ b, (cut ns i nd)[j]? = some b ∧ b.d = a.d ∧ b.v = a.v := by
  have hj := (List.getElem?_eq_some_iff.1 ha).1
  by_cases e : j = i
  · subst e
    rw [hi] at ha
    cases ha
    exact ⟨_, cut_at hj, rfl, rfl⟩
  · exact ⟨a, by rw [cut_old j hj e]; exact ha, rfl, rfl⟩
theorem mem_cut {i : Nat} {nd x : Nd} (hx : x ∈ cut ns i nd) : x ∈ ns ∨ x = ⟨nd.d, nd.v, ns.length, nd.sym⟩ ∨ x = ⟨nd.d + 1, 2 * nd.v, 0, 0⟩ ∨ x = ⟨nd.d + 1, 2 * nd.v + 1, 0, 0⟩ := by
  unfold cut at hx
  rcases List.mem_append.1 hx with h | h
  · rcases List.mem_or_eq_of_mem_set h with h | h
    · exact .inl h
    · exact .inr (.inl h)
  · simp at h
    rcases h with h | h
    · exact .inr (.inr (.inl h))
    · exact .inr (.inr (.inr h))
theorem split (h : Tree L k ns) {i : Nat} {nd : Nd} (hi : ns[i]? = some nd) (h0 : nd.ch = 0) (ht : topN L nd.d ≤ nd.v) (hd : nd.d < 15) : Tree L k (cut ns i nd) := by
  have hil := (List.getElem?_eq_some_iff.1 hi).1
  have hmem : nd ∈ ns := List.mem_of_getElem? hi
  obtain ⟨g1, g2, g3⟩ := h.good nd hmem
  have hsum : ∀ f : Nd → Nat, sumN f (cut ns i nd) + f nd = sumN f ns + f ⟨nd.d, nd.v, ns.length, nd.sym⟩ + f ⟨nd.d + 1, 2 * nd.v, 0, 0⟩ + f ⟨nd.d + 1, 2 * nd.v + 1, 0, 0⟩ := by
    intro f
    unfold cut
    rw [sumN_append]
    have := sumN_set f ⟨nd.d, nd.v, ns.length, nd.sym⟩ ns i nd hi
    have e : sumN f [⟨nd.d + 1, 2 * nd.v, 0, 0⟩, ⟨nd.d + 1, 2 * nd.v + 1, 0, 0⟩] = f ⟨nd.d + 1, 2 * nd.v, 0, 0⟩ + f ⟨nd.d + 1, 2 * nd.v + 1, 0, 0⟩ := by simp [sumN]
    omega
  have hn0 : ¬ ((ns.length : Int) ≤ 0) := by omega
  have hn1 : ¬ ((ns.length : Int) = -1) := by omega
  have h0' : nd.ch ≤ 0 := by omega
  have h1' : ¬ nd.ch = -1 := by omega
  refine ⟨?_, ?_, ?_, ?_, ?_, ?_, ?_, ?_, ?_, ?_, ?_⟩
  · obtain ⟨r, hr, hr1, hr2⟩ := h.root
    obtain ⟨b, hb, hb1, hb2⟩ := cut_label hi 0 r hr
    exact ⟨b, hb, by omega, by omega⟩
  · intro x hx
    rcases mem_cut hx with hx | rfl | rfl | rfl
    · exact h.good x hx
    · exact ⟨g1, g2, g3⟩
    · refine ⟨by show gN L (nd.d + 1) ≤ 2 * nd.v; rw [gN_top2]; omega, by show 2 * nd.v < 2 ^ (nd.d + 1); rw [Nat.pow_succ]; omega, by show nd.d + 1 ≤ 15; omega⟩
    · refine ⟨by show gN L (nd.d + 1) ≤ 2 * nd.v + 1; rw [gN_top2]; omega, by show 2 * nd.v + 1 < 2 ^ (nd.d + 1); rw [Nat.pow_succ]; omega, by show nd.d + 1 ≤ 15; omega⟩
  · intro x hx
    rw [cut_len]
    rcases mem_cut hx with hx | rfl | rfl | rfl
    · rcases h.kind x hx with h1 | h1 | ⟨h1, h2⟩
      · exact .inl h1
      · exact .inr (.inl h1)
      · exact .inr (.inr ⟨h1, by omega⟩)
    · exact .inr (.inr ⟨by show (0 : Int) < (ns.length : Int); omega, by show (ns.length : Int) + 1 < ((ns.length + 2 : Nat) : Int); omega⟩)
    · exact .inr (.inl rfl)
    · exact .inr (.inl rfl)
  · intro x hx c hc hc0
    rcases mem_cut hx with hx | rfl | rfl | rfl
    · obtain ⟨a, b, ha, hb, ha1, ha2, hb1, hb2⟩ := h.kids x hx c hc hc0
      obtain ⟨a', ha', h1, h2⟩ := cut_label hi _ a ha
      obtain ⟨b', hb', h3, h4⟩ := cut_label hi _ b hb
      exact ⟨a', b', ha', hb', by omega, by omega, by omega, by omega⟩
    · have : c = ns.length := by
        have hc' : (ns.length : Int) = (c : Int) := hc
        omega
      subst this
      exact ⟨_, _, cut_a, cut_b, rfl, rfl, rfl, rfl⟩
    · have hc' : (0 : Int) = (c : Int) := hc
      omega
    · have hc' : (0 : Int) = (c : Int) := hc
      omega
  · intro x hx hc
    rcases mem_cut hx with hx | rfl | rfl | rfl
    · exact h.inner x hx hc
    · exact ht
    · simp at hc
    · simp at hc
  · intro x hx hc
    rcases mem_cut hx with hx | rfl | rfl | rfl
    · exact h.leaf x hx hc
    · exact absurd hc hn1
    · simp at hc
    · simp at hc
  · rw [cut_len]
    have := hsum fC
    have e1 : fC nd = 1 := by unfold fC; rw [if_pos h0']
    have e2 : fC ⟨nd.d, nd.v, ns.length, nd.sym⟩ = 0 := by unfold fC; rw [if_neg hn0]
    have e3 : fC ⟨nd.d + 1, 2 * nd.v, 0, 0⟩ = 1 := by simp [fC]
    have e4 : fC ⟨nd.d + 1, 2 * nd.v + 1, 0, 0⟩ = 1 := by simp [fC]
    have := h.size
    omega
  · have := hsum (fO L)
    have e1 : fO L nd = own L nd.d nd.v := by unfold fO; rw [if_pos h0']
    have e2 : fO L ⟨nd.d, nd.v, ns.length, nd.sym⟩ = 0 := by unfold fO; rw [if_neg hn0]
    have e3 : fO L ⟨nd.d + 1, 2 * nd.v, 0, 0⟩ = own L (nd.d + 1) (2 * nd.v) := by simp [fO]
    have e4 : fO L ⟨nd.d + 1, 2 * nd.v + 1, 0, 0⟩ = own L (nd.d + 1) (2 * nd.v + 1) := by simp [fO]
    have := own_split ht
    have := h.ownS
    omega
  · have := hsum fW
    have e1 : fW nd = 2 ^ (15 - nd.d) := by unfold fW; rw [if_pos h0']
    have e2 : fW ⟨nd.d, nd.v, ns.length, nd.sym⟩ = 0 := by unfold fW; rw [if_neg hn0]
    have e3 : fW ⟨nd.d + 1, 2 * nd.v, 0, 0⟩ = 2 ^ (15 - (nd.d + 1)) := by simp [fW]
    have e4 : fW ⟨nd.d + 1, 2 * nd.v + 1, 0, 0⟩ = 2 ^ (15 - (nd.d + 1)) := by simp [fW]
    have e5 : 2 ^ (15 - nd.d) = 2 * 2 ^ (15 - (nd.d + 1)) := by
      rw [← Nat.pow_succ']
      congr 1
      omega
    have := h.wS
    omega
  · have := hsum fL
    have e1 : fL nd = 0 := by unfold fL; rw [if_neg h1']
    have e2 : fL ⟨nd.d, nd.v, ns.length, nd.sym⟩ = 0 := by unfold fL; rw [if_neg hn1]
    have e3 : fL ⟨nd.d + 1, 2 * nd.v, 0, 0⟩ = 0 := by simp [fL]
    have e4 : fL ⟨nd.d + 1, 2 * nd.v + 1, 0, 0⟩ = 0 := by simp [fL]
    have := h.leaves
    omega
  · have := hsum fK
    have e1 : fK nd = 0 := by unfold fK; rw [if_neg h1']
    have e2 : fK ⟨nd.d, nd.v, ns.length, nd.sym⟩ = 0 := by unfold fK; rw [if_neg hn1]
    have e3 : fK ⟨nd.d + 1, 2 * nd.v, 0, 0⟩ = 0 := by simp [fK]
    have e4 : fK ⟨nd.d + 1, 2 * nd.v + 1, 0, 0⟩ = 0 := by simp [fK]
    have := h.lw
    omega
/-- A node without children becomes a leaf. -/
def grow (ns : List Nd) (i : Nat) (nd : Nd) (s : Nat) : List Nd := ns.set i ⟨nd.d, nd.v, -1, s⟩
theorem grow_len (ns : List Nd) (i : Nat) (nd : Nd) (s : Nat) : (grow ns i nd s).length = ns.length := by simp [grow]
theorem grow_label {i s : Nat} {nd : Nd} (hi : ns[i]? = some nd) (j : Nat) (a : Nd) (ha : ns[j]? = some a) : ∃ b, (grow ns i nd s)[j]? = some b ∧ b.d = a.d ∧ b.v = a.v := by
  have hj := (List.getElem?_eq_some_iff.1 ha).1
  unfold grow
  by_cases e : j = i
  · subst e
    rw [hi] at ha
    cases ha
    exact ⟨_, List.getElem?_set_self hj, rfl, rfl⟩
  · exact ⟨a, by rw [List.getElem?_set_ne (by omega)]; exact ha, rfl, rfl⟩
theorem mem_grow {i s : Nat} {nd x : Nd} (hx : x ∈ grow ns i nd s) : x ∈ ns ∨ x = ⟨nd.d, nd.v, -1, s⟩ := List.mem_or_eq_of_mem_set hx
theorem settle (h : Tree L k ns) (hk : Used L k) {i : Nat} {nd : Nd} (hi : ns[i]? = some nd) (h0 : nd.ch = 0) (hd : nd.d = L.getD k 0) (hv : nd.v = codeG L k) : Tree L (k + 1) (grow ns i nd k) := by
  have hil := (List.getElem?_eq_some_iff.1 hi).1
  have hmem : nd ∈ ns := List.mem_of_getElem? hi
  have hsum : ∀ f : Nd → Nat, sumN f (grow ns i nd k) + f nd = sumN f ns + f ⟨nd.d, nd.v, -1, k⟩ := fun f => sumN_set f _ ns i nd hi
  have h0' : nd.ch ≤ 0 := by omega
  have h1' : ¬ nd.ch = -1 := by omega
  refine ⟨?_, ?_, ?_, ?_, ?_, ?_, ?_, ?_, ?_, ?_, ?_⟩
  · obtain ⟨r, hr, hr1, hr2⟩ := h.root
    obtain ⟨b, hb, hb1, hb2⟩ := grow_label (s := k) hi 0 r hr
    exact ⟨b, hb, by omega, by omega⟩
  · intro x hx
    rcases mem_grow hx with hx | rfl
    · exact h.good x hx
    · exact h.good nd hmem
  · intro x hx
    rw [grow_len]
    rcases mem_grow hx with hx | rfl
    · exact h.kind x hx
    · exact .inl rfl
  · intro x hx c hc hc0
    rcases mem_grow hx with hx | rfl
    · obtain ⟨a, b, ha, hb, ha1, ha2, hb1, hb2⟩ := h.kids x hx c hc hc0
      obtain ⟨a', ha', h1, h2⟩ := grow_label (s := k) hi _ a ha
      obtain ⟨b', hb', h3, h4⟩ := grow_label (s := k) hi _ b hb
      exact ⟨a', b', ha', hb', by omega, by omega, by omega, by omega⟩
    · have hc' : (-1 : Int) = (c : Int) := hc
      omega
  · intro x hx hc
    rcases mem_grow hx with hx | rfl
    · exact h.inner x hx hc
    · simp at hc
  · intro x hx hc
    rcases mem_grow hx with hx | rfl
    · exact ⟨by have := (h.leaf x hx hc).1; omega, (h.leaf x hx hc).2⟩
    · exact ⟨Nat.lt_succ_self _, hk, hd, hv⟩
  · rw [grow_len]
    have := hsum fC
    have e1 : fC nd = 1 := by unfold fC; rw [if_pos h0']
    have e2 : fC ⟨nd.d, nd.v, -1, k⟩ = 1 := by simp [fC]
    have := h.size
    omega
  · have := hsum (fO L)
    have e1 : fO L nd = own L nd.d nd.v := by unfold fO; rw [if_pos h0']
    have e2 : fO L ⟨nd.d, nd.v, -1, k⟩ = own L nd.d nd.v := by simp [fO]
    have := h.ownS
    omega
  · have := hsum fW
    have e1 : fW nd = 2 ^ (15 - nd.d) := by unfold fW; rw [if_pos h0']
    have e2 : fW ⟨nd.d, nd.v, -1, k⟩ = 2 ^ (15 - nd.d) := by simp [fW]
    have := h.wS
    omega
  · have := hsum fL
    have e1 : fL nd = 0 := by unfold fL; rw [if_neg h1']
    have e2 : fL ⟨nd.d, nd.v, -1, k⟩ = 1 := by simp [fL]
    have := h.leaves
    rw [nzT_succ L k hk.lt, if_neg hk.ne]
    omega
  · have := hsum fK
    have e1 : fK nd = 0 := by unfold fK; rw [if_neg h1']
    have e2 : fK ⟨nd.d, nd.v, -1, k⟩ = 2 ^ (15 - nd.d) := by simp [fK]
    have := h.lw
    rw [kT_succ L k hk.lt]
    have e3 : wgt (L.getD k 0) = 2 ^ (15 - nd.d) := by unfold wgt; rw [if_neg hk.ne, hd]
    omega
/-- Where no gap is, there is room for what is cut. -/
theorem room (h : Tree L k ns) (hw : kS L 15 = 32768) {i : Nat} {nd : Nd} (hi : ns[i]? = some nd) (h0 : nd.ch = 0) (ht : topN L nd.d ≤ nd.v) (hd : nd.d < 15) : ns.length + 2 ≤ 2 * nz L - 1 := by
  have hmem : nd ∈ ns := List.mem_of_getElem? hi
  have h1 := (h.split hi h0 ht hd)
  have h2 : sumN fC (cut ns i nd) ≤ sumN (fO L) (cut ns i nd) := by
    refine sumN_le fun x hx => ?_
    unfold fC fO
    by_cases hc : x.ch ≤ 0
    · rw [if_pos hc, if_pos hc]
      obtain ⟨g1, g2, g3⟩ := h1.good x hx
      exact own_one hw g3 g1 g2
    · rw [if_neg hc, if_neg hc]
      exact Nat.le_refl _
  have h3 := h1.size
  rw [h1.ownS] at h2
  rw [cut_len] at h3
  omega
theorem sumL_le (h : Tree L k ns) : ∀ nd ∈ ns, fL nd ≤ fC nd := by
  intro nd hn
  unfold fL fC
  by_cases h1 : nd.ch = -1
  · rw [if_pos h1, if_pos (by omega)]
    exact Nat.le_refl _
  · rw [if_neg h1]
    exact Nat.zero_le _
/-- All nodes are leaves or have children, where there are not more nodes than asked. -/
theorem full (h : Tree L L.length ns) (hn : ns.length ≤ 2 * nz L - 1) (h1 : 1 ≤ nz L) : ∀ nd ∈ ns, nd.ch ≠ 0 := by
  have h2 := h.size
  have h3 := h.leaves
  rw [nzT_all] at h3
  have h4 := sumN_tight h.sumL_le (by omega)
  intro nd hm h0
  have h5 := h4 nd hm
  unfold fL fC at h5
  rw [if_neg (by omega), if_pos (by omega)] at h5
  cases h5
theorem kraft_full (h : Tree L L.length ns) (hn : ns.length ≤ 2 * nz L - 1) (h1 : 1 ≤ nz L) : kraft L = 32768 := by
  have h2 := h.full hn h1
  have h3 := h.lw
  rw [kT_all] at h3
  rw [← h3, ← h.wS]
  refine sumN_congr fun nd hm => ?_
  unfold fK fW
  rcases h.kind nd hm with hc | hc | ⟨hc, _⟩
  · rw [if_pos hc, if_pos (by omega)]
  · exact absurd hc (h2 nd hm)
  · rw [if_neg (by omega), if_neg (by omega)]
end Tree
end Go.Proofs.YtpiapfahcoopbaaDoor

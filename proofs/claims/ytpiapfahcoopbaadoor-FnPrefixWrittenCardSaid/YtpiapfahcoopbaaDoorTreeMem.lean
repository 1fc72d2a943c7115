/- The tree of a prefix code in memory. No walk. -/
import Derived.Test.YtpiapfahcoopbaaDoorHitPlain
import Derived.Test.YtpiapfahcoopbaaDoorPlain
import Derived.Test.YtpiapfahcoopbaaDoorRows
namespace Go.Proofs.YtpiapfahcoopbaaDoor
set_option linter.unusedSimpArgs false
set_option linter.unusedVariables false
open Go.RowKit Plain

theorem tset_eq (cs : Array Value) (i : Nat) (u : Value) (h : i < cs.size) : (cs.setIfInBounds i u)[i]? = some u := by simp [h]
theorem tset_ne (cs : Array Value) (i j : Nat) (u : Value) (h : i ≠ j) : (cs.setIfInBounds i u)[j]? = cs[j]? := by rw [Array.getElem?_setIfInBounds_ne h]
def symOf (ns : List Nd) (i : Nat) : Nat := ((ns[i]?).map Nd.sym).getD 0
def chOf (ns : List Nd) (i : Nat) : Int := ((ns[i]?).map Nd.ch).getD 0
theorem symOf_at {ns : List Nd} {i : Nat} {nd : Nd} (h : ns[i]? = some nd) : symOf ns i = nd.sym := by simp [symOf, h]
theorem chOf_at {ns : List Nd} {i : Nat} {nd : Nd} (h : ns[i]? = some nd) : chOf ns i = nd.ch := by simp [chOf, h]
theorem symOf_set {ns : List Nd} {i j : Nat} {nd : Nd} (h : ns[i]? = some nd) (b : Nd) : symOf (ns.set i b) j = if j = i then b.sym else symOf ns j := by
  have hi := (List.getElem?_eq_some_iff.1 h).1
  unfold symOf
  by_cases e : j = i
  · subst e; rw [if_pos rfl, List.getElem?_set_self hi]; rfl
  · rw [if_neg e, List.getElem?_set_ne (by omega)]
theorem chOf_set {ns : List Nd} {i j : Nat} {nd : Nd} (h : ns[i]? = some nd) (b : Nd) : chOf (ns.set i b) j = if j = i then b.ch else chOf ns j := by
  have hi := (List.getElem?_eq_some_iff.1 h).1
  unfold chOf
  by_cases e : j = i
  · subst e; rw [if_pos rfl, List.getElem?_set_self hi]; rfl
  · rw [if_neg e, List.getElem?_set_ne (by omega)]
theorem symOf_end (ns : List Nd) (a b : Nd) (ha : a.sym = 0) (hb : b.sym = 0) (j : Nat) : symOf (ns ++ [a, b]) j = symOf ns j := by
  unfold symOf
  rcases Nat.lt_or_ge j ns.length with h | h
  · rw [List.getElem?_append_left h]
  · rw [List.getElem?_append_right h, List.getElem?_eq_none h]
    rcases (by omega : j - ns.length = 0 ∨ j - ns.length = 1 ∨ 2 ≤ j - ns.length) with e | e | e
    · rw [e]; simp [ha]
    · rw [e]; simp [hb]
    · rw [List.getElem?_eq_none (by simp; omega)]
theorem chOf_end (ns : List Nd) (a b : Nd) (ha : a.ch = 0) (hb : b.ch = 0) (j : Nat) : chOf (ns ++ [a, b]) j = chOf ns j := by
  unfold chOf
  rcases Nat.lt_or_ge j ns.length with h | h
  · rw [List.getElem?_append_left h]
  · rw [List.getElem?_append_right h, List.getElem?_eq_none h]
    rcases (by omega : j - ns.length = 0 ∨ j - ns.length = 1 ∨ 2 ≤ j - ns.length) with e | e | e
    · rw [e]; simp [ha]
    · rw [e]; simp [hb]
    · rw [List.getElem?_eq_none (by simp; omega)]

/-- The tree in memory: its own block, and that of its nodes. -/
structure TreeM (w : World) (g nb cap : Nat) (ns : List Nd) (lt : Nat → Nat) : Prop where
  h : ∃ cs, Blk w g 82 cs ∧ cs.size = 129 ∧ cs[0]? = some (.slice (some ⟨nb, 0, none⟩) ns.length cap) ∧ ∀ x, x < 128 → cs[1 + x]? = some (.int .u32 (lt x))
  n : ∃ cs, Blk w nb 125 cs ∧ cs.size = cap * 2 ∧ ∀ i, i < cap → cs[i * 2]? = some (.int .u32 (symOf ns i)) ∧ cs[i * 2 + 1]? = some (.int .i32 (chOf ns i))
  ne : g ≠ nb
  le : ns.length ≤ cap
namespace TreeM
variable {w w' : World} {g nb cap : Nat} {ns ns' : List Nd} {lt : Nat → Nat}
theorem to (t : TreeM w g nb cap ns lt) (hh : w'.heap = w.heap) : TreeM w' g nb cap ns lt := by
  obtain ⟨⟨cs, h1, h2, h3, h4⟩, ⟨cn, n1, n2, n3⟩, h5, h6⟩ := t
  refine ⟨⟨cs, ?_, h2, h3, h4⟩, ⟨cn, ?_, n2, n3⟩, h5, h6⟩
  · unfold Blk at h1 ⊢; rw [hh]; exact h1
  · unfold Blk at n1 ⊢; rw [hh]; exact n1
theorem upd {S : List Nat} (t : TreeM w g nb cap ns lt) (u : Upd S w w') (h1 : g ∉ S) (h2 : nb ∉ S) : TreeM w' g nb cap ns lt := by
  obtain ⟨⟨cs, a1, a2⟩, ⟨cn, n1, n2⟩, h5, h6⟩ := t
  exact ⟨⟨cs, a1.upd u h1, a2⟩, ⟨cn, n1.upd u h2, n2⟩, h5, h6⟩
theorem lt_ (t : TreeM w g nb cap ns lt) : g < w.heap.size ∧ nb < w.heap.size := by
  obtain ⟨⟨cs, a1, a2⟩, ⟨cn, n1, n2⟩, h5, h6⟩ := t
  exact ⟨a1.lt, n1.lt⟩
theorem sl (t : TreeM w g nb cap ns lt) : w.cell? ⟨g, 0, none⟩ = some (.slice (some ⟨nb, 0, none⟩) ns.length cap) := by
  obtain ⟨⟨cs, a1, a2, a3, a4⟩, _⟩ := t
  exact (a1.cell 0).trans a3
theorem fsl (t : TreeM w g nb cap ns lt) (i : Nat) : w.frozen? ⟨g, i, none⟩ = false := by
  obtain ⟨⟨cs, a1, _⟩, _⟩ := t
  exact a1.frozen i
theorem fnd (t : TreeM w g nb cap ns lt) (i : Nat) : w.frozen? ⟨nb, i, none⟩ = false := by
  obtain ⟨_, ⟨cs, a1, _⟩, _⟩ := t
  exact a1.frozen i
theorem lut (t : TreeM w g nb cap ns lt) (x : Nat) (hx : x < 128) : w.cell? ⟨g, 1 + x, none⟩ = some (.int .u32 (lt x)) := by
  obtain ⟨⟨cs, a1, a2, a3, a4⟩, _⟩ := t
  exact (a1.cell _).trans (a4 x hx)
theorem sym (t : TreeM w g nb cap ns lt) {i : Nat} {nd : Nd} (h : ns[i]? = some nd) : w.cell? ⟨nb, i * 2, none⟩ = some (.int .u32 nd.sym) := by
  have hi := (List.getElem?_eq_some_iff.1 h).1
  obtain ⟨_, ⟨cs, a1, a2, a3⟩, _, a6⟩ := t
  have := (a3 i (by omega)).1
  rw [symOf_at h] at this
  exact (a1.cell _).trans this
theorem ch (t : TreeM w g nb cap ns lt) {i : Nat} {nd : Nd} (h : ns[i]? = some nd) : w.cell? ⟨nb, i * 2 + 1, none⟩ = some (.int .i32 nd.ch) := by
  have hi := (List.getElem?_eq_some_iff.1 h).1
  obtain ⟨_, ⟨cs, a1, a2, a3⟩, _, a6⟩ := t
  have := (a3 i (by omega)).2
  rw [chOf_at h] at this
  exact (a1.cell _).trans this
theorem setLut (t : TreeM w g nb cap ns lt) (x : Nat) (hx : x < 128) (v : Nat) : TreeM (w.setCell ⟨g, 1 + x, none⟩ (.int .u32 v)) g nb cap ns (fun y => if y = x then v else lt y) := by
  obtain ⟨⟨cs, a1, a2, a3, a4⟩, ⟨cn, n1, n2⟩, h5, h6⟩ := t
  refine ⟨⟨_, a1.set_ (1 + x) _, by rw [Array.size_setIfInBounds]; exact a2, by rw [tset_ne _ _ _ _ (by omega)]; exact a3, fun y hy => ?_⟩, ⟨cn, n1.far (fun e => h5 e.symm) _, n2⟩, h5, h6⟩
  by_cases e : y = x
  · subst e
    rw [tset_eq _ _ _ (by omega), if_pos rfl]
  · rw [tset_ne _ _ _ _ (by omega), if_neg e]
    exact a4 y hy
theorem setCh (t : TreeM w g nb cap ns lt) {i : Nat} {nd : Nd} (h : ns[i]? = some nd) (b : Nd) (hb : b.sym = nd.sym) : TreeM (w.setCell ⟨nb, i * 2 + 1, none⟩ (.int .i32 b.ch)) g nb cap (ns.set i b) lt := by
  have hi := (List.getElem?_eq_some_iff.1 h).1
  obtain ⟨⟨cs, a1, a2, a3, a4⟩, ⟨cn, n1, n2, n3⟩, h5, h6⟩ := t
  refine ⟨⟨cs, a1.far h5 _, a2, by rw [List.length_set]; exact a3, a4⟩, ⟨_, n1.set_ _ _, by rw [Array.size_setIfInBounds]; exact n2, fun j hj => ⟨?_, ?_⟩⟩, h5, by rw [List.length_set]; exact h6⟩
  · rw [tset_ne _ _ _ _ (by omega), symOf_set h]
    by_cases e : j = i
    · subst e
      rw [if_pos rfl, hb, ← symOf_at h]
      exact (n3 j hj).1
    · rw [if_neg e]
      exact (n3 j hj).1
  · rw [chOf_set h]
    by_cases e : j = i
    · subst e
      rw [if_pos rfl, tset_eq _ _ _ (by omega)]
    · rw [if_neg e, tset_ne _ _ _ _ (by omega)]
      exact (n3 j hj).2
theorem setSym (t : TreeM w g nb cap ns lt) {i : Nat} {nd : Nd} (h : ns[i]? = some nd) (b : Nd) (hb : b.ch = nd.ch) : TreeM (w.setCell ⟨nb, i * 2, none⟩ (.int .u32 b.sym)) g nb cap (ns.set i b) lt := by
  have hi := (List.getElem?_eq_some_iff.1 h).1
  obtain ⟨⟨cs, a1, a2, a3, a4⟩, ⟨cn, n1, n2, n3⟩, h5, h6⟩ := t
  refine ⟨⟨cs, a1.far h5 _, a2, by rw [List.length_set]; exact a3, a4⟩, ⟨_, n1.set_ _ _, by rw [Array.size_setIfInBounds]; exact n2, fun j hj => ⟨?_, ?_⟩⟩, h5, by rw [List.length_set]; exact h6⟩
  · rw [symOf_set h]
    by_cases e : j = i
    · subst e
      rw [if_pos rfl, tset_eq _ _ _ (by omega)]
    · rw [if_neg e, tset_ne _ _ _ _ (by omega)]
      exact (n3 j hj).1
  · rw [tset_ne _ _ _ _ (by omega), chOf_set h]
    by_cases e : j = i
    · subst e
      rw [if_pos rfl, hb, ← chOf_at h]
      exact (n3 j hj).2
    · rw [if_neg e]
      exact (n3 j hj).2
/-- Two nodes more: the slice is longer. -/
theorem more (t : TreeM w g nb cap ns lt) (a b : Nd) (ha : a.ch = 0 ∧ a.sym = 0) (hb : b.ch = 0 ∧ b.sym = 0) (hl : ns.length + 2 ≤ cap) : TreeM (w.setCell ⟨g, 0, none⟩ (.slice (some ⟨nb, 0, none⟩) (ns.length + 2) cap)) g nb cap (ns ++ [a, b]) lt := by
  obtain ⟨⟨cs, a1, a2, a3, a4⟩, ⟨cn, n1, n2, n3⟩, h5, h6⟩ := t
  refine ⟨⟨_, a1.set_ 0 _, by rw [Array.size_setIfInBounds]; exact a2, by rw [tset_eq _ _ _ (by omega)]; simp, fun y hy => by rw [tset_ne _ _ _ _ (by omega)]; exact a4 y hy⟩, ⟨cn, n1.far (fun e => h5 e.symm) _, n2, fun j hj => ?_⟩, h5, by simp; exact hl⟩
  rw [symOf_end _ _ _ ha.2 hb.2, chOf_end _ _ _ ha.1 hb.1]
  exact n3 j hj
/-- A node gets two children. -/
theorem cut (t : TreeM w g nb cap ns lt) {i : Nat} {nd : Nd} (h : ns[i]? = some nd) (hl : ns.length + 2 ≤ cap) : TreeM ((w.setCell ⟨nb, i * 2 + 1, none⟩ (.int .i32 (ns.length : Int))).setCell ⟨g, 0, none⟩ (.slice (some ⟨nb, 0, none⟩) (ns.length + 2) cap)) g nb cap (Tree.cut ns i nd) lt := by
  have h1 := t.setCh h ⟨nd.d, nd.v, ns.length, nd.sym⟩ rfl
  have h2 := h1.more ⟨nd.d + 1, 2 * nd.v, 0, 0⟩ ⟨nd.d + 1, 2 * nd.v + 1, 0, 0⟩ ⟨rfl, rfl⟩ ⟨rfl, rfl⟩ (by rw [List.length_set]; exact hl)
  rw [List.length_set] at h2
  exact h2
/-- A node becomes a leaf. -/
theorem grow (t : TreeM w g nb cap ns lt) {i : Nat} {nd : Nd} (h : ns[i]? = some nd) (k : Nat) : TreeM ((w.setCell ⟨nb, i * 2 + 1, none⟩ (.int .i32 (-1))).setCell ⟨nb, i * 2, none⟩ (.int .u32 k)) g nb cap (Tree.grow ns i nd k) lt := by
  have hi := (List.getElem?_eq_some_iff.1 h).1
  have h1 := t.setCh h ⟨nd.d, nd.v, -1, nd.sym⟩ rfl
  have h2 := h1.setSym (i := i) (nd := ⟨nd.d, nd.v, -1, nd.sym⟩) (by rw [List.getElem?_set_self hi]) ⟨nd.d, nd.v, -1, k⟩ rfl
  rw [List.set_set] at h2
  exact h2
end TreeM
/-- The look-up table while a symbol is put in. -/
def LutS (L : List Nat) (k d : Nat) (ns : List Nd) (lt : Nat → Nat) : Prop := if L.getD k 0 ≤ 7 ∨ 7 ≤ d then LutK L (k + 1) ns lt else LutK L k ns lt
theorem LutS.move {L : List Nat} {k d : Nat} {ns ns' : List Nd} {lt : Nat → Nat} (h : LutS L k d ns lt) (hm : ∀ (i : Nat) (nd : Nd), ns[i]? = some nd → ∃ b : Nd, ns'[i]? = some b ∧ b.d = nd.d ∧ b.v = nd.v) : LutS L k d ns' lt := by
  unfold LutS at h ⊢
  by_cases c : L.getD k 0 ≤ 7 ∨ 7 ≤ d
  · rw [if_pos c] at h ⊢; exact h.move hm
  · rw [if_neg c] at h ⊢; exact h.move hm
theorem LutS.same {L : List Nat} {k d : Nat} {ns : List Nd} {lt : Nat → Nat} (h : LutS L k d ns lt) (hd : d + 1 ≠ 7) : LutS L k (d + 1) ns lt := by
  unfold LutS at h ⊢
  by_cases c : L.getD k 0 ≤ 7 ∨ 7 ≤ d
  · rw [if_pos c] at h; rw [if_pos (by omega)]; exact h
  · rw [if_neg c] at h; rw [if_neg (by omega)]; exact h
theorem LutS.short {L : List Nat} {k d : Nat} {ns : List Nd} {lt : Nat → Nat} (h : LutS L k d ns lt) (hk : L.getD k 0 ≤ 7) (e : Nat) : LutS L k e ns lt := by
  unfold LutS at h ⊢
  rw [if_pos (.inl hk)] at h ⊢
  exact h
end Go.Proofs.YtpiapfahcoopbaaDoor

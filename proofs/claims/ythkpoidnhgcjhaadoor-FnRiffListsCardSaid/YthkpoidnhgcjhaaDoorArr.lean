/- Arrays of integers that came in, by value and as the elements of a slice: what is read of them. No program in sight. -/
import Derived.Test.YthkpoidnhgcjhaaDoorMem
import Derived.WideKeyPair
import Derived.Deep.Slices
namespace Go.Proofs.YthkpoidnhgcjhaaDoor
set_option linter.unusedSimpArgs false
set_option linter.unusedVariables false
open Go.RowKit Go.ChangeShapes Go.WideShapes Go.WideMaps

section
variable {H : Type} {enc : TypeId × Value → H} {P : Program} {t e : TypeId} {n : Nat} {q : IntKind} {W : World} {base : Nat} {sp : Nat → Bool} {held : Bool}

theorem mapM_arr (he : P.underlying e = some (.int q)) {m : Nat} {cs : List Value} : ∀ (L : List Nat) (xs : List (DataW H × List MemPlace)),
    L.mapM (fun i => DataW.trod enc P W base sp held m e ((cs.drop (i * 1)).take 1)) = some xs →
    ∃ zs : List Int, zs.length = L.length ∧ xs = zs.map (fun z => (.lit (.int q z), [])) ∧ (∀ z ∈ zs, (Lit.int q z).wf = true) ∧ ∀ j, j < L.length → (cs.drop (L.getD j 0 * 1)).take 1 = [.int q (zs.getD j 0)]
  | [], xs, h => by
    simp at h
    subst h
    exact ⟨[], rfl, rfl, by simp, by simp⟩
  | i :: L, xs, h => by
    rw [List.mapM_cons] at h
    simp only [bind, Option.bind_eq_some_iff, pure, Option.some.injEq] at h
    obtain ⟨y, hy, ys, hys, rfl⟩ := h
    obtain ⟨zs, hl, rfl, hw, hc⟩ := mapM_arr he L ys hys
    obtain ⟨a, ea, rfl, wa⟩ := DataW.trod_int he hy
    refine ⟨a :: zs, by simp [hl], rfl, ?_, ?_⟩
    · intro z hz
      rcases List.mem_cons.1 hz with rfl | hz
      · exact wa
      · exact hw z hz
    · intro j hj
      cases j with
      | zero => exact ea
      | succ j => exact hc j (by simpa using hj)

theorem trod_arr (hu : P.underlying t = some (.array n e)) (he : P.underlying e = some (.int q)) (one : P.cellsOf e = 1) (size : P.cellsOf t = n) {fuel : Nat} {cs : List Value} {x : DataW H × List MemPlace}
    (hf : DataW.trod enc P W base sp held fuel t cs = some x) : ∃ zs : List Int, zs.length = n ∧ cs = zs.map (Value.int q) ∧ x.2 = [] ∧ ∀ z ∈ zs, (Lit.int q z).wf = true := by
  cases fuel with
  | zero => simp [DataW.trod] at hf
  | succ m =>
    rw [DataW.trod_step] at hf
    unfold DataW.trodStep at hf
    simp only [hu] at hf
    by_cases hcs : cs.length = n
    · rw [if_pos (by rw [size]; simpa using hcs)] at hf
      simp only [Option.map_eq_some_iff] at hf
      obtain ⟨xs, hx, e1⟩ := hf
      rw [one] at hx
      obtain ⟨zs, hl, rfl, hw, hc⟩ := mapM_arr he _ xs hx
      have hzn : zs.length = n := by simpa using hl
      refine ⟨zs, hzn, ?_, by rw [← e1]; simp [List.flatMap_eq_nil_iff], hw⟩
      apply List.ext_getElem (by simp [hcs, hzn])
      intro j h1 h2
      have h3 := hc j (by simpa using (show j < n by omega))
      have hjn : j < n := by omega
      rw [show (List.range n).getD j 0 = j by simp [hjn]] at h3
      have h4 := congrArg (fun l => l[0]?) h3
      simp [h1] at h4
      have hj : j < zs.length := by omega
      rw [h4]
      simp [hj]
    · rw [if_neg (by rw [size]; simpa using hcs)] at hf
      cases hf

/-- An array by value. -/
theorem open_arr_ints (hu : P.underlying t = some (.array n e)) (he : P.underlying e = some (.int q)) (one : P.cellsOf e = 1) (size : P.cellsOf t = n) {r : Reach} {b0 : Nat} {v : Value} {d : DataW H} {ps : List MemPlace}
    (hval : Value.okWide P W r b0 t v) (hd : DataW.Trod enc P W base sp held t v d ps) :
    ∃ zs : List Int, zs.length = n ∧ v = .agg (zs.map (Value.int q)).toArray ∧ ps = [] ∧ ∀ z ∈ zs, (Lit.int q z).wf = true := by
  simp only [Value.okWide, hu] at hval
  obtain ⟨cs, rfl, h2, _⟩ := hval
  obtain ⟨fuel, hf⟩ := hd
  obtain ⟨zs, h3, h4, h5, h6⟩ := trod_arr hu he one size hf
  refine ⟨zs, h3, ?_, h5, h6⟩
  congr 1
  apply Array.toList_inj.1
  simpa [Value.cells] using h4

/-- A slice of arrays, as one list. -/
theorem open_arr_rows {ts : TypeId} (hs : P.underlying ts = some (.slice t)) (hu : P.underlying t = some (.array n e)) (he : P.underlying e = some (.int q)) (one : P.cellsOf e = 1) (size : P.cellsOf t = n)
    {fuel : Nat} {A : Option Addr} {len cap : Nat} {x : DataW H × List MemPlace} (h : DataW.trod enc P W base (fun _ => true) held fuel ts [.slice A len cap] = some x) :
    ∃ zs : List Int, zs.length = len * n ∧ Rd q W W.heap.size A zs ∧ (∀ z ∈ zs, (Lit.int q z).wf = true) ∧ len ≤ 9223372036854775807 := by
  rcases Deep.open_slice hs h with ⟨h0, _⟩ | ⟨a, len', cap', m, n', D, Pl, h0, hb, hl, hm, hmm, _, hx⟩
  · simp at h0
    obtain ⟨rfl, rfl, rfl⟩ := h0
    exact ⟨[], by simp, Rd.nil, by simp, by omega⟩
  · simp at h0
    obtain ⟨rfl, rfl, rfl⟩ := h0
    simp only [if_true] at hmm
    subst hmm
    rw [size] at hx
    have key : ∀ i, i < len → ∃ zs : List Int, zs.length = n ∧ (∀ j, j < n → W.cell? (a.add (i * n + j)) = some (.int q (zs.getD j 0))) ∧ ∀ z ∈ zs, (Lit.int q z).wf = true := by
      intro i hi
      obtain ⟨cs, h1, h2⟩ := hx i (by omega)
      obtain ⟨zs, h3, rfl, _, h5⟩ := trod_arr hu he one size h2
      refine ⟨zs, h3, ?_, h5⟩
      intro j hj
      have h6 := (World.cells?_some h1).2.2 j (by omega)
      rw [Deep.add_add] at h6
      rw [h6]
      have hj2 : j < zs.length := by omega
      simp [hj2]
    have all : ∀ k, k ≤ len → ∃ zs : List Int, zs.length = k * n ∧ (∀ j, j < k * n → W.cell? (a.add j) = some (.int q (zs.getD j 0))) ∧ ∀ z ∈ zs, (Lit.int q z).wf = true := by
      intro k
      induction k with
      | zero => intro _; exact ⟨[], by simp, by simp, by simp⟩
      | succ k ih =>
        intro hk
        obtain ⟨zs, h1, h2, h3⟩ := ih (by omega)
        obtain ⟨ys, g1, g2, g3⟩ := key k (by omega)
        refine ⟨zs ++ ys, by simp [h1, g1, Nat.add_mul], ?_, ?_⟩
        · intro j hj
          rw [Nat.add_mul, Nat.one_mul] at hj
          by_cases hjk : j < k * n
          · rw [h2 j hjk]
            have : j < zs.length := by omega
            simp [List.getElem?_append_left this]
          · have := g2 (j - k * n) (by omega)
            rw [show k * n + (j - k * n) = j by omega] at this
            rw [this]
            have : zs.length ≤ j := by omega
            simp [List.getElem?_append_right this, h1]
        · intro z hz
          rcases List.mem_append.1 hz with hz | hz
          · exact h3 z hz
          · exact g3 z hz
    obtain ⟨zs, h1, h2, h3⟩ := all len (Nat.le_refl _)
    refine ⟨zs, h1, ?_, h3, by unfold maxLen at hm; omega⟩
    intro hne
    have hpos : 0 < zs.length := List.length_pos_iff.2 hne
    obtain ⟨b, off, spot⟩ := a
    have hc0 := h2 0 (by omega)
    have hspot : spot = none := by simpa [Addr.add] using World.cell?_spot hc0
    subst hspot
    refine ⟨b, off, rfl, World.block_lt_of_cell? _ _ hc0, fun j hj => ?_⟩
    have hcj := h2 j (by omega)
    rw [Addr.add_lit] at hcj
    exact hcj
end
end Go.Proofs.YthkpoidnhgcjhaaDoor

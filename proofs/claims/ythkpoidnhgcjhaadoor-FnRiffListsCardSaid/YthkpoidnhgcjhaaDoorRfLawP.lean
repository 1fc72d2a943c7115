/- The laws of chunks: words, plain. -/
import Derived.Test.YthkpoidnhgcjhaaDoorRfFile
import Derived.Test.YthkpoidnhgcjhaaDoorRfWritten
namespace Go.Proofs.YthkpoidnhgcjhaaDoor
set_option linter.unusedSimpArgs false
set_option linter.unusedVariables false
open Go.RowKit Plain

/-- 'append' of some elements of several cells: their box has just been laid. -/
theorem wpList_pushK {P : Program} {w : World} {ops : Array Oper} {rest : List Oper} {o : Oper} {a : Act} {Q : Exit → Act → World → Prop} (hgd : o.guard = none) (s x : Operand) (t : TypeId)
    (ho : o.op = .call { callee := .builtin .append, args := #[s, x], argTypes := #[t, t] })
    (base : Nat) (e : TypeId) (z : Value) (size bytes : Nat) (ht : P.underlying t = some (.slice e)) (hi : (P.info? e).map (fun i => (i.zero, i.size, i.bytes)) = some (some z, size, bytes)) (hzs : z.cells.size = size) (hsz : 0 < size)
    (v : Value) (n m : Nat) (xs : List Value) (hs : a.eval s = v) (hown : w.ownsRow base e size v n xs) (cs : Array Value) (hcs : cs.size = m * size) (hu : ∀ u ∈ cs.toList, u.oneCell' = true)
    (hx : a.eval x = .slice (some ⟨w.heap.size, 0, none⟩) m m) (h63 : n + m ≤ maxLen) (hbytes : (n + m) * bytes ≤ 140737488355328) (hbase : base ≤ w.heap.size)
    (h : ∀ v' w', w'.ownsRow base e size v' (n + m) (xs ++ cs.toList) → w.grownBy w' v.ownBlock → wpList P ops Q rest (a.put o.dst v') w') : wpList P ops Q (o :: rest) a (w.alloc (.cells cs e)) := by
  obtain ⟨i, hi, hz, h1, h2⟩ := info_parts hi
  refine wpList_append_own (w.alloc (.cells cs e)) hgd s x t ho base e i z size bytes ht hi hz h1 h2 hzs hsz v n xs hs (hown.alloc _) ⟨w.heap.size, 0, none⟩ m m cs.toList hx (by simp [hcs]) ?_ hu h63 hbytes (by simp; omega) ?_
  · intro j y hy
    rw [Addr.add_lit, Nat.zero_add, World.cell?_alloc_new]
    simpa using hy
  · intro v' w' h1 h2 _
    refine h v' w' h1 ⟨h2.os, h2.tape, h2.output, Nat.le_trans (by simp) h2.size, fun k hk hne => ?_⟩
    rw [h2.block k (by simp; omega) hne]
    exact Below.heap_alloc w _ k hk
theorem info_step : (Tryd.prog.info? 35).map (fun i => (i.zero, i.size, i.bytes)) = some (some (Value.agg #[.int .i64 0, .int .i64 0]), 2, 16) := by kernel_rfl
theorem chunk_by {id b : List Nat} (hi : ∀ x ∈ id, x ≤ 255) (hb : ∀ x ∈ b, x ≤ 255) : ∀ x ∈ chunkP id b, x ≤ 255 := fun x hx => by
  unfold chunkP at hx
  rcases List.mem_append.1 hx with h | hx
  · exact hi x h
  rcases List.mem_append.1 hx with h | hx
  · simp only [lowP, List.mem_cons, List.not_mem_nil, or_false] at h
    omega
  rcases List.mem_append.1 hx with h | h
  · exact hb x h
  · unfold padP at h
    split at h
    · simp only [List.mem_singleton] at h; omega
    · simp at h
theorem idAt_by {ids : List Nat} (h : ∀ x ∈ ids, x ≤ 255) (j : Nat) : ∀ x ∈ idAt ids j, x ≤ 255 := fun x hx => by
  have hg : ∀ i, ids.getD i 0 ≤ 255 := fun i => by
    rcases Nat.lt_or_ge i ids.length with hi | hi
    · have : ids.getD i 0 = ids[i] := by simp [hi]
      rw [this]; exact h _ (List.getElem_mem hi)
    · simp [hi]
  simp only [idAt, List.mem_cons, List.not_mem_nil, or_false] at hx
  rcases hx with rfl | rfl | rfl | rfl <;> exact hg _
theorem body_by {ids : List Nat} {D : List (List Nat)} (h : ∀ x ∈ ids, x ≤ 255) (hD : ∀ d ∈ D, ∀ x ∈ d, x ≤ 255) (n : Nat) : ∀ x ∈ bodyP ids D n, x ≤ 255 := fun x hx => by
  obtain ⟨j, _, hj⟩ := List.mem_flatMap.1 hx
  refine chunk_by (idAt_by h j) (fun y hy => ?_) x hj
  rcases Nat.lt_or_ge j D.length with hj' | hj'
  · have e : D.getD j [] = D[j] := by simp [hj']
    rw [e] at hy
    exact hD _ (List.getElem_mem hj') y hy
  · have e : D.getD j [] = [] := by simp [hj']
    rw [e] at hy; simp at hy
theorem file_by {form body : List Nat} (hf : ∀ x ∈ form, x ≤ 255) (hb : ∀ x ∈ body, x ≤ 255) : ∀ x ∈ fileP form body, x ≤ 255 :=
  chunk_by (by decide) (fun x hx => (List.mem_append.1 hx).elim (hf x) (hb x))
/-- The chunks, each with how much is asked. -/
def csP (ids : List Nat) (D : List (List Nat)) (N : Nat → Nat) (m : Nat) : List (List Nat × List Nat × Nat) := (List.range m).map fun j => (idAt ids j, D.getD j [], N j)
theorem cs_enc (ids : List Nat) (D : List (List Nat)) (N : Nat → Nat) (m : Nat) : encP (csP ids D N m) = bodyP ids D m := by simp [encP, csP, bodyP, List.flatMap_map]
theorem cs_len (ids : List Nat) (D : List (List Nat)) (N : Nat → Nat) (m : Nat) : (csP ids D N m).length = m := by simp [csP]
theorem cs_ok (ids : List Nat) (D : List (List Nat)) (N : Nat → Nat) (m : Nat) (hN : ∀ j, 1 ≤ N j) : ∀ x ∈ csP ids D N m, x.1.length = 4 ∧ 1 ≤ x.2.2 := fun x hx => by
  obtain ⟨j, _, rfl⟩ := List.mem_map.1 hx
  exact ⟨rfl, hN j⟩
theorem steps_succ (ids : List Nat) (D : List (List Nat)) (N : Nat → Nat) (m : Nat) : stepsP (csP ids D N (m + 1)) = stepsP (csP ids D N m) ++ [((0 : Int), (0 : Int)), (1, (N m : Int))] := by simp [stepsP, csP, List.range_succ]
theorem steps_len (ids : List Nat) (D : List (List Nat)) (N : Nat → Nat) (m : Nat) : (stepsP (csP ids D N m)).length = 2 * m := by
  induction m with
  | zero => rfl
  | succ m ih => rw [steps_succ, List.length_append, ih]; simp; omega
theorem told_want (ids : List Nat) (D : List (List Nat)) (m : Nat) : toldP (csP ids D (fun j => (D.getD j []).length + 1) m) = wantP ids D m := by
  unfold toldP csP wantP
  rw [List.map_map]
  apply List.map_congr_left
  intro j _
  simp only [Function.comp]
  rw [List.take_of_length_le (by omega), if_neg (by omega)]
theorem steps_by (ids : List Nat) (D : List (List Nat)) (N : Nat → Nat) (m : Nat) (hN : ∀ j, j < m → (N j : Int) ≤ 1073741824) : ∀ x ∈ stepsP (csP ids D N m), (-9223372036854775808 ≤ x.1 ∧ x.1 ≤ 9223372036854775807) ∧ -9223372036854775808 ≤ x.2 ∧ x.2 ≤ 9223372036854775807 := fun x hx => by
  obtain ⟨y, hy, hx⟩ := List.mem_flatMap.1 hx
  obtain ⟨j, hj, rfl⟩ := List.mem_map.1 hy
  have := hN j (List.mem_range.1 hj)
  simp only [List.mem_cons, List.not_mem_nil, or_false] at hx
  rcases hx with rfl | rfl
  · omega
  · simp only
    omega
theorem stepC_append (a b : List (Int × Int)) : stepC (a ++ b) = stepC a ++ stepC b := by simp [stepC]
end Go.Proofs.YthkpoidnhgcjhaaDoor

/- 'append' of a slice of numbers, nil let in. No program in sight. -/
import Derived.Test.YthkpoidnhgcjhaaDoorMem
import Derived.Deep.Upon
namespace Go.Proofs.YthkpoidnhgcjhaaDoor
set_option linter.unusedSimpArgs false
set_option linter.unusedVariables false
open Go.RowKit

theorem run_push_rd {P : Program} (w : World) {t e : TypeId} {k : IntKind} {bytes : Nat} (ty : TypeId) (ht : P.underlying t = some (.slice e)) (hi : (P.info? e).map (fun i => (i.zero, i.size, i.bytes)) = some (some (Value.int k 0), 1, bytes)) {base B : Nat} {v : Value} {n : Nat} {xs : List Value} (hown : w.ownsRow base e 1 v n xs)
    {A : Option Addr} {m c : Nat} {l : List Int} (hl : l.length = m) (hr : Rd k w B A l) (h63 : n + m ≤ maxLen) (hbytes : (n + m) * bytes ≤ 140737488355328) (hbase : base ≤ w.heap.size) :
    ∃ v' w', (Builtin.append_ #[t, t] ty #[v, .slice A m c]).run P w = .ok v' w' ∧ w'.ownsRow base e 1 v' (n + m) (xs ++ l.map (Value.int k)) ∧ w.grownBy w' v.ownBlock := by
  obtain ⟨i, hi, hz, h1, h2⟩ := info_parts hi
  by_cases hl0 : l = []
  · subst hl0
    simp only [List.length_nil] at hl
    subst hl
    have hs : Src P i.size t (.slice A 0 c) 0 [] w := by
      cases A with
      | none => exact Src.ofNil w ht c
      | some a => exact Src.ofSlice w ht a 0 c [] (by simp) (fun j u h => by simp at h) (fun u h => by simp at h)
    obtain ⟨ba, sc, hv, hle⟩ : ∃ ba sc, v = .slice ba n sc ∧ n ≤ sc := by
      rcases hown.2 with ⟨rfl, rfl⟩ | ⟨g, cap, cur, rfl, _, _, h1, _⟩
      · exact ⟨none, 0, rfl, Nat.le_refl _⟩
      · exact ⟨_, _, rfl, h1⟩
    subst hv
    exact ⟨_, w, run_append_nothing w t t ty e i ht hi ba n sc hle _ hs, by simpa using hown, ⟨rfl, rfl, rfl, Nat.le_refl _, fun _ _ _ => rfl⟩⟩
  · obtain ⟨b, off, rfl, _, hc⟩ := hr hl0
    obtain ⟨v', w', e1, e2, e3, _⟩ := run_append_own (P := P) w base t ty e i (.int k 0) 1 bytes ht hi hz h1 h2 rfl (by decide) v n xs hown ⟨b, off, none⟩ m c (l.map (Value.int k)) (by simp [hl]) (fun j u hu => by
      rw [Addr.add_lit]
      have hj : j < l.length := by
        rcases Nat.lt_or_ge j l.length with h | h
        · exact h
        · rw [List.getElem?_eq_none (by simpa using h)] at hu; cases hu
      rw [hc j hj]
      simp [hj] at hu
      simp [← hu, hj]) (fun u hu => by obtain ⟨x, _, rfl⟩ := List.mem_map.1 hu; rfl) h63 hbytes hbase
    exact ⟨v', w', e1, e2, e3⟩
theorem wpList_pushR {P : Program} {w : World} {ops : Array Oper} {rest : List Oper} {o : Oper} {a : Act} {Q : Exit → Act → World → Prop} (hgd : o.guard = none) (s x : Operand) (t : TypeId)
    (ho : o.op = .call { callee := .builtin .append, args := #[s, x], argTypes := #[t, t] })
    (base B : Nat) (e : TypeId) (k : IntKind) (bytes : Nat) (ht : P.underlying t = some (.slice e)) (hi : (P.info? e).map (fun i => (i.zero, i.size, i.bytes)) = some (some (Value.int k 0), 1, bytes))
    (v : Value) (n : Nat) (xs : List Value) (hs : a.eval s = v) (hown : w.ownsRow base e 1 v n xs) (A : Option Addr) (m c : Nat) (l : List Int) (hl : l.length = m) (hx : a.eval x = .slice A m c) (hr : Rd k w B A l) (h63 : n + m ≤ maxLen) (hbytes : (n + m) * bytes ≤ 140737488355328) (hbase : base ≤ w.heap.size)
    (h : ∀ v' w', w'.ownsRow base e 1 v' (n + m) (xs ++ l.map (Value.int k)) → w.grownBy w' v.ownBlock → wpList P ops Q rest (a.put o.dst v') w') : wpList P ops Q (o :: rest) a w := by
  obtain ⟨v', w', hr, h2, h3⟩ := run_push_rd (P := P) w o.type ht hi hown hl hr h63 hbytes hbase (c := c)
  refine wpList_plain hgd fun _ hK => ?_
  unfold Oper.wp execOp
  simp only [ho, resolve, invoke, builtin, Sem.run_bind, Sem.run_pure, Result.andThen_ok, List.map_toArray, List.map_cons, List.map_nil, hs, hx, hr]
  exact hK _ _ (h v' w' h2 h3)
theorem step_pushR {P : Program} {w : World} {ops : Array Oper} {o : Oper} {a : Act} {K : Act → World → Prop} {Q : Exit → Act → World → Prop} {E : Prop} (s x : Operand) (t : TypeId)
    (base B : Nat) (e : TypeId) (k : IntKind) (bytes : Nat) (ht : P.underlying t = some (.slice e)) (hi : (P.info? e).map (fun i => (i.zero, i.size, i.bytes)) = some (some (Value.int k 0), 1, bytes))
    (v : Value) (n : Nat) (xs : List Value) (A : Option Addr) (m c : Nat) (l : List Int) (hl : l.length = m) (h63 : n + m ≤ maxLen) (hbytes : (n + m) * bytes ≤ 140737488355328)
    (h : (o.guard = none ∧ o.op = .call { callee := .builtin .append, args := #[s, x], argTypes := #[t, t] } ∧ a.eval s = v ∧ w.ownsRow base e 1 v n xs ∧ a.eval x = .slice A m c ∧ Rd k w B A l ∧ base ≤ w.heap.size) ∧
      ∀ v' w', w'.ownsRow base e 1 v' (n + m) (xs ++ l.map (Value.int k)) → w.grownBy w' v.ownBlock → K (a.put o.dst v') w') :
    if Region.wanted o (yielded ops a.tmps) = true then Oper.wp P o a w K Q else E := by
  obtain ⟨⟨hgd, ho, hs, hown, hx, hr, hbase⟩, h8⟩ := h
  obtain ⟨v', w', hr, h2, h3⟩ := run_push_rd (P := P) w o.type ht hi hown hl hr h63 hbytes hbase (c := c)
  have hw : Region.wanted o (yielded ops a.tmps) = true := by simp [Region.wanted, hgd]
  rw [if_pos hw]
  unfold Oper.wp execOp
  simp only [ho, resolve, invoke, builtin, Sem.run_bind, Sem.run_pure, Result.andThen_ok, List.map_toArray, List.map_cons, List.map_nil, hs, hx, hr]
  exact h8 v' w' h2 h3
end Go.Proofs.YthkpoidnhgcjhaaDoor

/- Two slices of the call's own, each of which an element is appended to, in whichever order. No program in sight. -/
import Derived.Test.YtleiehiabcgalaaDoorMem
import Derived.Deep.RegionLaw
import Derived.RegionTactic
import Derived.Deep.AppendLies
namespace Go.Proofs.YtleiehiabcgalaaDoor
set_option linter.unusedSimpArgs false
set_option linter.unusedVariables false
open Go.RowKit

/-- Two rows of the call's own, apart. -/
structure Two (w0 W : World) (e : TypeId) (va vl : Value) (n m : Nat) (xa xl : List Value) : Prop where
  a : W.ownsRow w0.heap.size e 1 va n xa
  l : W.ownsRow w0.heap.size e 1 vl m xl
  ne : ∀ g, va.ownBlock = some g → vl.ownBlock ≠ some g
  bel : Below w0.heap.size w0 W
namespace Two
variable {w0 W W' : World} {e : TypeId} {va vl : Value} {n m : Nat} {xa xl : List Value}
theorem start (w : World) (e : TypeId) : Two w w e (.slice none 0 0) (.slice none 0 0) 0 0 [] [] := ⟨⟨rfl, .inl ⟨rfl, rfl⟩⟩, ⟨rfl, .inl ⟨rfl, rfl⟩⟩, fun g h => by simp [Value.ownBlock] at h, Below.refl _ _⟩
theorem swap (h : Two w0 W e va vl n m xa xl) : Two w0 W e vl va m n xl xa := ⟨h.l, h.a, fun g h1 h2 => h.ne g h2 h1, h.bel⟩
theorem alloc (h : Two w0 W e va vl n m xa xl) (o : Obj) : Two w0 (W.alloc o) e va vl n m xa xl := ⟨h.a.alloc _, h.l.alloc _, h.ne, h.bel.alloc h.bel.size _⟩
theorem drew (h : Two w0 W e va vl n m xa xl) : Two w0 W.drew e va vl n m xa xl := ⟨h.a, h.l, h.ne, h.bel.drew⟩
theorem drewN (h : Two w0 W e va vl n m xa xl) (k : Nat) : Two w0 (W.drewN k) e va vl n m xa xl := ⟨h.a, h.l, h.ne, ⟨h.bel.os, h.bel.tape, h.bel.output, h.bel.size, h.bel.block⟩⟩
theorem push (h : Two w0 W e va vl n m xa xl) {g cap : Nat} {ya : List Value} (ho : W'.ownsRow w0.heap.size e 1 (.slice (some ⟨g, 0, none⟩) (n + 1) cap) (n + 1) ya) (hg : W.grownBy W' va.ownBlock) (hat : va.ownBlock = some g ∨ g = W.heap.size) : Two w0 W' e (.slice (some ⟨g, 0, none⟩) (n + 1) cap) vl (n + 1) m ya xl := by
  refine ⟨ho, ?_, ?_, ?_⟩
  · refine Upd.own (S := (match va.ownBlock with | some g => [g] | none => [])) ⟨hg.os, hg.tape, hg.output, hg.size, fun k hk hs => hg.block k hk (fun he => hs (by rw [← he]; simp))⟩ h.l ?_
    intro g' hg' hm
    cases hv : va.ownBlock with
    | none => rw [hv] at hm; cases hm
    | some k =>
      rw [hv] at hm
      rw [List.mem_singleton] at hm
      subst hm
      exact h.ne _ hv hg'
  · intro k hk hl
    have hk' : g = k := by simpa [Value.ownBlock] using hk
    subst hk'
    rcases hat with hat | hat
    · exact h.ne _ hat hl
    · have := (h.l.lt _ hl).2
      omega
  · exact h.bel.grown hg h.bel.size (fun k hk => (h.a.lt k hk).1)
end Two

/-- 'append' of one element onto the first of two rows, in a region that draws its order: what is asked of the region's own world, as one. -/
theorem step_two {P : Program} {w : World} {ops : Array Oper} {o : Oper} {a : Act} {K : Act → World → Prop} {Q : Exit → Act → World → Prop} {E : Prop} (s x : Operand) (t : TypeId)
    (w0 : World) (e : TypeId) (z : Value) (bytes : Nat) (ht : P.underlying t = some (.slice e)) (hi : (P.info? e).map (fun i => (i.zero, i.size, i.bytes)) = some (some z, 1, bytes)) (hzs : z.cells.size = 1)
    (va vl : Value) (n m : Nat) (xa xl : List Value) (u : Value) (hu : u.oneCell' = true) (h63 : n + 1 ≤ maxLen) (hbytes : (n + 1) * bytes ≤ 140737488355328)
    (h : (o.guard = none ∧ o.op = .call { callee := .builtin .append, args := #[s, x], argTypes := #[t, t] } ∧ a.eval s = va ∧ Two w0 w e va vl n m xa xl ∧ ∃ b, a.eval x = .slice (some ⟨b, 0, none⟩) 1 1 ∧ w.cell? ⟨b, 0, none⟩ = some u) ∧
      ∀ va' w', Two w0 w' e va' vl (n + 1) m (xa ++ [u]) xl → w.grownBy w' va.ownBlock → (∃ g cap, va' = .slice (some ⟨g, 0, none⟩) (n + 1) cap) → K (a.put o.dst va') w') :
    if Region.wanted o (yielded ops a.tmps) = true then Oper.wp P o a w K Q else E := by
  obtain ⟨⟨hgd, ho, hs, ht2, b, hx, hb⟩, h⟩ := h
  obtain ⟨i, hi, hz, h1, h2⟩ := info_parts hi
  refine step_append_lies w hgd s x t ho w0.heap.size e i z 1 bytes ht hi hz h1 h2 hzs (by decide) va n xa hs ht2.a ⟨b, 0, none⟩ 1 1 [u] hx rfl ?_ (by intro v hv; rw [List.mem_singleton] at hv; subst hv; exact hu) (by decide) h63 hbytes ht2.bel.size w.heap.size rfl ?_
  · intro j v hv
    cases j with
    | zero =>
      simp only [List.getElem?_cons_zero, Option.some.injEq] at hv
      subst hv
      rw [Addr.add_lit]
      exact hb
    | succ j => simp at hv
  · intro g cap w' h3 h4 h5 _
    exact h _ _ (ht2.push h3 h4 h5) h4 ⟨g, cap, rfl⟩
/-- Likewise onto the second of two. -/
theorem step_two2 {P : Program} {w : World} {ops : Array Oper} {o : Oper} {a : Act} {K : Act → World → Prop} {Q : Exit → Act → World → Prop} {E : Prop} (s x : Operand) (t : TypeId)
    (w0 : World) (e : TypeId) (z : Value) (bytes : Nat) (ht : P.underlying t = some (.slice e)) (hi : (P.info? e).map (fun i => (i.zero, i.size, i.bytes)) = some (some z, 1, bytes)) (hzs : z.cells.size = 1)
    (va vl : Value) (n m : Nat) (xa xl : List Value) (u : Value) (hu : u.oneCell' = true) (h63 : m + 1 ≤ maxLen) (hbytes : (m + 1) * bytes ≤ 140737488355328)
    (h : (o.guard = none ∧ o.op = .call { callee := .builtin .append, args := #[s, x], argTypes := #[t, t] } ∧ a.eval s = vl ∧ Two w0 w e va vl n m xa xl ∧ ∃ b, a.eval x = .slice (some ⟨b, 0, none⟩) 1 1 ∧ w.cell? ⟨b, 0, none⟩ = some u) ∧
      ∀ vl' w', Two w0 w' e va vl' n (m + 1) xa (xl ++ [u]) → w.grownBy w' vl.ownBlock → (∃ g cap, vl' = .slice (some ⟨g, 0, none⟩) (m + 1) cap) → K (a.put o.dst vl') w') :
    if Region.wanted o (yielded ops a.tmps) = true then Oper.wp P o a w K Q else E := by
  obtain ⟨⟨hgd, ho, hs, ht2, b, hx, hb⟩, h⟩ := h
  exact step_two s x t w0 e z bytes ht hi hzs vl va m n xl xa u hu h63 hbytes ⟨⟨hgd, ho, hs, ht2.swap, b, hx, hb⟩, fun v' w' h1 h2 h3 => h v' w' h1.swap h2 h3⟩
end Go.Proofs.YtleiehiabcgalaaDoor

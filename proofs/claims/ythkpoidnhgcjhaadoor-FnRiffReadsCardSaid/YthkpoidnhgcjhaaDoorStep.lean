/- 'append' of some elements, in a region that draws its order: what is asked of the region's own world, as one. No program in sight. -/
import Derived.Test.YthkpoidnhgcjhaaDoorMem
import Derived.Deep.RegionLaw
import Derived.RegionTactic
namespace Go.Proofs.YthkpoidnhgcjhaaDoor
set_option linter.unusedSimpArgs false
set_option linter.unusedVariables false
open Go.RowKit

theorem step_pushN {P : Program} {w : World} {ops : Array Oper} {o : Oper} {a : Act} {K : Act → World → Prop} {Q : Exit → Act → World → Prop} {E : Prop} (s x : Operand) (t : TypeId)
    (base : Nat) (e : TypeId) (z : Value) (bytes : Nat) (ht : P.underlying t = some (.slice e)) (hi : (P.info? e).map (fun i => (i.zero, i.size, i.bytes)) = some (some z, 1, bytes)) (hzs : z.cells.size = 1)
    (v : Value) (n m : Nat) (xs news : List Value) (hl : news.length = m) (hu : ∀ u ∈ news, u.oneCell' = true) (b : Nat) (h63 : n + m ≤ maxLen) (hbytes : (n + m) * bytes ≤ 140737488355328)
    (h : (o.guard = none ∧ o.op = .call { callee := .builtin .append, args := #[s, x], argTypes := #[t, t] } ∧ a.eval s = v ∧ w.ownsRow base e 1 v n xs ∧ a.eval x = .slice (some ⟨b, 0, none⟩) m m ∧ (∀ j u, news[j]? = some u → w.cell? ⟨b, j, none⟩ = some u) ∧ base ≤ w.heap.size) ∧
      ∀ v' w', w'.ownsRow base e 1 v' (n + m) (xs ++ news) → w.grownBy w' v.ownBlock → K (a.put o.dst v') w') :
    if Region.wanted o (yielded ops a.tmps) = true then Oper.wp P o a w K Q else E := by
  obtain ⟨⟨hgd, ho, hs, hown, hx, hb, hbase⟩, h⟩ := h
  obtain ⟨i, hi, hz, h1, h2⟩ := info_parts hi
  have hw : Region.wanted o (yielded ops a.tmps) = true := by simp [Region.wanted, hgd]
  rw [if_pos hw]
  refine wp_append_own w s x t ho base e i z 1 bytes ht hi hz h1 h2 hzs (by decide) v n xs hs hown ⟨b, 0, none⟩ m m news hx (by simpa using hl) ?_ hu h63 hbytes hbase ?_
  · intro j y hy
    rw [Addr.add_lit, Nat.zero_add]
    exact hb j y hy
  · intro v' w' h1 h2 _
    exact h v' w' h1 h2
end Go.Proofs.YthkpoidnhgcjhaaDoor

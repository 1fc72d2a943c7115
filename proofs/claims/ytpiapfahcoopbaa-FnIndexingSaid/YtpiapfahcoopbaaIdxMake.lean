/- 'make' of n zero elements, in a region that draws its order. No program in sight. -/
import Derived.Test.YtpiapfahcoopbaaIdxZero
import Derived.OwnWalk
namespace Go.Proofs.Ytpiapfahcoopbaa
set_option linter.unusedSimpArgs false
set_option linter.unusedVariables false
open Go.RowKit Plain

theorem step_makeN {P : Program} {w : World} {ops : Array Oper} {o : Oper} {a : Act} {K : Act → World → Prop} {Q : Exit → Act → World → Prop} {E : Prop} (l c : Operand) (t : TypeId)
    (base : Nat) (e : TypeId) (z : Value) (bytes : Nat) (ht : P.underlying t = some (.slice e)) (hi : (P.info? e).map (fun i => (i.zero, i.size, i.bytes)) = some (some z, 1, bytes))
    (kl kc : IntKind) (L : Int) (n b : Nat) (h63 : n ≤ maxLen) (hbytes : bytes * n ≤ 281474976710656)
    (h : (o.guard = none ∧ o.op = Op.makeSlice t l c ∧ a.eval l = .int kl L ∧ a.eval c = .int kc L ∧ L = (n : Int) ∧ base ≤ w.heap.size ∧ b = w.heap.size) ∧
      ∀ w', w'.ownsRow base e 1 (.slice (some ⟨b, 0, none⟩) n n) n (madeCells z.cells (n * 1)).toList → w.grownBy w' none → K (a.put o.dst (.slice (some ⟨b, 0, none⟩) n n)) w') :
    if Region.wanted o (yielded ops a.tmps) = true then Oper.wp P o a w K Q else E := by
  obtain ⟨⟨hgd, hop, hl, hc, hL, hbase, hb⟩, h⟩ := h
  obtain ⟨i, hi, hz, h1, h2⟩ := info_parts hi
  have hw : Region.wanted o (yielded ops a.tmps) = true := by simp [Region.wanted, hgd]
  rw [if_pos hw]
  obtain ⟨w', hrun, r1, r2⟩ := run_make_full (P := P) w base t e i z 1 ht hi hz h1 kl kc n (by rw [h2]; exact hbytes) h63 hbase
  subst hL
  subst hb
  unfold Oper.wp
  simp [execOp, hop, hl, hc, hrun, Result.andThen]
  exact h _ r1 r2
end Go.Proofs.Ytpiapfahcoopbaa

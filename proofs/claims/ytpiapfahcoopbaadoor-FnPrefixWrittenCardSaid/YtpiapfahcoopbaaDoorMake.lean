/- 'make' of n numbers 0. No program in sight. -/
import Derived.Test.YtpiapfahcoopbaaDoorMem
import Derived.OwnWalk
namespace Go.Proofs.YtpiapfahcoopbaaDoor
set_option linter.unusedSimpArgs false
set_option linter.unusedVariables false
open Go.RowKit

theorem madeInts (k : IntKind) (n : Nat) : (madeCells (Value.int k 0).cells (n * 1)).toList = (List.replicate n (0 : Int)).map (Value.int k) := by
  apply List.ext_getElem (by simp [madeCells])
  intro i h1 h2
  simp [madeCells, Value.cells, Nat.mod_one]
theorem wpList_makeN {P : Program} (w : World) {ops : Array Oper} {rest : List Oper} {o : Oper} {a : Act} {Q : Exit → Act → World → Prop}
    (hg : o.guard = none) (l c : Operand) (t : TypeId) (hop : o.op = Op.makeSlice t l c)
    (base : Nat) (e : TypeId) (k : IntKind) (bytes : Nat) (h1 : P.underlying t = some (.slice e)) (hi : (P.info? e).map (fun i => (i.zero, i.size, i.bytes)) = some (some (Value.int k 0), 1, bytes))
    (kl kc : IntKind) (L C : Int) (n : Nat) (hl : a.eval l = .int kl L) (hc : a.eval c = .int kc C) (hL : L = (n : Int)) (hC : C = (n : Int)) (b2 : bytes * n ≤ 281474976710656) (b3 : n ≤ maxLen) (b4 : base ≤ w.heap.size)
    (hK : ∀ w', w'.ownsRow base e 1 (.slice (some ⟨w.heap.size, 0, none⟩) n n) n ((List.replicate n (0 : Int)).map (Value.int k)) → w.grownBy w' none → w.heap.size < w'.heap.size → wpList P ops Q rest (a.put o.dst (.slice (some ⟨w.heap.size, 0, none⟩) n n)) w') :
    wpList P ops Q (o :: rest) a w := by
  obtain ⟨i, hi, hz, hs, hb⟩ := info_parts hi
  refine wpList_make_full w hg l c t hop base e i _ 1 h1 hi hz hs kl kc L C n hl hc hL hC (by rw [hb]; exact b2) b3 b4 ?_
  intro w' ho hg
  rw [madeInts] at ho
  exact hK w' ho hg (ho.lt _ rfl).2
/-- 'append' of one element, the box of which was laid at b. -/
theorem wpList_pushB {P : Program} {w : World} {ops : Array Oper} {rest : List Oper} {o : Oper} {a : Act} {Q : Exit → Act → World → Prop} (hgd : o.guard = none) (s x : Operand) (t : TypeId)
    (ho : o.op = .call { callee := .builtin .append, args := #[s, x], argTypes := #[t, t] })
    (base : Nat) (e : TypeId) (z : Value) (bytes : Nat) (ht : P.underlying t = some (.slice e)) (hi : (P.info? e).map (fun i => (i.zero, i.size, i.bytes)) = some (some z, 1, bytes)) (hzs : z.cells.size = 1)
    (v : Value) (n : Nat) (xs : List Value) (hs : a.eval s = v) (hown : w.ownsRow base e 1 v n xs) (u : Value) (hu : u.oneCell' = true) (b : Nat) (hb : b = w.heap.size)
    (hx : a.eval x = .slice (some ⟨b, 0, none⟩) 1 1) (h63 : n + 1 ≤ maxLen) (hbytes : (n + 1) * bytes ≤ 140737488355328) (hbase : base ≤ w.heap.size)
    (h : ∀ v' w', w'.ownsRow base e 1 v' (n + 1) (xs ++ [u]) → w.grownBy w' v.ownBlock → wpList P ops Q rest (a.put o.dst v') w') : wpList P ops Q (o :: rest) a (w.alloc (.cells #[u] e)) := by
  subst hb
  exact wpList_push hgd s x t ho base e z bytes ht hi hzs v n xs hs hown u hu hx h63 hbytes hbase h
theorem own_down {w : World} {base base' : Nat} {e : TypeId} {size : Nat} {v : Value} {n : Nat} {xs : List Value} (h : w.ownsRow base e size v n xs) (hb : base' ≤ base) : w.ownsRow base' e size v n xs := by
  obtain ⟨h1, h2⟩ := h
  refine ⟨h1, ?_⟩
  rcases h2 with h2 | ⟨g, cap, cur, hv, hg, r⟩
  · exact .inl h2
  · exact .inr ⟨g, cap, cur, hv, Nat.le_trans hb hg, r⟩
end Go.Proofs.YtpiapfahcoopbaaDoor

/- '==' of arrays of integers, for whatever program. -/
import Derived.Test.YtleiehiabcgalaaDoorMem
import Derived.ChangeKeysEq
import Derived.Laws.StructEq
namespace Go.Proofs.YtleiehiabcgalaaDoor
set_option linter.unusedSimpArgs false
set_option linter.unusedVariables false
open Go.RowKit
section
variable {P : Program}
theorem run_sizeOf_any {t : TypeId} (h : (P.info? t).map (fun i => i.size) = some 1) (w : World) : (sizeOf t).run P w = .ok 1 w := by
  obtain ⟨i, hi, hz⟩ := Option.map_eq_some_iff.1 h
  rw [run_sizeOf w hi]
  simp [Program.cellsOf, hi, hz]
theorem run_equalIn_array (d : Nat) (t e : TypeId) (n : Nat) (k : IntKind) (ht : P.underlying t = some (.array n e)) (he : P.underlying e = some (.int k)) (hp : P.plainKey e = true) (hz : (P.info? e).map (fun i => i.size) = some 1)
    (xs ys : List Int) (hx : xs.length = n) (hy : ys.length = n) (w : World) :
    (Op.equalIn (d + 2) t (.agg (xs.map (Value.int k)).toArray) (.agg (ys.map (Value.int k)).toArray)).run P w = .ok (xs == ys) w := by
  rw [Op.equalIn]
  simp only [Sem.run_bind, run_underlying ht, Result.andThen_ok]
  simp only [Std.Legacy.Range.forIn_eq_forIn_range', Std.Legacy.Range.size, Nat.sub_zero, Nat.add_sub_cancel, Nat.div_one]
  simp only [run_sizeOf_any hz, Result.andThen_ok, Nat.mul_one]
  have key : ∀ (m i : Nat), i + m = n → (Sem.run P (forIn (List.range' i m) ((none, ()) : Option Bool × Unit) fun i _ => do
            let a ← part e (List.map (Value.int k) xs).toArray i
            let b ← part e (List.map (Value.int k) ys).toArray i
            let c ← Op.equalIn (d + 1) e a b
            if (!c) = true then pure (ForInStep.done (some false, ())) else pure (ForInStep.yield (none, ()))) w) =
      .ok (if xs.drop i == ys.drop i then (none, ()) else (some false, ())) w := by
    intro m
    induction m with
    | zero =>
      intro i hi
      have e1 : xs.drop i = [] := List.drop_eq_nil_of_le (by omega)
      have e2 : ys.drop i = [] := List.drop_eq_nil_of_le (by omega)
      simp [e1, e2]
    | succ m ih =>
      intro i hi
      have h1 : i < xs.length := by omega
      have h2 : i < ys.length := by omega
      have p1 : (part e (List.map (Value.int k) xs).toArray i).run P w = .ok (.int k xs[i]) w := run_part_plain w hp (by simp [h1])
      have p2 : (part e (List.map (Value.int k) ys).toArray i).run P w = .ok (.int k ys[i]) w := run_part_plain w hp (by simp [h2])
      have p3 := run_equalIn_int w d e k k xs[i] ys[i] he
      rw [List.range'_succ, List.forIn_cons]
      simp only [Sem.run_bind, p1, p2, p3, Result.andThen_ok, Sem.run_ite]
      rw [List.drop_eq_getElem_cons h1, List.drop_eq_getElem_cons h2]
      by_cases hc : xs[i] = ys[i]
      · have e1 : (xs[i] == ys[i]) = true := by simp [hc]
        have e2 : (xs[i] :: xs.drop (i + 1) == ys[i] :: ys.drop (i + 1)) = (xs.drop (i + 1) == ys.drop (i + 1)) := by rw [List.cons_beq_cons, e1, Bool.true_and]
        rw [e1, e2]
        exact ih (i + 1) (by omega)
      · have e1 : (xs[i] == ys[i]) = false := by simp [hc]
        have e2 : (xs[i] :: xs.drop (i + 1) == ys[i] :: ys.drop (i + 1)) = false := by rw [List.cons_beq_cons, e1, Bool.false_and]
        rw [e1, e2]
        rfl
  have h0 := key n 0 (by omega)
  simp only [List.drop_zero] at h0
  rw [h0]
  by_cases hc : xs == ys
  · simp [hc]
  · simp [hc]
theorem run_eql_array (t e : TypeId) (n : Nat) (k : IntKind) (ht : P.underlying t = some (.array n e)) (he : P.underlying e = some (.int k)) (hp : P.plainKey e = true) (hz : (P.info? e).map (fun i => i.size) = some 1)
    (xs ys : List Int) (hx : xs.length = n) (hy : ys.length = n) (w : World) :
    (binOp .eql t (.agg (xs.map (Value.int k)).toArray) (.agg (ys.map (Value.int k)).toArray)).run P w = .ok (.bool (xs == ys)) w := by
  rw [run_eql_struct, show (10000 : Nat) = 9998 + 2 from rfl, run_equalIn_array 9998 t e n k ht he hp hz xs ys hx hy]
  rfl
theorem run_neq_array (t e : TypeId) (n : Nat) (k : IntKind) (ht : P.underlying t = some (.array n e)) (he : P.underlying e = some (.int k)) (hp : P.plainKey e = true) (hz : (P.info? e).map (fun i => i.size) = some 1)
    (xs ys : List Int) (hx : xs.length = n) (hy : ys.length = n) (w : World) :
    (binOp .neq t (.agg (xs.map (Value.int k)).toArray) (.agg (ys.map (Value.int k)).toArray)).run P w = .ok (.bool (!(xs == ys))) w := by
  rw [run_neq_struct, show (10000 : Nat) = 9998 + 2 from rfl, run_equalIn_array 9998 t e n k ht he hp hz xs ys hx hy]
  rfl
end
end Go.Proofs.YtleiehiabcgalaaDoor

/- 'laws.isShort': the walk. -/
import Derived.Test.YthbidebcljegjaaDoorFits
namespace Go.Proofs.YthbidebcljegjaaDoor
set_option linter.unusedSimpArgs false
set_option linter.unusedVariables false
open Go.RowKit Plain

theorem wpList_load_midg {P : Program} {ops : Array Oper} {rest : List Oper} {op : Oper} {a : Act} {w : World} {Q : Exit → Act → World → Prop} (hw : Region.wanted op (yielded ops a.tmps) = true) (ty : TypeId) (x : Operand) (ho : op.op = .load ty x)
    (b o : Nat) (hx : a.eval x = .pointer (some ⟨b, o, none⟩)) (cs : List Value) (d : TypeDesc) (hc : w.rangeAt b o cs)
    (hu : P.underlying ty = some d) (hd : d.isRow = true) (hi : (P.info? ty).map (·.size) = some cs.length)
    (h : wpList P ops Q rest (a.put op.dst (.agg cs.toArray)) w) : wpList P ops Q (op :: rest) a w :=
  wpList_step fun K hK => by
    rw [if_pos hw]
    exact wp_load_mid ty x ho b o hx cs d hc hu hd hi (hK _ _ h)
/-- Coefficients, and those between both passes, are near to 0. -/
def shortB (l : List Int) : Bool := within (-25079) 25079 l && fitB (fun j => l.getD j 0)
theorem within_at {lo hi : Int} {l : List Int} (h : within lo hi l = true) (h0 : lo ≤ 0) (h1 : 0 ≤ hi) (j : Nat) : lo ≤ l.getD j 0 ∧ l.getD j 0 ≤ hi := by
  rcases Nat.lt_or_ge j l.length with hj | hj
  · unfold within at h
    rw [List.all_eq_true] at h
    have := of_decide_eq_true (h l[j] (List.getElem_mem hj))
    simpa [hj] using this
  · simp [hj, h0, h1]
set_option maxRecDepth 100000 in
set_option maxHeartbeats 1000000 in
theorem isShort_any (l : List Int) (w : World) (hl : l.length = 16) :
    Calls Tryd.prog 28 #[.agg (rowF .i64 (fun j => l.getD j 0) 16)] w fun e w' => e = .returned (.bool (shortB l)) ∧ Below w.heap.size w w' := by
  have hA : Blk (w.alloc (.cells (rowF .i64 (fun j => l.getD j 0) 16) 37)) w.heap.size 37 (rowF .i64 (fun j => l.getD j 0) 16) := Blk.new w _ _
  have cR := inRange_any (some ⟨w.heap.size, 0, none⟩) 16 (w.heap.size + 1) l (-25079) 25079 (w.alloc (.cells (rowF .i64 (fun j => l.getD j 0) 16) 37)) (by omega)
    (Rd.ofCells (by omega) (fun j hj => by rw [Nat.zero_add, hA.cell j]; exact rowF_get _ _ _ _ (by omega)))
  rw [hl] at cR
  have hb0 := hide ((Below.refl w.heap.size w).alloc (Nat.le_refl _) (.cells (rowF .i64 (fun j => l.getD j 0) 16) 37))
  cases hW : within (-25079) 25079 l with
  | false =>
    have hs : shortB l = false := by unfold shortB; rw [hW]; rfl
    rw [hs]
    rw [hW] at cR
    replace cR := hide cR
    clear hs hW hA hl
    generalize rowF .i64 (fun j => l.getD j 0) 16 = RX at *
    go_enter Tryd.func28, Tryd.ntmps28
    go_wp2_with fail
    (with_reducible refine (cR.out).mono ?_)
    rintro e w' ⟨rfl, rfl⟩
    go_wp2
    go_ret
    exact ⟨rfl, hb0.out⟩
  | true =>
    have hs : shortB l = fitB (fun j => l.getD j 0) := by unfold shortB; rw [hW]; rfl
    rw [hs]
    have cF := fun w1 => fits_any (fun j => l.getD j 0) w1 (within_at hW (by decide) (by decide))
    rw [hW] at cR
    have hrg := hide hA.range
    have hrl : (Tryd.prog.info? 37).map (·.size) = some (rowF .i64 (fun j => l.getD j 0) 16).toList.length := by rw [Array.length_toList, rowF_size]; exact size_16int
    replace hrl := hide hrl
    replace cR := hide cR
    replace cF := hide cF
    clear hs hW hA hl
    generalize fitB (fun j => l.getD j 0) = fb at *
    generalize rowF .i64 (fun j => l.getD j 0) 16 = RX at *
    go_enter Tryd.func28, Tryd.ntmps28
    go_wp2_with fail
    (with_reducible refine (cR.out).mono ?_)
    rintro e w' ⟨rfl, rfl⟩
    go_wp2_with (first | (refine wpList_load_midg rfl 37 (.tmp 1) rfl w.heap.size 0 rfl RX.toList _ hrg.out Tryd.underlying37 rfl hrl.out ?_) | (go_at_call 46; (with_reducible refine (cF.out _).mono ?_); rintro e w' ⟨rfl, hb'⟩; replace hb' := hide hb') | fail)
    go_ret
    exact ⟨rfl, hb0.out.trans (hb'.out.mono hb0.out.size)⟩
end Go.Proofs.YthbidebcljegjaaDoor

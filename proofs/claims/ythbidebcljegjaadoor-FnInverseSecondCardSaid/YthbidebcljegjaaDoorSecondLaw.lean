/- The law FnInverseSecond: the walk, for every argument. -/
import Derived.Test.YthbidebcljegjaaDoorWhtSpec
import Derived.Test.YthbidebcljegjaaDoorEqLaws
import Derived.Test.YthbidebcljegjaaDoorTruths
import Derived.Test.YthbidebcljegjaaDoorReadBool
import Derived.Deep.RegionHeld3
namespace Go.Proofs.YthbidebcljegjaaDoor
set_option linter.unusedSimpArgs false
set_option linter.unusedVariables false
open Go.RowKit Plain

theorem rowF_of (l : List Int) (n : Nat) (h : l.length = n) (k : IntKind) : (l.map (Value.int k)).toArray = rowF k (fun j => l.getD j 0) n := by
  subst h
  unfold rowF
  congr 1
  apply List.ext_getElem
  · simp
  · intro i h1 h2
    simp at h1
    simp [h1]
theorem range_keep {W W' : World} {g o : Nat} {cs : List Value} (h : W.rangeAt g o cs) (hb : Below W.heap.size W W') : W'.rangeAt g o cs := fun j v hv => by
  have h1 := h j v hv
  exact (hb.cell (p := ⟨g, o + j, none⟩) (World.block_lt_of_cell? _ _ h1)).trans h1
theorem range_drew {W : World} {g o : Nat} {cs : List Value} (h : W.rangeAt g o cs) : W.drew.rangeAt g o cs := h
theorem both_start {W w : World} {g : Nat} {cs : List Value} (h : W.rangeAt g 0 cs) (hb : Below g w W) : W.drew.rangeAt g 0 cs ∧ Below g w W.drew := ⟨h, hb.drew⟩
theorem both_keep {W W' w : World} {cs : List Value} (h : W.rangeAt w.heap.size 0 cs ∧ Below w.heap.size w W) (hb : Below W.heap.size W W') : W'.rangeAt w.heap.size 0 cs ∧ Below w.heap.size w W' := ⟨range_keep h.1 hb, h.2.trans (hb.mono h.2.size)⟩
theorem eql_16 (F : Nat → Int) (w : World) : (binOp .eql 37 (.agg (rowF .i64 F 16)) (.agg (rowF .i64 F 16))).run Tryd.prog w = .ok (.bool true) w := by
  have e : rowF .i64 F 16 = (((List.range 16).map F).map (Value.int .i64)).toArray := by
    unfold rowF
    rw [List.map_map]
    rfl
  rw [e, run_eql_array 37 3 16 .i64 Tryd.underlying37 Tryd.underlying3 (by kernel_rfl) size_int _ _ (by simp) (by simp) w]
  simp

set_option maxRecDepth 100000 in
set_option maxHeartbeats 4000000 in
theorem second_main (l : List Int) (w : World) (hl : l.length = 16) (hW : within (-2048) 2048 l = true) (hL : Luts w) :
    Calls Tryd.prog 4 #[.agg (l.map (Value.int .i64)).toArray] w fun e w' => e = .returned (.bool true) ∧ Below w.heap.size w w' := by
  have hx : ∀ j, -2048 ≤ l.getD j 0 ∧ l.getD j 0 ≤ 2048 := by
    intro j
    rcases Nat.lt_or_ge j l.length with h | h
    · unfold within at hW
      rw [List.all_eq_true] at hW
      have := of_decide_eq_true (hW l[j] (List.getElem_mem h))
      simpa [h] using this
    · simp [h]
  have hlt := hL.lt
  rw [rowF_of l 16 hl .i64]
  have hA : Blk (w.alloc (.cells (rowF .i64 (fun j => l.getD j 0) 16) 37)) w.heap.size 37 (rowF .i64 (fun j => l.getD j 0) 16) := Blk.new w _ _
  have cR := inRange_any (some ⟨w.heap.size, 0, none⟩) 16 (w.heap.size + 1) l (-2048) 2048 (w.alloc (.cells (rowF .i64 (fun j => l.getD j 0) 16) 37)) (by omega)
    (Rd.ofCells (by omega) (fun j hj => by rw [Nat.zero_add, hA.cell j]; exact rowF_get _ _ _ _ (by omega)))
  rw [hW, hl] at cR

  have cI := fun w1 => implSecond_any (fun j => l.getD j 0) w1 hx
  have cS := fun w1 => specSecond_any (fun j => l.getD j 0) w1 hx
  have cB := fun w1 (hb : Below w.heap.size w w1) => readBool_any w1 (hL.below hb hlt)
  have hq := eql_16 (oW (mW (fun j => l.getD j 0)))
  have hb0 := hide ((Below.refl _ w).alloc (Nat.le_refl _) (.cells (rowF .i64 (fun j => l.getD j 0) 16) 37))
  have hrg := hide hA.range
  have hu37 : Tryd.prog.underlying 37 = some (.array 16 3) := Tryd.underlying37
  have hi37 : (Tryd.prog.info? 37).map (·.size) = some ((rowF .i64 (fun j => l.getD j 0) 16).toList.length) := by
    rw [Array.length_toList, rowF_size]
    exact size_16int
  replace cR := hide cR
  replace cI := hide cI
  replace cS := hide cS
  replace cB := hide cB
  replace hx := hide hx
  clear hW hl hA hL
  rw [← Array.toArray_toList (xs := rowF .i64 (fun j => l.getD j 0) 16)] at *
  generalize hRX : (rowF .i64 (fun j => l.getD j 0) 16).toList = RX at *
  generalize oW (mW (fun j => l.getD j 0)) = F at *
  generalize hRO : rowF .i64 F 16 = RO at *
  clear hRX hRO
  go_enter Tryd.func4, Tryd.ntmps4
  go_wp2_with fail
  (with_reducible refine (cR.out).mono ?_)
  rintro e w' ⟨rfl, rfl⟩
  go_wp2_with fail
  refine wp_region_held_drew (S := fun W => W.rangeAt w.heap.size 0 RX ∧ Below w.heap.size w W) (by kernel_rfl) (both_start hrg.out hb0.out) (fun hHeld => ?_)
  refine wpAnyH_take (i := 0) (oi := _) (v := _) rfl (by kernel_rfl) (by kernel_rfl) (by kernel_rfl) (fun _ _ _ h => h) (yieldsIf_load_mid (by rfl) _ _ rfl _ _ rfl _ _ (fun _ h => h.1) hu37 rfl hi37) (by assumption) ?_
  try simp only [Act.put, List.setIfInBounds_toArray, List.set_cons_zero, List.set_cons_succ]
  refine wpAnyH_take (i := 2) (oi := _) (v := _) rfl (by kernel_rfl) (by kernel_rfl) (by kernel_rfl) (fun _ _ _ h => h) (yieldsIf_load_mid (by rfl) _ _ rfl _ _ rfl _ _ (fun _ h => h.1) hu37 rfl hi37) (by assumption) ?_
  try simp only [Act.put, List.setIfInBounds_toArray, List.set_cons_zero, List.set_cons_succ]
  refine wpAnyH_ready (rs := [1]) (by kernel_rfl) (by simp) ?_
  refine AllReadyH.cons rfl (fun K hK => ?_) AllReadyH.nil
  rw [if_pos (by rfl)]
  go_simp
  go_at_call 18
  (with_reducible refine (cI.out _).mono ?_)
  rintro e w' ⟨rfl, hb'⟩
  go_wp2_with fail
  refine hK.out _ _ (both_keep hHeld hb') (fun hHeld => ?_)
  clear hK K
  try simp only [Act.put, List.setIfInBounds_toArray, List.set_cons_zero, List.set_cons_succ]
  refine wpAnyH_ready (rs := [3]) (by kernel_rfl) (by simp) ?_
  refine AllReadyH.cons rfl (fun K hK => ?_) AllReadyH.nil
  rw [if_pos (by rfl)]
  go_simp
  go_at_call 19
  (with_reducible refine (cS.out _).mono ?_)
  rintro e w' ⟨rfl, hb'⟩
  go_wp2_with fail
  refine hK.out _ _ (both_keep hHeld hb') (fun hHeld => ?_)
  clear hK K
  try simp only [Act.put, List.setIfInBounds_toArray, List.set_cons_zero, List.set_cons_succ]
  refine wpAnyH_ready (rs := [4]) (by kernel_rfl) (by simp) ?_
  refine AllReadyH.cons rfl (fun K hK => ?_) AllReadyH.nil
  rw [if_pos (by rfl)]
  go_simp
  refine hK.out _ _ hHeld (fun hHeld => ?_)
  clear hK K
  try simp only [Act.put, List.setIfInBounds_toArray, List.set_cons_zero, List.set_cons_succ]
  refine wpAnyH_ready (rs := [5]) (by kernel_rfl) (by simp) ?_
  refine AllReadyH.cons rfl (fun K hK => ?_) AllReadyH.nil
  rw [if_pos (by rfl)]
  go_simp
  refine hK.out _ _ hHeld (fun hHeld => ?_)
  clear hK K
  try simp only [Act.put, List.setIfInBounds_toArray, List.set_cons_zero, List.set_cons_succ]
  refine wpAnyH_ready (rs := [6]) (by kernel_rfl) (by simp) ?_
  refine AllReadyH.cons rfl (fun K hK => ?_) AllReadyH.nil
  rw [if_pos (by rfl)]
  go_simp
  go_at_call 10
  (with_reducible refine (cB.out _ hHeld.2).mono ?_)
  rintro e w' ⟨rfl, hb'⟩
  go_wp2_with fail
  refine hK.out _ _ (both_keep hHeld hb') (fun hHeld => ?_)
  clear hK K
  try simp only [Act.put, List.setIfInBounds_toArray, List.set_cons_zero, List.set_cons_succ]
  refine wpAnyH_ready (rs := [7]) (by kernel_rfl) (by simp) ?_
  refine AllReadyH.cons rfl (fun K hK => ?_) AllReadyH.nil
  rw [if_pos (by rfl)]
  go_simp
  refine hK.out _ _ hHeld (fun hHeld => ?_)
  clear hK K
  try simp only [Act.put, List.setIfInBounds_toArray, List.set_cons_zero, List.set_cons_succ]
  refine wpAnyH_ready (rs := [8]) (by kernel_rfl) (by simp) ?_
  refine AllReadyH.cons rfl (fun K hK => ?_) AllReadyH.nil
  rw [if_pos (by rfl)]
  go_simp
  refine hK.out _ _ hHeld (fun hHeld => ?_)
  clear hK K
  try simp only [Act.put, List.setIfInBounds_toArray, List.set_cons_zero, List.set_cons_succ]
  refine wpAnyH_done (by kernel_rfl) ?_ _
  go_wp2
  go_ret
  exact ⟨rfl, hHeld.2⟩

set_option maxRecDepth 100000 in
set_option maxHeartbeats 4000000 in
theorem secondLaw_any (l : List Int) (w : World) (hL : Luts w) (hl : l.length = 16) :
    Calls Tryd.prog 4 #[.agg (l.map (Value.int .i64)).toArray] w fun e w' => e = .returned (.bool true) ∧ Below w.heap.size w w' := by
  by_cases hW : within (-2048) 2048 l = true
  · exact second_main l w hl hW hL
  have hlt := hL.lt
  have hW' : within (-2048) 2048 l = false := by simpa using hW
  rw [rowF_of l 16 hl .i64]
  have hA : Blk (w.alloc (.cells (rowF .i64 (fun j => l.getD j 0) 16) 37)) w.heap.size 37 (rowF .i64 (fun j => l.getD j 0) 16) := Blk.new w _ _
  have cR := inRange_any (some ⟨w.heap.size, 0, none⟩) 16 (w.heap.size + 1) l (-2048) 2048 (w.alloc (.cells (rowF .i64 (fun j => l.getD j 0) 16) 37)) (by omega)
    (Rd.ofCells (by omega) (fun j hj => by rw [Nat.zero_add, hA.cell j]; exact rowF_get _ _ _ _ (by omega)))
  rw [hW', hl] at cR
  have hb0 := (Below.refl w.heap.size w).alloc (Nat.le_refl _) (.cells (rowF .i64 (fun j => l.getD j 0) 16) 37)
  have cB := readBool_any _ (hL.below hb0 hlt)
  replace cR := hide cR
  replace cB := hide cB
  replace hb0 := hide hb0
  clear hW hW' hl hA hL
  generalize rowF .i64 (fun j => l.getD j 0) 16 = RX at *
  go_enter Tryd.func4, Tryd.ntmps4
  go_wp2_with fail
  (with_reducible refine (cR.out).mono ?_)
  rintro e w' ⟨rfl, rfl⟩
  go_wp2_with fail
  (with_reducible refine (cB.out).mono ?_)
  rintro e w' ⟨rfl, hb'⟩
  go_wp2
  go_ret
  exact ⟨rfl, hb0.out.trans (hb'.mono hb0.out.size)⟩
end Go.Proofs.YthbidebcljegjaaDoor

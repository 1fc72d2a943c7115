/- 'impl.sixteen': the walk. -/
import Derived.Test.YthbidebcljegjaaDoorDec
import Derived.Test.YthbidebcljegjaaDoorRowf
namespace Go.Proofs.YthbidebcljegjaaDoor
set_option linter.unusedSimpArgs false
set_option linter.unusedVariables false
open Go.RowKit Plain

theorem size_16i16 : (Tryd.prog.info? 69).map (·.size) = some 16 := by kernel_rfl
theorem size_16int : (Tryd.prog.info? 37).map (·.size) = some 16 := by kernel_rfl
theorem size_i16 : (Tryd.prog.info? 68).map (·.size) = some 1 := by kernel_rfl
theorem agg_int (w : World) : (isAgg 3).run Tryd.prog w = .ok false w := by kernel_rfl
theorem size_int : (Tryd.prog.info? 3).map (·.size) = some 1 := by kernel_rfl
theorem rowF_size (k : IntKind) (F : Nat → Int) (n : Nat) : (rowF k F n).size = n := by simp [rowF]
theorem rowF_one (k : IntKind) (F : Nat → Int) (n : Nat) : (rowF k F n).all (·.oneCell') = true := by
  rw [Array.all_eq_true_iff_forall_mem]
  intro v hv
  unfold rowF at hv
  simp at hv
  obtain ⟨_, _, rfl⟩ := hv
  rfl

set_option maxRecDepth 100000 in
set_option maxHeartbeats 4000000 in
theorem sixteen_any (x : Nat → Int) (w : World) (hx : ∀ j, -32768 ≤ x j ∧ x j ≤ 32767) :
    Calls Tryd.prog 40 #[.agg (rowF .i64 x 16)] w fun e w' => e = .returned (.agg (rowF .i16 x 16)) ∧ Below w.heap.size w w' := by
  replace hx := hide hx
  have hsz : (rowF .i64 x 16).size = 16 := rowF_size _ _ _
  have h1 := rowF_one .i64 x 16
  have hget := fun i (h : i < 16) => rowF_get .i64 x 16 i h
  replace hget := hide hget
  generalize hCS : rowF .i64 x 16 = CS at *
  replace hCS := hide hCS
  go_enter Tryd.func40, Tryd.ntmps40
  go_wp2_with (first | (refine wpList_load_mid rfl 37 (.tmp 1) rfl w.heap.size 0 rfl CS.toList _ (Blk.range (((Blk.new w 37 CS).alloc _).alloc _)) Tryd.underlying37 rfl (by rw [Array.length_toList, hsz]; exact size_16int) ?_) | fail)
  go_loopg [7] 16 (fun k u7 wr => ∃ m : Nat, k + m = 16 ∧ u7 = .int .i64 m ∧ Blk wr (w.heap.size + 2) 69 (rowF .i16 (fun j => if j < m then x j else 0) 16) ∧ Blk wr (w.heap.size + 1) 69 (rowF .i16 (fun _ => 0) 16) ∧ Below w.heap.size w wr)
  case atStart =>
    refine ⟨0, rfl, rfl, ?_, ?_, (((Below.refl _ w).alloc (Nat.le_refl _) _).alloc (by simp) _).alloc (by simp; omega) _⟩
    · have h := Blk.new ((w.alloc (.cells CS 37)).alloc (.cells (rowF .i16 (fun _ => 0) 16) 69)) 69 (rowF .i16 (fun j => if j < 0 then x j else 0) 16)
      rw [World.size_alloc, World.size_alloc] at h
      refine Blk.to h ?_ rfl
      rw [rowF_congr .i16 (G := fun _ => 0) 16 (fun i _ => if_neg (by omega))]
      rfl
    · have h := Blk.new (w.alloc (.cells CS 37)) 69 (rowF .i16 (fun _ => 0) 16)
      rw [World.size_alloc] at h
      exact h.alloc _
  case round =>
    obtain ⟨m, hm, rfl, hO, hR, hbel⟩ := hrel
    cases gk with
    | zero =>
      have hm' : m = 16 := by omega
      subst hm'
      rw [rowF_congr .i16 (G := x) 16 (fun i hi => if_pos hi)] at hO
      have hs2 : (rowF .i16 x 16).size = 16 := rowF_size _ _ _
      have h2 := rowF_one .i16 x 16
      have hrng := hide hO.range
      have hT := hide (hR.there 16 (by rw [rowF_size]; exact Nat.le_refl _))
      generalize hXS : rowF .i16 x 16 = XS at *
      replace hXS := hide hXS
      replace hbel := hide hbel
      clear hO hR
      go_wp2_with (first | (refine wpList_load_mid rfl 69 (.tmp 3) rfl (w.heap.size + 2) 0 rfl XS.toList _ hrng.out Tryd.underlying69 rfl (by rw [Array.length_toList, hs2]; exact size_16i16) ?_) | (refine wpList_store_mid rfl 69 (.tmp 2) (.tmp 16) rfl (w.heap.size + 1) 0 XS.toList.toArray rfl rfl (by rw [Array.toArray_toList, hs2]; exact hT.out) (by rw [Array.toArray_toList, hs2]; exact size_16i16) (by rw [Array.toArray_toList]; exact h2) ?_) | fail)
      have hrr : (loadVar 69 ⟨w.heap.size + 1, 0, none⟩).run Tryd.prog (wr.setCells (w.heap.size + 1) 0 XS.toList) = .ok (.agg XS) (wr.setCells (w.heap.size + 1) 0 XS.toList) := by
        have h9 := run_loadVar_mid (P := Tryd.prog) _ (w.heap.size + 1) 0 69 XS.toList _ (World.rangeAt_setCells_same wr (w.heap.size + 1) 0 XS.toList (by rw [Array.length_toList, hs2]; exact hT.out)) Tryd.underlying69 rfl (by rw [Array.length_toList, hs2]; exact size_16i16)
        rw [Array.toArray_toList] at h9
        exact h9
      refine bodyPost_ret (ret_cell rfl rfl hrr) rfl ⟨by rw [hXS.out], below_setCells (by omega) _ _ hbel.out⟩
    | succ k =>
      have hmi : (m : Int) < 16 := by omega
      have hgi := hget.out m (by omega)
      have hxb := hx.out m
      have hcell := Blk.rowCell hO m (by omega)
      have hfz := Blk.frozen hO m
      generalize hxm : x m = y at *
      replace hxm := hide hxm
      have V : IntKind.i16.wrap y = y := IntWalk.i16_in _ (by omega)
      have isI := agg_int
      have hri := fun w => run_index_arr (P := Tryd.prog) w (k := .i64) Tryd.underlying37 size_int (isI w) (show m < 16 by omega) hgi
      clear isI hgi
      replace hO := hide hO
      replace hR := hide hR
      replace hbel := hide hbel
      go_wp2
      go_roundg k
      case measure => omega
      case rel =>
        refine ⟨m + 1, by omega, by go_num, ?_, hR.out.far (by simp) _, hbel.out.setCell (by simp; omega) _⟩
        refine Blk.rowSet hO.out m _ ?_
        intro i hi
        by_cases h : i = m
        · subst h; rw [if_pos (by omega), if_pos rfl, hxm.out]
        · rw [if_neg h]
          by_cases h2 : i < m
          · rw [if_pos h2, if_pos (by omega)]
          · rw [if_neg h2, if_neg (by omega)]
end Go.Proofs.YthbidebcljegjaaDoor

/- 'impl.InverseSecond': the walk. -/
import Derived.Test.YthbidebcljegjaaDoorWhtDoor
namespace Go.Proofs.YthbidebcljegjaaDoor
set_option linter.unusedSimpArgs false
set_option linter.unusedVariables false
open Go.RowKit Plain

theorem agg_i16 (w : World) : (isAgg 68).run Tryd.prog w = .ok false w := by kernel_rfl

set_option maxRecDepth 100000 in
set_option maxHeartbeats 4000000 in
theorem implSecond_any (x : Nat → Int) (w : World) (hx : ∀ j, -2048 ≤ x j ∧ x j ≤ 2048) :
    Calls Tryd.prog 18 #[.agg (rowF .i64 x 16)] w fun e w' => e = .returned (.agg (rowF .i64 (oW (mW x)) 16)) ∧ Below w.heap.size w w' := by
  have hsz : (rowF .i64 x 16).size = 16 := rowF_size _ _ _
  have c16 := fun w1 => sixteen_any x w1 (fun j => by have := hx j; omega)
  have cD := fun w1 => doorWHT_any x w1 hx
  have hob := oW_bd (mW x) (mW_bd x hx)
  have hge := fun i (h : i < 16) => rowF_get .i16 (oW (mW x)) 16 i h
  replace hob := hide hob
  replace hge := hide hge
  replace c16 := hide c16
  replace cD := hide cD
  clear hx
  have b1 : Blk ((w.alloc (.cells (rowF .i64 x 16) 37)).alloc (.cells (rowF .i64 (fun _ => 0) 16) 37)) (w.heap.size + 1) 37 (rowF .i64 (fun _ => 0) 16) := by
    have h := Blk.new (w.alloc (.cells (rowF .i64 x 16) 37)) 37 (rowF .i64 (fun _ => 0) 16)
    rw [World.size_alloc] at h
    exact h
  have b2 : Blk (((w.alloc (.cells (rowF .i64 x 16) 37)).alloc (.cells (rowF .i64 (fun _ => 0) 16) 37)).alloc (.cells (rowF .i64 (fun _ => 0) 16) 37)) (w.heap.size + 2) 37 (rowF .i64 (fun _ => 0) 16) := by
    have h := Blk.new ((w.alloc (.cells (rowF .i64 x 16) 37)).alloc (.cells (rowF .i64 (fun _ => 0) 16) 37)) 37 (rowF .i64 (fun _ => 0) 16)
    rw [World.size_alloc, World.size_alloc] at h
    exact h
  have b1' := hide (b1.alloc (.cells (rowF .i64 (fun _ => 0) 16) 37))
  replace b2 := hide b2
  have hb := hide ((((Below.refl _ w).alloc (Nat.le_refl _) (.cells (rowF .i64 x 16) 37)).alloc (by simp) (.cells (rowF .i64 (fun _ => 0) 16) 37)).alloc (by simp; omega) (.cells (rowF .i64 (fun _ => 0) 16) 37))
  have hbx := hide (((Blk.new w 37 (rowF .i64 x 16)).alloc (.cells (rowF .i64 (fun _ => 0) 16) 37)).alloc (.cells (rowF .i64 (fun _ => 0) 16) 37)).range
  clear b1
  go_enter Tryd.func18, Tryd.ntmps18
  go_wp2_with (first | (refine wpList_load_mid rfl 37 (.tmp 1) rfl w.heap.size 0 rfl (rowF .i64 x 16).toList _ hbx.out Tryd.underlying37 rfl (by rw [Array.length_toList, hsz]; exact size_16int) ?_) | (go_at_call 40; (with_reducible refine (c16.out _).mono ?_); rintro e w2 ⟨rfl, hb2⟩; replace hb2 := hide hb2) | (go_at_call 39; (with_reducible refine (cD.out _).mono ?_); rintro e w3 ⟨rfl, hb3⟩; replace hb3 := hide hb3) | fail)
  have hs2 := hb2.out.size
  have hs3 := hb3.out.size
  simp only [World.size_alloc] at hs2
  have q1 := hide ((b1'.out.below hb2.out (by simp)).below hb3.out (by omega))
  have q2 := hide ((b2.out.below hb2.out (by simp)).below hb3.out (by omega))
  have q3 := hide ((hb.out.trans (hb2.out.mono (by simp; omega))).trans (hb3.out.mono (by omega)))
  clear b1' b2 hb hbx c16 cD hb2 hb3
  go_loopg [9] 16 (fun k u9 wr => ∃ m : Nat, k + m = 16 ∧ u9 = .int .i64 m ∧ Blk wr (w.heap.size + 2) 37 (rowF .i64 (fun j => if j < m then oW (mW x) j else 0) 16) ∧ Blk wr (w.heap.size + 1) 37 (rowF .i64 (fun _ => 0) 16) ∧ Below w.heap.size w wr)
  case atStart =>
    refine ⟨0, rfl, rfl, ?_, q1.out, q3.out⟩
    refine Blk.to q2.out rfl (rowF_congr .i64 16 (fun i _ => if_neg (by omega)))
  case round =>
    obtain ⟨m, hm, rfl, hO, hR, hbel⟩ := hrel
    clear q1 q2 q3
    cases gk with
    | zero =>
      have hm' : m = 16 := by omega
      subst hm'
      rw [rowF_congr .i64 (G := oW (mW x)) 16 (fun i hi => if_pos hi)] at hO
      have hs2 : (rowF .i64 (oW (mW x)) 16).size = 16 := rowF_size _ _ _
      have h2 := rowF_one .i64 (oW (mW x)) 16
      have hrng := hide hO.range
      have hT := hide (hR.there 16 (by rw [rowF_size]; exact Nat.le_refl _))
      generalize hXS : rowF .i64 (oW (mW x)) 16 = XS at *
      replace hXS := hide hXS
      replace hbel := hide hbel
      clear hO hR
      go_wp2_with (first | (refine wpList_load_mid rfl 37 (.tmp 3) rfl (w.heap.size + 2) 0 rfl XS.toList _ hrng.out Tryd.underlying37 rfl (by rw [Array.length_toList, hs2]; exact size_16int) ?_) | (refine wpList_store_mid rfl 37 (.tmp 2) (.tmp 18) rfl (w.heap.size + 1) 0 XS.toList.toArray rfl rfl (by rw [Array.toArray_toList, hs2]; exact hT.out) (by rw [Array.toArray_toList, hs2]; exact size_16int) (by rw [Array.toArray_toList]; exact h2) ?_) | fail)
      have hrr : (loadVar 37 ⟨w.heap.size + 1, 0, none⟩).run Tryd.prog (wr.setCells (w.heap.size + 1) 0 XS.toList) = .ok (.agg XS) (wr.setCells (w.heap.size + 1) 0 XS.toList) := by
        have h9 := run_loadVar_mid (P := Tryd.prog) _ (w.heap.size + 1) 0 37 XS.toList _ (World.rangeAt_setCells_same wr (w.heap.size + 1) 0 XS.toList (by rw [Array.length_toList, hs2]; exact hT.out)) Tryd.underlying37 rfl (by rw [Array.length_toList, hs2]; exact size_16int)
        rw [Array.toArray_toList] at h9
        exact h9
      refine bodyPost_ret (ret_cell rfl rfl hrr) rfl ⟨by rw [hXS.out], below_setCells (by omega) _ _ hbel.out⟩
    | succ k =>
      have hmi : (m : Int) < 16 := by omega
      have hm0 : (0 : Int) ≤ (m : Int) := by omega
      have hri := fun w => run_index_arr (P := Tryd.prog) w (k := .i64) Tryd.underlying69 size_i16 (agg_i16 w) (show m < 16 by omega) (hge.out m (by omega))
      have hxb := hob.out m
      have ho := Blk.rowCell hO m (by omega)
      have hfz := Blk.frozen hO m
      generalize hxm : oW (mW x) m = y at *
      replace hxm := hide hxm
      replace hO := hide hO
      replace hR := hide hR
      replace hbel := hide hbel
      go_wp2
      go_roundg k
      case measure => omega
      case rel =>
        refine ⟨m + 1, by omega, by go_num, ?_, hR.out.far (by simp) _, hbel.out.setCell (by simp; omega) _⟩
        refine Blk.rowSet hO.out m _ ?_
        intro i hi
        by_cases h : i = m
        · subst h; rw [if_pos (by omega), if_pos rfl, hxm.out]
        · rw [if_neg h]
          by_cases h2 : i < m
          · rw [if_pos h2, if_pos (by omega)]
          · rw [if_neg h2, if_neg (by omega)]
end Go.Proofs.YthbidebcljegjaaDoor

/- 'DoorWHT' and 'impl.InverseSecond': the walks. -/
import Derived.Test.YthbidebcljegjaaDoorSixteen
import Derived.Test.YthbidebcljegjaaDoorWht
import Derived.Deep.RegionLaw
namespace Go.Proofs.YthbidebcljegjaaDoor
set_option linter.unusedSimpArgs false
set_option linter.unusedVariables false
open Go.RowKit Plain

theorem oW_bd (m : Nat → Int) (hm : ∀ j, -8192 ≤ m j ∧ m j ≤ 8192) (j : Nat) : -4096 ≤ oW m j ∧ oW m j ≤ 4096 := by
  have h0 := hm (4 * (j / 4))
  have h1 := hm (4 * (j / 4) + 1)
  have h2 := hm (4 * (j / 4) + 2)
  have h3 := hm (4 * (j / 4) + 3)
  unfold oW
  split
  · omega
  · split
    · omega
    · split <;> omega
theorem rowF_oneL (k : IntKind) (F : Nat → Int) (n : Nat) : ∀ v ∈ (rowF k F n).toList, v.oneCell' = true := by
  intro v hv
  unfold rowF at hv
  simp at hv
  obtain ⟨_, _, rfl⟩ := hv
  rfl

set_option maxRecDepth 100000 in
set_option maxHeartbeats 4000000 in
theorem doorWHT_any (x : Nat → Int) (w : World) (hx : ∀ j, -2048 ≤ x j ∧ x j ≤ 2048) :
    Calls Tryd.prog 39 #[.agg (rowF .i16 x 16)] w fun e w' => e = .returned (.agg (rowF .i16 (oW (mW x)) 16)) ∧ Below w.heap.size w w' := by
  have hsz : (rowF .i16 x 16).size = 16 := rowF_size _ _ _
  have hszL : (rowF .i16 x 16).toList.length = 16 := by rw [Array.length_toList]; exact hsz
  have h1 := rowF_one .i16 x 16
  have h1L := rowF_oneL .i16 x 16
  have hget := fun i (h : i < 16) => rowF_get .i16 x 16 i h
  have hbx : Blk (w.alloc (.cells (rowF .i16 x 16) 69)) w.heap.size 69 (rowF .i16 x 16) := Blk.new w _ _
  have hrng := hbx.range
  have b1 : Blk ((w.alloc (.cells (rowF .i16 x 16) 69)).alloc (.cells (rowF .i16 (fun _ => 0) 16) 69)) (w.heap.size + 1) 69 (rowF .i16 (fun _ => 0) 16) := by
    have h := Blk.new (w.alloc (.cells (rowF .i16 x 16) 69)) 69 (rowF .i16 (fun _ => 0) 16)
    rw [World.size_alloc] at h
    exact h
  have b2 : Blk (((w.alloc (.cells (rowF .i16 x 16) 69)).alloc (.cells (rowF .i16 (fun _ => 0) 16) 69)).alloc (.cells Tryd.zeroCells126 126)) (w.heap.size + 2) 126 Tryd.zeroCells126 := by
    have h := Blk.new ((w.alloc (.cells (rowF .i16 x 16) 69)).alloc (.cells (rowF .i16 (fun _ => 0) 16) 69)) 126 Tryd.zeroCells126
    rw [World.size_alloc, World.size_alloc] at h
    exact h
  have b1' := hide (b1.alloc (.cells Tryd.zeroCells126 126))
  have hb := hide ((((Below.refl _ w).alloc (Nat.le_refl _) (.cells (rowF .i16 x 16) 69)).alloc (by simp) (.cells (rowF .i16 (fun _ => 0) 16) 69)).alloc (by simp; omega) (.cells Tryd.zeroCells126 126))
  have hsrc : ∀ j v, (rowF .i16 x 16).toList[j]? = some v → (((w.alloc (.cells (rowF .i16 x 16) 69)).alloc (.cells (rowF .i16 (fun _ => 0) 16) 69)).alloc (.cells Tryd.zeroCells126 126)).cell? ((⟨w.heap.size, 0, none⟩ : Addr).add j) = some v := by
    intro j v hv
    rw [Addr.add_lit, Nat.zero_add, ((hbx.alloc _).alloc _).cell j]
    simpa using hv
  have hzs := dz_size
  have hzL : Tryd.zeroCells126.toList.length = 2482 := by rw [Array.length_toList]; exact hzs
  have hin := splice_in Tryd.zeroCells126.toList 1634 (rowF .i16 x 16).toList (by rw [hzL, hszL]; decide)
  have hsl : (splice Tryd.zeroCells126.toList 1634 (rowF .i16 x 16).toList).length = 2482 := by rw [length_splice _ _ _ (by rw [hzL, hszL]; decide)]; exact hzL
  have hcf : ∀ j, j < 16 → (splice Tryd.zeroCells126.toList 1634 (rowF .i16 x 16).toList).toArray[1634 + j]? = some (.int .i16 (x j)) := by
    intro j hj
    rw [List.getElem?_toArray, hin j (by rw [hszL]; exact hj), Array.getElem?_toList]
    exact hget j hj
  have hb0 := hide (below_drewN' (Below.refl (w.heap.size + 2) (((w.alloc (.cells (rowF .i16 x 16) 69)).alloc (.cells (rowF .i16 (fun _ => 0) 16) 69)).alloc (.cells Tryd.zeroCells126 126))) 1)
  clear hin hget hrng hbx b1
  replace hsrc := hide hsrc
  replace hcf := hide hcf
  replace h1L := hide h1L
  replace hzL := hide hzL
  replace hszL := hide hszL
  replace hsl := hide hsl
  replace b2 := hide b2
  generalize hSP : splice Tryd.zeroCells126.toList 1634 (rowF .i16 x 16).toList = SP at *
  replace hSP := hide hSP
  clear hzs
  go_enter Tryd.func39, Tryd.ntmps39
  go_wp2_with fail
  go_region_law (refine step_copy (.tmp 10) (.tmp 11) 127 127 68 Tryd.underlying127 size_i16 (w.heap.size + 2) 1634 16 16 ⟨w.heap.size, 0, none⟩ 16 16 Tryd.zeroCells126.toList 126 (rowF .i16 x 16).toList (by rw [hszL.out]; rfl) (by rw [hzL.out, hszL.out]; decide) h1L.out (w.heap.size + 2) (((w.alloc (.cells (rowF .i16 x 16) 69)).alloc (.cells (rowF .i16 (fun _ => 0) 16) 69)).alloc (.cells Tryd.zeroCells126 126)) (Nat.le_refl _) ?_; refine ⟨⟨rfl, rfl, rfl, rfl, b2.out, hsrc.out, hb0.out⟩, ?_⟩; intro w2 hB2 hb2)
  have hR2 := hide (b1'.out.below hb2 (by omega))
  have hb3 := hide (hb.out.trans (hb2.mono (by omega)))
  rw [hSP.out] at hB2
  have cW := hide (wht_any (w.heap.size + 2) x SP.toArray w2 hx hB2 (by rw [List.size_toArray]; exact hsl.out) hcf.out)
  have hob := oW_bd (mW x) (mW_bd x hx)
  replace hob := hide hob
  clear hB2 hb2 hb0 b1' hb hcf hsl hSP hszL hzL hsrc b2 h1L hsz h1
  go_wp2_with fail
  (with_reducible refine (cW.out).mono ?_)
  rintro e w3 ⟨rfl, hU, cur, hC, hCs, hCo⟩
  have hsz2 := hb3.out.size
  have hR3 := hide (hR2.out.upd hU (by simp))
  have hb4 := hide (hb3.out.trans (hU.below (by simp) hsz2))
  replace hC := hide hC
  replace hCo := hide hCo
  clear hR2 hb3 hU cW
  go_wp2_with fail
  go_loopg [15] 16 (fun k u15 wr => ∃ m : Nat, k + m = 16 ∧ u15 = .int .i64 m ∧ Blk wr (w.heap.size + 1) 69 (rowF .i16 (fun j => if j < m then oW (mW x) j else 0) 16) ∧ Blk wr (w.heap.size + 2) 126 cur ∧ Below w.heap.size w wr)
  case atStart =>
    refine ⟨0, rfl, rfl, ?_, hC.out, hb4.out⟩
    refine Blk.to hR3.out rfl (rowF_congr .i16 16 (fun i _ => if_neg (by omega)))
  case round =>
    obtain ⟨m, hm, rfl, hO, hD, hbel⟩ := hrel
    clear hR3 hb4 hC
    cases gk with
    | zero =>
      have hm' : m = 16 := by omega
      subst hm'
      rw [rowF_congr .i16 (G := oW (mW x)) 16 (fun i hi => if_pos hi)] at hO
      have hs2 : (rowF .i16 (oW (mW x)) 16).size = 16 := rowF_size _ _ _
      have h2 := rowF_one .i16 (oW (mW x)) 16
      have hrng := hide hO.range
      have hT := hide (hO.there 16 (by rw [rowF_size]; exact Nat.le_refl _))
      generalize hXS : rowF .i16 (oW (mW x)) 16 = XS at *
      replace hXS := hide hXS
      replace hbel := hide hbel
      clear hO hD
      go_wp2_with (first | (refine wpList_load_mid rfl 69 (.tmp 2) rfl (w.heap.size + 1) 0 rfl XS.toList _ hrng.out Tryd.underlying69 rfl (by rw [Array.length_toList, hs2]; exact size_16i16) ?_) | (refine wpList_store_mid rfl 69 (.tmp 2) (.tmp 28) rfl (w.heap.size + 1) 0 XS.toList.toArray rfl rfl (by rw [Array.toArray_toList, hs2]; exact hT.out) (by rw [Array.toArray_toList, hs2]; exact size_16i16) (by rw [Array.toArray_toList]; exact h2) ?_) | fail)
      have hrr : (loadVar 69 ⟨w.heap.size + 1, 0, none⟩).run Tryd.prog (wr.setCells (w.heap.size + 1) 0 XS.toList) = .ok (.agg XS) (wr.setCells (w.heap.size + 1) 0 XS.toList) := by
        have h9 := run_loadVar_mid (P := Tryd.prog) _ (w.heap.size + 1) 0 69 XS.toList _ (World.rangeAt_setCells_same wr (w.heap.size + 1) 0 XS.toList (by rw [Array.length_toList, hs2]; exact hT.out)) Tryd.underlying69 rfl (by rw [Array.length_toList, hs2]; exact size_16i16)
        rw [Array.toArray_toList] at h9
        exact h9
      refine bodyPost_ret (ret_cell rfl rfl hrr) rfl ⟨by rw [hXS.out], below_setCells (by omega) _ _ hbel.out⟩
    | succ k =>
      have hmi : (m : Int) < 16 := by omega
      have hm0 : (0 : Int) ≤ (m : Int) := by omega
      have hcell := (hD.cell (1250 + 16 * m)).trans (hCo.out m (by omega))
      have hxb := hob.out m
      have ho := Blk.rowCell hO m (by omega)
      have hfz := Blk.frozen hO m
      have ht : (16 * (m : Int)).toNat = 16 * m := by omega
      generalize hxm : oW (mW x) m = y at *
      replace hxm := hide hxm
      replace hO := hide hO
      replace hD := hide hD
      replace hbel := hide hbel
      go_wp2
      go_roundg k
      case measure => omega
      case rel =>
        refine ⟨m + 1, by omega, by go_num, ?_, hD.out.far (by simp) _, hbel.out.setCell (by simp) _⟩
        refine Blk.rowSet hO.out m _ ?_
        intro i hi
        by_cases h : i = m
        · subst h; rw [if_pos (by omega), if_pos rfl, hxm.out]
        · rw [if_neg h]
          by_cases h2 : i < m
          · rw [if_pos h2, if_pos (by omega)]
          · rw [if_neg h2, if_neg (by omega)]
end Go.Proofs.YthbidebcljegjaaDoor

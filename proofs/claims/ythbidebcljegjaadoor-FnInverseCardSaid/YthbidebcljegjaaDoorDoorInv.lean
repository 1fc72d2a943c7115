/- 'DoorInverse4' and 'impl.Inverse': the walks. -/
import Derived.Test.YthbidebcljegjaaDoorDct
import Derived.Test.YthbidebcljegjaaDoorValues
import Derived.Test.YthbidebcljegjaaDoorWhtDoor
namespace Go.Proofs.YthbidebcljegjaaDoor
set_option linter.unusedSimpArgs false
set_option linter.unusedVariables false
open Go.RowKit Plain

set_option maxRecDepth 100000 in
set_option maxHeartbeats 4000000 in
theorem doorInv_any (x : Nat → Int) (A : Option Addr) (c B : Nat) (v : List Int) (w : World) (hl : v.length = 16) (hx : ∀ j, -25079 ≤ x j ∧ x j ≤ 25079) (ht : ∀ j, -25079 ≤ pT x j ∧ pT x j ≤ 25079) (hv : ∀ j, 0 ≤ v.getD j 0 ∧ v.getD j 0 ≤ 255) (hB : B ≤ w.heap.size) (hcap : 16 ≤ c) (hr : Rd .u8 w B A v) :
    Calls Tryd.prog 47 #[.agg (rowF .i16 x 16), .slice A 16 c] w fun e w' => ∃ s, e = .returned s ∧ w'.ownsRow w.heap.size 5 1 s 16 ((rowL (ivF x (fun j => v.getD j 0)) 16).map (Value.int .u8)) ∧ Below w.heap.size w w' := by
  have hsz : (rowF .i16 x 16).size = 16 := rowF_size _ _ _
  have hszL : (rowF .i16 x 16).toList.length = 16 := by rw [Array.length_toList]; exact hsz
  have h1L := rowF_oneL .i16 x 16
  have hget := fun i (h : i < 16) => rowF_get .i16 x 16 i h
  obtain ⟨w2, hw2⟩ : ∃ w2, w2 = (w.alloc (.cells (rowF .i16 x 16) 69)).alloc (.cells #[.int .u8 0, .int .u8 0, .int .u8 0, .int .u8 0] 5) := ⟨_, rfl⟩
  have hs2 : w2.heap.size = w.heap.size + 2 := by rw [hw2]; simp
  have hb2 : Below w.heap.size w w2 := by rw [hw2]; exact ((Below.refl w.heap.size w).alloc (Nat.le_refl _) _).alloc (by simp) _
  have hX2 : Blk w2 w.heap.size 69 (rowF .i16 x 16) := by rw [hw2]; exact (Blk.new w 69 (rowF .i16 x 16)).alloc _
  have hL2 : Blk w2 (w.heap.size + 1) 5 #[.int .u8 0, .int .u8 0, .int .u8 0, .int .u8 0] := by
    rw [hw2]
    have h := Blk.new (w.alloc (.cells (rowF .i16 x 16) 69)) 5 #[.int .u8 0, .int .u8 0, .int .u8 0, .int .u8 0]
    rwa [World.size_alloc] at h
  have hr2 : Rd .u8 w2 B A v := hr.keep fun p hp => hb2.cell (by omega)
  have hlc : ∀ j, j < 4 → w2.cell? ⟨w.heap.size + 1, j, none⟩ = some (.int .u8 0) := by
    intro j hj
    rw [hL2.cell j]
    rcases (show j = 0 ∨ j = 1 ∨ j = 2 ∨ j = 3 by omega) with rfl | rfl | rfl | rfl <;> rfl
  have cS := square_any A c B (w.heap.size + 1) v w2 hl (by omega) hr2 (by omega) hcap hlc
  rw [hs2] at cS
  have cD := fun (cur : Array Value) (w4 : World) => dct_any (w.heap.size + 2) x (fun j => v.getD j 0) cur w4 hx ht hv
  have cV := fun (cur : Array Value) (w5 : World) => values_any (w.heap.size + 2) (ivF x (fun j => v.getD j 0)) cur w5
  clear hr hr2 hlc hL2 hx ht hv
  replace cS := hide cS
  replace cD := hide cD
  replace cV := hide cV
  replace hb2 := hide hb2
  replace hX2 := hide hX2
  replace hs2 := hide hs2
  replace hszL := hide hszL
  replace h1L := hide h1L
  replace hget := hide hget
  have hmk : ∀ W : World, (Instr.makeSlice 33 (.int .i64 4) (.int .i64 4)).run Tryd.prog W = .ok (.slice (some ⟨W.heap.size, 0, none⟩) 4 4) (W.alloc (.cells #[.int .u8 0, .int .u8 0, .int .u8 0, .int .u8 0] 5)) := fun _ => by kernel_rfl
  go_enter Tryd.func47, Tryd.ntmps47
  go_wp2_with fail
  rw [← hw2]
  clear hw2
  (with_reducible refine (cS.out).mono ?_)
  rintro e w3 ⟨cur, rfl, hC, hCs, hCv, hb3⟩
  have hX3 := hide (hX2.out.below hb3 (by omega))
  have hszE := hide hb3.size
  have hb3' := hide (hb2.out.trans (hb3.mono (by omega)))
  clear cS hX2 hb2 hb3
  have hCL : cur.toList.length = 2482 := by rw [Array.length_toList]; exact hCs
  have hC' : Blk w3 (w.heap.size + 2) 126 cur.toList.toArray := by rw [Array.toArray_toList]; exact hC
  have hsrc : ∀ j v, (rowF .i16 x 16).toList[j]? = some v → w3.cell? ((⟨w.heap.size, 0, none⟩ : Addr).add j) = some v := by
    intro j v hv
    rw [Addr.add_lit, Nat.zero_add, hX3.out.cell j]
    simpa using hv
  have hin := splice_in cur.toList 1250 (rowF .i16 x 16).toList (by rw [hCL, hszL.out]; decide)
  have hout := splice_out cur.toList 1250 (rowF .i16 x 16).toList (by rw [hCL, hszL.out]; decide)
  have hsl : (splice cur.toList 1250 (rowF .i16 x 16).toList).length = 2482 := by rw [length_splice _ _ _ (by rw [hCL, hszL.out]; decide)]; exact hCL
  have hcf : ∀ j, j < 16 → (splice cur.toList 1250 (rowF .i16 x 16).toList).toArray[1250 + j]? = some (.int .i16 (x j)) := by
    intro j hj
    rw [List.getElem?_toArray, hin j (by rw [hszL.out]; exact hj), Array.getElem?_toList]
    exact hget.out j hj
  have hyf : ∀ j k, j < 4 → k < 4 → (splice cur.toList 1250 (rowF .i16 x 16).toList).toArray[1650 + (32 * (1 + j) + (8 + k))]? = some (.int .u8 (v.getD (4 * j + k) 0)) := by
    intro j k hj hk
    rw [List.getElem?_toArray, hout _ (by right; rw [hszL.out]; omega), Array.getElem?_toList]
    exact hCv j k hj hk
  have hb0 := hide (Below.refl (w.heap.size + 2) w3)
  replace hsrc := hide hsrc
  replace hcf := hide hcf
  replace hyf := hide hyf
  replace hCL := hide hCL
  replace hsl := hide hsl
  replace hC' := hide hC'
  clear hin hout hC hCv hCs hX3 hget hsz
  generalize hSP : splice cur.toList 1250 (rowF .i16 x 16).toList = SP at *
  replace hSP := hide hSP
  go_wp2_with fail
  go_region_law (refine step_copy (.tmp 12) (.tmp 13) 127 127 68 Tryd.underlying127 size_i16 (w.heap.size + 2) 1250 400 400 ⟨w.heap.size, 0, none⟩ 16 16 cur.toList 126 (rowF .i16 x 16).toList (by rw [hszL.out]; rfl) (by rw [hCL.out, hszL.out]; decide) h1L.out (w.heap.size + 2) w3 (Nat.le_refl _) ?_; refine ⟨⟨rfl, rfl, rfl, rfl, hC'.out, hsrc.out, by exact (below_drewN' hb0.out _)⟩, ?_⟩; intro w4 hB4 hb4)
  rw [hSP.out] at hB4
  have cD4 := hide (cD.out SP.toArray w4 hB4 (by rw [List.size_toArray]; exact hsl.out) hcf.out hyf.out)
  have hb4' := hide (hb3'.out.trans (hb4.mono (by omega)))
  clear hB4 hb4 hb0 hsrc hcf hyf hCL hsl hC' hSP hszL h1L cD hb3'
  go_wp2_with fail
  (with_reducible refine (cD4.out).mono ?_)
  rintro e w5 ⟨rfl, hU, cur', hC5, hC5s, hC5v⟩
  have hsz5 := hb4'.out.size
  have hb5 := hide (hb4'.out.trans (hU.below (by simp) hsz5))
  have cV5 := hide (cV.out cur' w5 hC5 hC5s hC5v)
  clear hU hC5 hC5v cV cD4 hb4'
  go_wp2_with fail
  (with_reducible refine (cV5.out).mono ?_)
  rintro e w6 ⟨s, rfl, ho, hb6⟩
  replace ho := hide ho
  replace hb6 := hide hb6
  go_wp2_with fail
  go_ret
  exact ⟨s, rfl, own_down ho.out hb5.out.size, hb5.out.trans (hb6.out.mono hb5.out.size)⟩

set_option maxRecDepth 100000 in
set_option maxHeartbeats 4000000 in
theorem implInv_any (x : Nat → Int) (A : Option Addr) (c B : Nat) (v : List Int) (w : World) (hl : v.length = 16) (hx : ∀ j, -25079 ≤ x j ∧ x j ≤ 25079) (ht : ∀ j, -25079 ≤ pT x j ∧ pT x j ≤ 25079) (hv : ∀ j, 0 ≤ v.getD j 0 ∧ v.getD j 0 ≤ 255) (hB : B ≤ w.heap.size) (hcap : 16 ≤ c) (hr : Rd .u8 w B A v) :
    Calls Tryd.prog 29 #[.agg (rowF .i64 x 16), .slice A 16 c] w fun e w' => ∃ s, e = .returned s ∧ w'.ownsRow w.heap.size 5 1 s 16 ((rowL (ivF x (fun j => v.getD j 0)) 16).map (Value.int .u8)) ∧ Below w.heap.size w w' := by
  have hsz : (rowF .i64 x 16).size = 16 := rowF_size _ _ _
  have c16 := fun w1 => sixteen_any x w1 (fun j => by have := hx j; omega)
  have cD := fun (w1 : World) hB1 hr1 => doorInv_any x A c B v w1 hl hx ht hv hB1 hcap hr1
  have hb1 := hide ((Below.refl _ w).alloc (Nat.le_refl _) (.cells (rowF .i64 x 16) 37))
  have hbx := hide (Blk.new w 37 (rowF .i64 x 16)).range
  replace c16 := hide c16
  replace cD := hide cD
  replace hr := hide hr
  clear hx ht hv
  go_enter Tryd.func29, Tryd.ntmps29
  go_wp2_with (first | (refine wpList_load_mid rfl 37 (.tmp 2) rfl w.heap.size 0 rfl (rowF .i64 x 16).toList _ hbx.out Tryd.underlying37 rfl (by rw [Array.length_toList, hsz]; exact size_16int) ?_) | (go_at_call 40; (with_reducible refine (c16.out _).mono ?_); rintro e w2 ⟨rfl, hb2⟩; replace hb2 := hide hb2) | fail)
  have hb3 := hide (hb1.out.trans (hb2.out.mono hb1.out.size))
  have hs3 := hb3.out.size
  have hr3 := hide (hr.out.keep (w' := w2) fun p hp => hb3.out.cell (by omega))
  clear hb1 hb2 hr
  (with_reducible refine (cD.out _ (by omega) hr3.out).mono ?_)
  rintro e w4 ⟨s, rfl, ho, hb4⟩
  replace ho := hide ho
  replace hb4 := hide hb4
  go_wp2_with fail
  go_ret
  exact ⟨s, rfl, own_down ho.out hs3, hb3.out.trans (hb4.out.mono hs3)⟩
end Go.Proofs.YthbidebcljegjaaDoor

/- 'square' of the doors at 8: the walk. -/
import Derived.Test.YtleiehiabcgalaaDoorRows2
import Derived.Test.YtleiehiabcgalaaDoorDec
import Derived.Test.YtleiehiabcgalaaDoorRowf
import Derived.Deep.RegionHeld3
import Derived.Laws.CopyOwn
import Derived.BigRegion
namespace Go.Proofs.YtleiehiabcgalaaDoor
set_option linter.unusedSimpArgs false
set_option linter.unusedVariables false
open Go.RowKit Plain

theorem size_u8q8 : (Tryd.prog.info? 5).map (·.size) = some 1 := by kernel_rfl
/-- What stands around a square of 8: the corner, the row above, the column at the left (so many of it). -/
structure Sq8 (cur : Array Value) (cv : Int) (va vl : List Int) (na nl : Nat) : Prop where
  size : cur.size = 2482
  corner : cur[1657]? = some (.int .u8 cv)
  above : ∀ i, i < na → cur[1658 + i]? = some (.int .u8 (va.getD i 0))
  left : ∀ j, j < nl → cur[1650 + (1 + j) * 32 + 7]? = some (.int .u8 (vl.getD j 0))

set_option maxRecDepth 100000 in
set_option maxHeartbeats 4000000 in
theorem square8_any (Aa Al : Option Addr) (ca cl B ib na : Nat) (cv : Int) (va vl : List Int) (w : World) (hna : na ≤ 24) (hla : va.length = na) (hll : vl.length = 8) (hB : B ≤ w.heap.size) (hra : Rd .u8 w B Aa va) (hrl : Rd .u8 w B Al vl) (hib : ib < w.heap.size) (hin : ∀ j, j < 64 → w.cell? ⟨ib, j, none⟩ = some (.int .u8 0)) :
    Calls Tryd.prog 25 #[.int .i64 8, .int .u8 cv, .slice Aa na ca, .slice Al 8 cl, .slice (some ⟨ib, 0, none⟩) 64 64] w fun e w' => ∃ cur, e = .returned (.pointer (some ⟨w.heap.size, 0, none⟩)) ∧ Blk w' w.heap.size 100 cur ∧ Sq8 cur cv va vl na 8 ∧ Below w.heap.size w w' := by
  have hZ := Blk.new w 100 Tryd.zeroCells100
  have z1 := (hZ.cell 1657).trans (dz_ybr 7 (by decide))
  have z2 := hZ.frozen 1657
  have hb0 := (Below.refl _ w).alloc (Nat.le_refl _) (.cells Tryd.zeroCells100 100)
  have hC1 : Blk (w.alloc (.cells (Tryd.zeroCells100.setIfInBounds 1657 (.int .u8 cv)) 100)) w.heap.size 100 (Tryd.zeroCells100.setIfInBounds 1657 (.int .u8 cv)).toList.toArray := by rw [Array.toArray_toList]; exact Blk.new w _ _
  have hb1 := (Below.refl _ w).alloc (Nat.le_refl _) (.cells (Tryd.zeroCells100.setIfInBounds 1657 (.int .u8 cv)) 100)
  have hCs : (Tryd.zeroCells100.setIfInBounds 1657 (.int .u8 cv)).toList.length = 2482 := by rw [Array.length_toList, Array.size_setIfInBounds]; exact dz_size
  have hcv : (Tryd.zeroCells100.setIfInBounds 1657 (.int .u8 cv)).toList[1657]? = some (.int .u8 cv) := by rw [Array.getElem?_toList]; exact set_eq _ _ _ _ (by rw [dz_size]; decide) rfl
  have hsrc : 0 < (va.map (Value.int .u8)).length → ∃ ad, Aa = some ad ∧ ∀ j v, (va.map (Value.int .u8))[j]? = some v → (w.alloc (.cells (Tryd.zeroCells100.setIfInBounds 1657 (.int .u8 cv)) 100)).cell? (ad.add j) = some v := by
    intro hp
    have hp' : 0 < va.length := by simpa using hp
    obtain ⟨b, off, rfl, hb, hc⟩ := hra.at_ hp'
    refine ⟨_, rfl, fun j v hv => ?_⟩
    have hj : j < va.length := by
      have := (List.getElem?_eq_some_iff.1 hv).1
      simpa using this
    rw [Addr.add_lit, hb1.cell (p := ⟨b, off + j, none⟩) (by show b < _; omega), hc j hj, ← hv]
    simp [hj]
  have hla' : (va.map (Value.int .u8)).length = Nat.min na 24 := by rw [List.length_map, hla]; exact (Nat.min_eq_left hna).symm
  have hone : ∀ u ∈ va.map (Value.int .u8), u.oneCell' = true := by
    intro u hu
    obtain ⟨z, _, rfl⟩ := List.mem_map.1 hu
    rfl
  have hlen : (va.map (Value.int .u8)).length = na := by rw [List.length_map]; exact hla
  have hspl : ∀ S : List Value, S = splice (Tryd.zeroCells100.setIfInBounds 1657 (.int .u8 cv)).toList 1658 (va.map (Value.int .u8)) → Sq8 S.toArray cv va vl na 0 := by
    rintro S rfl
    refine ⟨?_, ?_, fun i hi => ?_, fun j hj => absurd hj (by omega)⟩
    · rw [List.size_toArray, length_splice _ _ _ (by rw [hCs, hlen]; omega)]; exact hCs
    · rw [List.getElem?_toArray, splice_out _ _ _ (by rw [hCs, hlen]; omega) _ (.inl (by decide))]; exact hcv
    · rw [List.getElem?_toArray, splice_in _ _ _ (by rw [hCs, hlen]; omega) i (by rw [hlen]; exact hi)]
      have : i < va.length := by omega
      simp [this]
  generalize (Tryd.zeroCells100.setIfInBounds 1657 (.int .u8 cv)).toList = CL at *
  replace hC1 := hide hC1
  replace hb1 := hide hb1
  replace hCs := hide hCs
  replace hsrc := hide hsrc
  replace hla' := hide hla'
  replace hone := hide hone
  replace hlen := hide hlen
  replace hspl := hide hspl
  replace hrl := hide hrl
  replace hin := hide hin
  clear hZ hb0 hcv hra
  go_enter Tryd.func25, Tryd.ntmps25
  go_wp2_with (first | (refine wpList_copy_splice rfl (.tmp 25) (.tmp 26) 22 22 rfl 5 Tryd.underlying22 size_u8q8 _ Aa 24 24 na ca rfl rfl w.heap.size 1658 CL 100 hC1.out (va.map (Value.int .u8)) hla'.out (fun h => ⟨rfl, hsrc.out h⟩) (by rw [hCs.out, hlen.out]; omega) hone.out w.heap.size w hb1.out (Nat.le_refl _) ?_; intro w2 hB2 hb2; replace hb2 := hide hb2) | fail)
  have hS2 := hide (hspl.out _ rfl)
  generalize splice CL 1658 (va.map (Value.int .u8)) = CS at *
  clear z1 z2 hC1 hb1 hCs hsrc hla' hone hlen hspl
  go_loopg [12] 8 (fun k u12 wr => ∃ j cur, k + j = 8 ∧ u12 = .int .i64 (j : Nat) ∧ Blk wr w.heap.size 100 cur ∧ Sq8 cur cv va vl na j ∧ Below w.heap.size w wr)
  case atStart => exact ⟨0, CS.toArray, rfl, rfl, hB2.out, hS2.out, hb2.out⟩
  case round =>
    obtain ⟨j, cur, hj, rfl, hC, hS, hbel⟩ := hrel
    clear hB2 hS2 hb2
    cases gk with
    | zero =>
      have hj4 : j = 8 := by omega
      subst hj4
      replace hC := hide hC
      replace hS := hide hS
      replace hbel := hide hbel
      go_wp2
      go_ret
      exact ⟨rfl, cur, hC.out, hS.out, hbel.out⟩
    | succ k =>
      have hj4 : j < 8 := by omega
      have hjj : (j : Int) < 8 := by omega
      have hj0 : (0 : Int) ≤ (j : Int) := by omega
      obtain ⟨lb, lo, rfl, hlb, hlc⟩ := hrl.out.at_ (j := j) (by omega)
      have k0 := (hbel.cell (p := ⟨lb, lo + j, none⟩) (by show lb < _; omega)).trans (hlc j (by omega))
      have hCs := hS.size
      obtain ⟨e1, h1⟩ : ∃ e, wr.cell? ⟨w.heap.size, 1650 + (1 + j) * 32 + 7, none⟩ = some e := ⟨_, (hC.cell _).trans (Array.getElem?_eq_getElem (by omega))⟩
      have f1 := hC.frozen (1650 + (1 + j) * 32 + 7)
      have WJ : IntKind.i64.wrap (1 + (j : Int)) = 1 + (j : Int) := IntWalk.i64_in _ (by omega)
      have TJ : (1 + (j : Int)).toNat = 1 + j := by omega
      have LJ : 1 + (j : Int) < 26 := by omega
      have PJ : (0 : Int) ≤ 1 + (j : Int) := by omega
      have hne : ¬ lb = w.heap.size := by omega
      generalize hq : vl.getD j 0 = q at *
      replace hq := hide hq
      replace hC := hide hC
      replace hS := hide hS
      replace hbel := hide hbel
      clear hlc
      go_wp2
      go_region
      have hibn : ib ≠ w.heap.size := by omega
      have hCs' : (cur.setIfInBounds (1650 + (1 + j) * 32 + 7) (.int .u8 q)).toList.length = 2482 := by rw [Array.length_toList, Array.size_setIfInBounds]; exact hCs
      have hC' : Hid (Blk (wr.setCell ⟨w.heap.size, 1650 + (1 + j) * 32 + 7, none⟩ (.int .u8 q)) w.heap.size 100 (cur.setIfInBounds (1650 + (1 + j) * 32 + 7) (.int .u8 q)).toList.toArray) := hide (by rw [Array.toArray_toList]; exact hC.out.set_ _ _)
      have hsrc : Hid (∀ i val, (List.replicate 8 (Value.int .u8 0))[i]? = some val → (wr.setCell ⟨w.heap.size, 1650 + (1 + j) * 32 + 7, none⟩ (.int .u8 q)).cell? ((⟨ib, 8 * j, none⟩ : Addr).add i) = some val) := by
        refine hide ?_
        intro i val hi
        have hi4 : i < 8 := by
          have := (List.getElem?_eq_some_iff.1 hi).1
          simpa using this
        rw [Addr.add_lit, World.cell?_of_block (Below.heap_setCell wr ⟨w.heap.size, 1650 + (1 + j) * 32 + 7, none⟩ (.int .u8 q) ib hibn), World.cell?_of_block (hbel.out.block ib hib), hin.out (8 * j + i) (by omega)]
        rw [List.getElem?_replicate, if_pos hi4] at hi
        exact hi
      have hone : ∀ u ∈ List.replicate 8 (Value.int .u8 0), u.oneCell' = true := by
        intro u hu
        rw [(List.mem_replicate.1 hu).2]
        rfl
      have hb1 := hide (hbel.out.setCell (p := ⟨w.heap.size, 1650 + (1 + j) * 32 + 7, none⟩) (Nat.le_refl _) (.int .u8 q))
      have hln : (List.replicate 8 (Value.int .u8 0)).length = 8 := List.length_replicate
      have hout := splice_out (cur.setIfInBounds (1650 + (1 + j) * 32 + 7) (.int .u8 q)).toList (1650 + (1 + j) * 32 + 8) (List.replicate 8 (Value.int .u8 0)) (by rw [hCs', hln]; omega)
      have hsl : (splice (cur.setIfInBounds (1650 + (1 + j) * 32 + 7) (.int .u8 q)).toList (1650 + (1 + j) * 32 + 8) (List.replicate 8 (Value.int .u8 0))).length = 2482 := by rw [length_splice _ _ _ (by rw [hCs', hln]; omega)]; exact hCs'
      have hnew : Sq8 (splice (cur.setIfInBounds (1650 + (1 + j) * 32 + 7) (.int .u8 q)).toList (1650 + (1 + j) * 32 + 8) (List.replicate 8 (Value.int .u8 0))).toArray cv va vl na (j + 1) := by
        refine ⟨by rw [List.size_toArray]; exact hsl, ?_, fun i hi => ?_, fun a ha => ?_⟩
        · rw [List.getElem?_toArray, hout _ (.inl (by omega)), Array.getElem?_toList, set_ne _ _ _ _ (by omega)]
          exact hS.out.corner
        · rw [List.getElem?_toArray, hout _ (.inl (by omega)), Array.getElem?_toList, set_ne _ _ _ _ (by omega)]
          exact hS.out.above i hi
        · rw [List.getElem?_toArray, hout _ (.inl (by omega)), Array.getElem?_toList]
          by_cases e : a = j
          · subst e
            rw [set_eq _ _ _ _ (by omega) rfl, hq.out]
          · rw [set_ne _ _ _ _ (by omega)]
            exact hS.out.left a (by omega)
      have W4 : IntKind.i64.wrap (8 * (j : Int)) = 8 * (j : Int) := IntWalk.i64_in _ (by omega)
      have W44 : IntKind.i64.wrap (8 * (j : Int) + 8) = 8 * (j : Int) + 8 := IntWalk.i64_in _ (by omega)
      have W12 : IntKind.i64.wrap 16 = 16 := rfl
      have hcn : ¬ 64 = 8 * j := by omega
      have s1 : (0 : Int) ≤ 8 * (j : Int) := by omega
      have s2 : (0 : Int) ≤ 8 * (j : Int) + 8 := by omega
      have s3 : 8 * (j : Int) + 8 ≤ 64 := by omega
      have s4 : 8 * (j : Int) ≤ 8 * (j : Int) + 8 := by omega
      have t4 : (8 * (j : Int)).toNat = 8 * j := by omega
      have t44 : (8 * (j : Int) + 8).toNat = 8 * j + 8 := by omega
      generalize (cur.setIfInBounds (1650 + (1 + j) * 32 + 7) (.int .u8 q)).toList = CL at *
      replace hsl := hide hsl
      replace hnew := hide hnew
      replace hln := hide hln
      replace hCs' := hide hCs'
      replace hone := hide hone
      clear k0 h1 f1 hout
      go_wp2
      go_region_held3 (fun _ => True) (trivial) (first | (refine step_copy (.tmp 52) (.tmp 62) 22 22 5 Tryd.underlying22 size_u8q8 w.heap.size (1650 + (1 + j) * 32 + 8) 8 24 ⟨ib, 8 * j, none⟩ 8 (64 - 8 * j) CL 100 (List.replicate 8 (Value.int .u8 0)) (by rw [hln.out]; rfl) (by rw [hCs'.out, hln.out]; omega) hone.out w.heap.size w (Nat.le_refl _) ?_; refine ⟨⟨rfl, rfl, rfl, rfl, hC'.out, hsrc.out, (hb1.out.drew).drew⟩, ?_⟩; intro w2 hB2 hb2))
      go_wp2
      go_roundg k
      case measure => omega
      case rel => exact ⟨j + 1, _, by omega, by go_num, hB2, hnew.out, hb2⟩
end Go.Proofs.YtleiehiabcgalaaDoor

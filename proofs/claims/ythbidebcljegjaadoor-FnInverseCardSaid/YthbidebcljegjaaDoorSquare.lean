/- 'square' and 'values' of the doors: the walks. -/
import Derived.Test.YthbidebcljegjaaDoorSpecInv
import Derived.Deep.RegionLaw
import Derived.Laws.CopyOwn
namespace Go.Proofs.YthbidebcljegjaaDoor
set_option linter.unusedSimpArgs false
set_option linter.unusedVariables false
open Go.RowKit Plain

theorem size_u8 : (Tryd.prog.info? 5).map (·.size) = some 1 := by kernel_rfl

set_option maxRecDepth 100000 in
set_option maxHeartbeats 2000000 in
theorem square_any (A : Option Addr) (c B lb : Nat) (v : List Int) (w : World) (hl : v.length = 16) (hB : B ≤ w.heap.size) (hr : Rd .u8 w B A v) (hlb : lb < w.heap.size) (hcap : 16 ≤ c) (hlc : ∀ j, j < 4 → w.cell? ⟨lb, j, none⟩ = some (.int .u8 0)) :
    Calls Tryd.prog 65 #[.int .i64 4, .int .u8 0, .slice none 0 0, .slice (some ⟨lb, 0, none⟩) 4 4, .slice A 16 c] w fun e w' => ∃ cur, e = .returned (.pointer (some ⟨w.heap.size, 0, none⟩)) ∧ Blk w' w.heap.size 126 cur ∧ cur.size = 2482 ∧ (∀ a b, a < 4 → b < 4 → cur[1650 + (32 * (1 + a) + (8 + b))]? = some (.int .u8 (v.getD (4 * a + b) 0))) ∧ Below w.heap.size w w' := by
  have hZ := Blk.new w 126 Tryd.zeroCells126
  have z1 := (hZ.cell 1657).trans (dz_ybr 7 (by decide))
  have z2 := hZ.frozen 1657
  have hb := hide ((Below.refl _ w).alloc (Nat.le_refl _) (.cells Tryd.zeroCells126 126))
  have hZ' := hide hZ
  replace hr := hide hr
  replace hlc := hide hlc
  clear hZ
  go_enter Tryd.func65, Tryd.ntmps65
  go_wp2_with (first | (refine wpList_copy_nothing rfl (.tmp 25) (.tmp 26) 33 33 rfl 5 Tryd.underlying33 size_u8 _ _ 24 24 0 0 rfl rfl rfl ?_) | fail)
  go_loopg [12] 4 (fun k u12 wr => ∃ j cur, k + j = 4 ∧ u12 = .int .i64 (j : Nat) ∧ Blk wr w.heap.size 126 cur ∧ cur.size = 2482 ∧ (∀ a b, a < j → b < 4 → cur[1650 + (32 * (1 + a) + (8 + b))]? = some (.int .u8 (v.getD (4 * a + b) 0))) ∧ Below w.heap.size w wr)
  case atStart => exact ⟨0, Tryd.zeroCells126.setIfInBounds 1657 (.int .u8 0), rfl, rfl, Blk.new w _ _, by rw [Array.size_setIfInBounds]; exact dz_size, fun a b h => absurd h (by omega), (Below.refl _ w).alloc (Nat.le_refl _) _⟩
  case round =>
    obtain ⟨j, cur, hj, rfl, hC, hCs, hCo, hbel⟩ := hrel
    clear z1 z2 hZ' hb
    cases gk with
    | zero =>
      have hj4 : j = 4 := by omega
      subst hj4
      replace hC := hide hC
      replace hCo := hide hCo
      replace hbel := hide hbel
      go_wp2
      go_ret
      exact ⟨rfl, cur, hC.out, hCs, hCo.out, hbel.out⟩
    | succ k =>
      have hj4 : j < 4 := by omega
      have hjj : (j : Int) < 4 := by omega
      have hj0 : (0 : Int) ≤ (j : Int) := by omega
      have k0 := (hbel.cell (p := ⟨lb, j, none⟩) hlb).trans (hlc.out j hj4)
      obtain ⟨e1, h1⟩ : ∃ e, wr.cell? ⟨w.heap.size, 1650 + (1 + j) * 32 + 7, none⟩ = some e := ⟨_, (hC.cell _).trans (Array.getElem?_eq_getElem (by omega))⟩
      have f1 := hC.frozen (1650 + (1 + j) * 32 + 7)
      have WJ : IntKind.i64.wrap (1 + (j : Int)) = 1 + (j : Int) := IntWalk.i64_in _ (by omega)
      have TJ : (1 + (j : Int)).toNat = 1 + j := by omega
      have LJ : 1 + (j : Int) < 26 := by omega
      have PJ : (0 : Int) ≤ 1 + (j : Int) := by omega
      have hne : ¬ lb = w.heap.size := by omega
      replace hC := hide hC
      replace hCo := hide hCo
      replace hbel := hide hbel
      go_wp2
      go_region
      obtain ⟨b, off, rfl, hbb, hc⟩ := hr.out.at_ (j := 4 * j) (by omega)
      have hbw : b < w.heap.size := by omega
      have hbn : b ≠ w.heap.size := by omega
      have hCs' : (cur.setIfInBounds (1650 + (1 + j) * 32 + 7) (.int .u8 0)).toList.length = 2482 := by rw [Array.length_toList, Array.size_setIfInBounds]; exact hCs
      have hC' : Hid (Blk (wr.setCell ⟨w.heap.size, 1650 + (1 + j) * 32 + 7, none⟩ (.int .u8 0)) w.heap.size 126 (cur.setIfInBounds (1650 + (1 + j) * 32 + 7) (.int .u8 0)).toList.toArray) := hide (by rw [Array.toArray_toList]; exact hC.out.set_ _ _)
      have hsrc : Hid (∀ q val, ((rowL (fun q => v.getD (4 * j + q) 0) 4).map (Value.int .u8))[q]? = some val → (wr.setCell ⟨w.heap.size, 1650 + (1 + j) * 32 + 7, none⟩ (.int .u8 0)).cell? ((⟨b, off + 4 * j, none⟩ : Addr).add q) = some val) := by
        refine hide ?_
        intro q val hq
        have hq4 : q < 4 := by
          rcases Nat.lt_or_ge q 4 with h | h
          · exact h
          · rw [List.getElem?_eq_none (by simp [rowL_len]; exact h)] at hq
            cases hq
        rw [Addr.add_lit, World.cell?_of_block (Below.heap_setCell wr ⟨w.heap.size, 1650 + (1 + j) * 32 + 7, none⟩ (.int .u8 0) b hbn), World.cell?_of_block (hbel.out.block b hbw), Nat.add_assoc, hc (4 * j + q) (by omega)]
        simpa [rowL, hq4] using hq
      have hone : ∀ u ∈ (rowL (fun q => v.getD (4 * j + q) 0) 4).map (Value.int .u8), u.oneCell' = true := by
        intro u hu
        obtain ⟨z, _, rfl⟩ := List.mem_map.1 hu
        rfl
      have hb1 := hide (hbel.out.setCell (p := ⟨w.heap.size, 1650 + (1 + j) * 32 + 7, none⟩) (Nat.le_refl _) (.int .u8 0))
      have hln : ((rowL (fun q => v.getD (4 * j + q) 0) 4).map (Value.int .u8)).length = 4 := by simp [rowL_len]
      have hin := splice_in (cur.setIfInBounds (1650 + (1 + j) * 32 + 7) (.int .u8 0)).toList (1650 + (1 + j) * 32 + 8) ((rowL (fun q => v.getD (4 * j + q) 0) 4).map (Value.int .u8)) (by rw [hCs', hln]; omega)
      have hout := splice_out (cur.setIfInBounds (1650 + (1 + j) * 32 + 7) (.int .u8 0)).toList (1650 + (1 + j) * 32 + 8) ((rowL (fun q => v.getD (4 * j + q) 0) 4).map (Value.int .u8)) (by rw [hCs', hln]; omega)
      have hsl : (splice (cur.setIfInBounds (1650 + (1 + j) * 32 + 7) (.int .u8 0)).toList (1650 + (1 + j) * 32 + 8) ((rowL (fun q => v.getD (4 * j + q) 0) 4).map (Value.int .u8))).length = 2482 := by rw [length_splice _ _ _ (by rw [hCs', hln]; omega)]; exact hCs'
      have hnew : ∀ a q, a < j + 1 → q < 4 → (splice (cur.setIfInBounds (1650 + (1 + j) * 32 + 7) (.int .u8 0)).toList (1650 + (1 + j) * 32 + 8) ((rowL (fun q => v.getD (4 * j + q) 0) 4).map (Value.int .u8)))[1650 + (32 * (1 + a) + (8 + q))]? = some (.int .u8 (v.getD (4 * a + q) 0)) := by
        intro a q ha hq
        rcases Nat.lt_or_ge a j with h | h
        · rw [hout _ (by left; omega), Array.getElem?_toList, set_ne _ _ _ _ (by omega)]
          exact hCo.out a q h hq
        · have e : a = j := by omega
          subst e
          rw [show 1650 + (32 * (1 + a) + (8 + q)) = 1650 + (1 + a) * 32 + 8 + q by omega, hin q (by rw [hln]; exact hq)]
          simp [rowL, hq]
      have W4 : IntKind.i64.wrap (4 * (j : Int)) = 4 * (j : Int) := IntWalk.i64_in _ (by omega)
      have W44 : IntKind.i64.wrap (4 * (j : Int) + 4) = 4 * (j : Int) + 4 := IntWalk.i64_in _ (by omega)
      have W12 : IntKind.i64.wrap 12 = 12 := rfl
      have hcn : ¬ c = 4 * j := by omega
      have s1 : (0 : Int) ≤ 4 * (j : Int) := by omega
      have s2 : (0 : Int) ≤ 4 * (j : Int) + 4 := by omega
      have s3 : 4 * (j : Int) + 4 ≤ (c : Int) := by omega
      have s4 : 4 * (j : Int) ≤ 4 * (j : Int) + 4 := by omega
      have t4 : (4 * (j : Int)).toNat = 4 * j := by omega
      have t44 : (4 * (j : Int) + 4).toNat = 4 * j + 4 := by omega
      generalize (cur.setIfInBounds (1650 + (1 + j) * 32 + 7) (.int .u8 0)).toList = CL at *
      replace hin := hide hin
      replace hout := hide hout
      replace hsl := hide hsl
      replace hnew := hide hnew
      replace hln := hide hln
      replace hCs' := hide hCs'
      replace hone := hide hone
      clear hc k0 h1 f1
      go_wp2
      go_region_held3 (fun _ => True) (trivial) (first | (refine step_copy (.tmp 52) (.tmp 62) 33 33 5 Tryd.underlying33 size_u8 w.heap.size (1650 + (1 + j) * 32 + 8) 4 24 ⟨b, off + 4 * j, none⟩ 4 (c - 4 * j) CL 126 ((rowL (fun q => v.getD (4 * j + q) 0) 4).map (Value.int .u8)) (by rw [hln.out]; rfl) (by rw [hCs'.out, hln.out]; omega) hone.out w.heap.size w (Nat.le_refl _) ?_; refine ⟨⟨rfl, rfl, rfl, rfl, hC'.out, hsrc.out, (hb1.out.drew).drew⟩, ?_⟩; intro w2 hB2 hb2))
      go_wp2
      go_roundg k
      case measure => omega
      case rel => exact ⟨j + 1, _, by omega, by go_num, hB2, by rw [List.size_toArray]; exact hsl.out, fun a q ha hq => by rw [List.getElem?_toArray]; exact hnew.out a q ha hq, hb2⟩
end Go.Proofs.YthbidebcljegjaaDoor

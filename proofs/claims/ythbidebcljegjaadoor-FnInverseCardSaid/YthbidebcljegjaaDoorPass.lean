/- 'spec.pass': the walk. -/
import Derived.Test.YthbidebcljegjaaDoorTurned
namespace Go.Proofs.YthbidebcljegjaaDoor
set_option linter.unusedSimpArgs false
set_option linter.unusedVariables false
open Go.RowKit Plain

theorem keep4b {W W' : World} {b o0 o1 o2 o3 : Nat} {v0 v1 v2 v3 : Value} (h : W.cell? ⟨b, o0, none⟩ = some v0 ∧ W.cell? ⟨b, o1, none⟩ = some v1 ∧ W.cell? ⟨b, o2, none⟩ = some v2 ∧ W.cell? ⟨b, o3, none⟩ = some v3) (hb : Below W.heap.size W W') :
    W'.cell? ⟨b, o0, none⟩ = some v0 ∧ W'.cell? ⟨b, o1, none⟩ = some v1 ∧ W'.cell? ⟨b, o2, none⟩ = some v2 ∧ W'.cell? ⟨b, o3, none⟩ = some v3 := by
  obtain ⟨h0, h1, h2, h3⟩ := h
  exact ⟨(hb.cell (World.block_lt_of_cell? _ _ h0)).trans h0, (hb.cell (World.block_lt_of_cell? _ _ h1)).trans h1, (hb.cell (World.block_lt_of_cell? _ _ h2)).trans h2, (hb.cell (World.block_lt_of_cell? _ _ h3)).trans h3⟩
theorem keep4n {W : World} {o : Obj} {b o0 o1 o2 o3 : Nat} {v0 v1 v2 v3 : Value} (h : W.cell? ⟨b, o0, none⟩ = some v0 ∧ W.cell? ⟨b, o1, none⟩ = some v1 ∧ W.cell? ⟨b, o2, none⟩ = some v2 ∧ W.cell? ⟨b, o3, none⟩ = some v3) : (W.alloc o).cell? ⟨b, o0, none⟩ = some v0 ∧ (W.alloc o).cell? ⟨b, o1, none⟩ = some v1 ∧ (W.alloc o).cell? ⟨b, o2, none⟩ = some v2 ∧ (W.alloc o).cell? ⟨b, o3, none⟩ = some v3 := keep4b h ((Below.refl _ _).alloc (Nat.le_refl _) _)
theorem keep4m {W : World} {o : Obj} {b o0 o1 o2 o3 : Nat} {v0 v1 v2 v3 : Value} (h : W.drew.cell? ⟨b, o0, none⟩ = some v0 ∧ W.drew.cell? ⟨b, o1, none⟩ = some v1 ∧ W.drew.cell? ⟨b, o2, none⟩ = some v2 ∧ W.drew.cell? ⟨b, o3, none⟩ = some v3) : (W.alloc o).drew.cell? ⟨b, o0, none⟩ = some v0 ∧ (W.alloc o).drew.cell? ⟨b, o1, none⟩ = some v1 ∧ (W.alloc o).drew.cell? ⟨b, o2, none⟩ = some v2 ∧ (W.alloc o).drew.cell? ⟨b, o3, none⟩ = some v3 := keep4n (W := W) h
theorem keep4a {W : World} {o o' : Obj} {b o0 o1 o2 o3 : Nat} {v0 v1 v2 v3 : Value} (h : (W.alloc o).cell? ⟨b, o0, none⟩ = some v0 ∧ (W.alloc o).cell? ⟨b, o1, none⟩ = some v1 ∧ (W.alloc o).cell? ⟨b, o2, none⟩ = some v2 ∧ (W.alloc o).cell? ⟨b, o3, none⟩ = some v3) (n : b < W.heap.size) :
    (W.alloc o').cell? ⟨b, o0, none⟩ = some v0 ∧ (W.alloc o').cell? ⟨b, o1, none⟩ = some v1 ∧ (W.alloc o').cell? ⟨b, o2, none⟩ = some v2 ∧ (W.alloc o').cell? ⟨b, o3, none⟩ = some v3 := by
  obtain ⟨h0, h1, h2, h3⟩ := h
  have e : ∀ a : Addr, a.block < W.heap.size → (W.alloc o').cell? a = (W.alloc o).cell? a := fun a ha => World.cell?_of_block ((Below.heap_alloc W o' a.block ha).trans (Below.heap_alloc W o a.block ha).symm)
  exact ⟨(e _ n).trans h0, (e _ n).trans h1, (e _ n).trans h2, (e _ n).trans h3⟩
theorem keep4s {W : World} {b o0 o1 o2 o3 : Nat} {v0 v1 v2 v3 : Value} {g o : Nat} {v : Value} (h : W.cell? ⟨b, o0, none⟩ = some v0 ∧ W.cell? ⟨b, o1, none⟩ = some v1 ∧ W.cell? ⟨b, o2, none⟩ = some v2 ∧ W.cell? ⟨b, o3, none⟩ = some v3) (n : b ≠ g) :
    (W.setCell ⟨g, o, none⟩ v).cell? ⟨b, o0, none⟩ = some v0 ∧ (W.setCell ⟨g, o, none⟩ v).cell? ⟨b, o1, none⟩ = some v1 ∧ (W.setCell ⟨g, o, none⟩ v).cell? ⟨b, o2, none⟩ = some v2 ∧ (W.setCell ⟨g, o, none⟩ v).cell? ⟨b, o3, none⟩ = some v3 := by
  obtain ⟨h0, h1, h2, h3⟩ := h
  exact ⟨(World.cell?_of_block (Below.heap_setCell W ⟨g, o, none⟩ v _ n)).trans h0, (World.cell?_of_block (Below.heap_setCell W ⟨g, o, none⟩ v _ n)).trans h1, (World.cell?_of_block (Below.heap_setCell W ⟨g, o, none⟩ v _ n)).trans h2, (World.cell?_of_block (Below.heap_setCell W ⟨g, o, none⟩ v _ n)).trans h3⟩

set_option maxRecDepth 100000 in
set_option maxHeartbeats 4000000 in
theorem pass_any (x : Nat → Int) (w : World) (hx : ∀ j, -25079 ≤ x j ∧ x j ≤ 25079) :
    Calls Tryd.prog 63 #[.agg (rowF .i64 x 16)] w fun e w' => e = .returned (.agg (rowF .i64 (pT x) 16)) ∧ Below w.heap.size w w' := by
  have hZ : rowF .i64 (fun _ => 0) 16 = #[.int .i64 0, .int .i64 0, .int .i64 0, .int .i64 0, .int .i64 0, .int .i64 0, .int .i64 0, .int .i64 0, .int .i64 0, .int .i64 0, .int .i64 0, .int .i64 0, .int .i64 0, .int .i64 0, .int .i64 0, .int .i64 0] := rfl
  have b0 := hide ((((Blk.new w 37 (rowF .i64 x 16)).alloc (.cells (rowF .i64 (fun _ => 0) 16) 37)).alloc (.cells (rowF .i64 (fun _ => 0) 16) 37)))
  have b1 := Blk.new (w.alloc (.cells (rowF .i64 x 16) 37)) 37 (rowF .i64 (fun _ => 0) 16)
  rw [World.size_alloc] at b1
  have b2 := Blk.new ((w.alloc (.cells (rowF .i64 x 16) 37)).alloc (.cells (rowF .i64 (fun _ => 0) 16) 37)) 37 (rowF .i64 (fun _ => 0) 16)
  rw [World.size_alloc, World.size_alloc] at b2
  have b1' := hide (b1.alloc (.cells (rowF .i64 (fun _ => 0) 16) 37))
  have b2' := hide b2
  have hb := hide (((((Below.refl _ w).alloc (Nat.le_refl _) (.cells (rowF .i64 x 16) 37)).alloc (by simp) (.cells (rowF .i64 (fun _ => 0) 16) 37)).alloc (by simp; omega) (.cells (rowF .i64 (fun _ => 0) 16) 37)))
  replace hx := hide hx
  clear b1 b2 hZ
  go_enter Tryd.func63, Tryd.ntmps63
  go_wp2_with fail
  go_loopg [4] 4 (fun k u4 wr => ∃ i : Nat, k + i = 4 ∧ u4 = .int .i64 i ∧ Blk wr w.heap.size 37 (rowF .i64 x 16) ∧ Blk wr (w.heap.size + 1) 37 (rowF .i64 (fun _ => 0) 16) ∧
    Blk wr (w.heap.size + 2) 37 (rowF .i64 (fun j => if j % 4 < i then pT x j else 0) 16) ∧ Below w.heap.size w wr ∧ w.heap.size + 3 ≤ wr.heap.size)
  case atStart =>
    refine ⟨0, rfl, rfl, b0.out, b1'.out, ?_, hb.out, by simp⟩
    exact Blk.to b2'.out rfl (rowF_congr .i64 16 (fun i _ => if_neg (by omega)))
  case round =>
    obtain ⟨i, hi, rfl, hX, hR, hM, hbel, hsz⟩ := hrel
    clear b0 b1' b2' hb
    cases gk with
    | zero =>
      have hi4 : i = 4 := by omega
      subst hi4
      rw [rowF_congr .i64 (G := pT x) 16 (fun j _ => if_pos (Nat.mod_lt _ (by decide)))] at hM
      have hs2 : (rowF .i64 (pT x) 16).size = 16 := rowF_size _ _ _
      have h2 := rowF_one .i64 (pT x) 16
      have hrng := hide hM.range
      have hT := hide (hR.there 16 (by rw [rowF_size]; exact Nat.le_refl _))
      generalize hXS : rowF .i64 (pT x) 16 = XS at *
      replace hXS := hide hXS
      replace hbel := hide hbel
      clear hM hR hX
      go_wp2_with (first | (refine wpList_load_mid rfl 37 (.tmp 3) rfl (w.heap.size + 2) 0 rfl XS.toList _ hrng.out Tryd.underlying37 rfl (by rw [Array.length_toList, hs2]; exact size_16int) ?_) | (refine wpList_store_mid rfl 37 (.tmp 2) (.tmp 39) rfl (w.heap.size + 1) 0 XS.toList.toArray rfl rfl (by rw [Array.toArray_toList, hs2]; exact hT.out) (by rw [Array.toArray_toList, hs2]; exact size_16int) (by rw [Array.toArray_toList]; exact h2) ?_) | fail)
      have hrr : (loadVar 37 ⟨w.heap.size + 1, 0, none⟩).run Tryd.prog (wr.setCells (w.heap.size + 1) 0 XS.toList) = .ok (.agg XS) (wr.setCells (w.heap.size + 1) 0 XS.toList) := by
        have h9 := run_loadVar_mid (P := Tryd.prog) _ (w.heap.size + 1) 0 37 XS.toList _ (World.rangeAt_setCells_same wr (w.heap.size + 1) 0 XS.toList (by rw [Array.length_toList, hs2]; exact hT.out)) Tryd.underlying37 rfl (by rw [Array.length_toList, hs2]; exact size_16int)
        rw [Array.toArray_toList] at h9
        exact h9
      refine bodyPost_ret (ret_cell rfl rfl hrr) rfl ⟨by rw [hXS.out], below_setCells (by omega) _ _ hbel.out⟩
    | succ k =>
      have hi4 : i < 4 := by omega
      have hii : (i : Int) < 4 := by omega
      have hi0 : (0 : Int) ≤ (i : Int) := by omega
      have k0 := Blk.rowCell hX i (by omega)
      have k1 := Blk.rowCell hX (4 + i) (by omega)
      have k2 := Blk.rowCell hX (8 + i) (by omega)
      have k3 := Blk.rowCell hX (12 + i) (by omega)
      have cT := fun w => turned_any (x i) (x (4 + i)) (x (8 + i)) (x (12 + i)) w (hx.out i) (hx.out (4 + i)) (hx.out (8 + i)) (hx.out (12 + i))
      have m0 := pT_at x i 0 hi4
      have m1 := pT_at x i 1 hi4
      have m2 := pT_at x i 2 hi4
      have m3 := pT_at x i 3 hi4
      unfold row4 at cT
      generalize x i = y0 at *
      generalize x (4 + i) = y1 at *
      generalize x (8 + i) = y2 at *
      generalize x (12 + i) = y3 at *
      generalize tur y0 y1 y2 y3 0 = r0 at *
      generalize tur y0 y1 y2 y3 1 = r1 at *
      generalize tur y0 y1 y2 y3 2 = r2 at *
      generalize tur y0 y1 y2 y3 3 = r3 at *
      have i1 : (4 : Int) + (i : Int) < 16 := by omega
      have i2 : (8 : Int) + (i : Int) < 16 := by omega
      have i3 : (12 : Int) + (i : Int) < 16 := by omega
      have i0 : (i : Int) < 16 := by omega
      have j1 : (0 : Int) ≤ 4 + (i : Int) := by omega
      have j2 : (0 : Int) ≤ 8 + (i : Int) := by omega
      have j3 : (0 : Int) ≤ 12 + (i : Int) := by omega
      have W1 : IntKind.i64.wrap (4 + (i : Int)) = 4 + (i : Int) := IntWalk.i64_in _ (by omega)
      have W2 : IntKind.i64.wrap (8 + (i : Int)) = 8 + (i : Int) := IntWalk.i64_in _ (by omega)
      have W3 : IntKind.i64.wrap (12 + (i : Int)) = 12 + (i : Int) := IntWalk.i64_in _ (by omega)
      have T1 : ((4 : Int) + (i : Int)).toNat = 4 + i := by omega
      have T2 : ((8 : Int) + (i : Int)).toNat = 8 + i := by omega
      have T3 : ((12 : Int) + (i : Int)).toNat = 12 + i := by omega
      replace cT := hide cT
      replace m0 := hide m0
      replace m1 := hide m1
      replace m2 := hide m2
      replace m3 := hide m3
      replace hR := hide hR
      replace hM := hide hM
      replace hX := hide hX
      replace hbel := hide hbel
      have hsz' := hide hsz
      clear hsz
      go_wp2
      have hS0 : wr.drew.cell? ⟨w.heap.size, i, none⟩ = some (.int .i64 y0) ∧ wr.drew.cell? ⟨w.heap.size, 4 + i, none⟩ = some (.int .i64 y1) ∧ wr.drew.cell? ⟨w.heap.size, 8 + i, none⟩ = some (.int .i64 y2) ∧ wr.drew.cell? ⟨w.heap.size, 12 + i, none⟩ = some (.int .i64 y3) := ⟨k0, k1, k2, k3⟩
      clear k0 k1 k2 k3
      have hne : w.heap.size ≠ wr.heap.size := by have := hsz'.out; omega
      have hlt0 : w.heap.size < wr.heap.size := by have := hsz'.out; omega
      have hw8A : ∀ w', Below (wr.alloc (.cells #[.int .i64 0, .int .i64 0, .int .i64 0, .int .i64 0] 46)).drew.heap.size (wr.alloc (.cells #[.int .i64 0, .int .i64 0, .int .i64 0, .int .i64 0] 46)).drew w' → w.heap.size < w'.heap.size := fun w' h => Nat.lt_of_lt_of_le (show w.heap.size < (wr.alloc (.cells #[.int .i64 0, .int .i64 0, .int .i64 0, .int .i64 0] 46)).heap.size by rw [World.size_alloc]; omega) h.size
      have hw8B : ∀ w', Below wr.drew.heap.size wr.drew w' → w.heap.size < w'.heap.size := fun w' h => Nat.lt_of_lt_of_le (show w.heap.size < wr.heap.size from hlt0) h.size
      have hlA : wr.heap.size < (wr.alloc (.cells #[.int .i64 0, .int .i64 0, .int .i64 0, .int .i64 0] 46)).drew.heap.size := show wr.heap.size < (wr.alloc (.cells #[.int .i64 0, .int .i64 0, .int .i64 0, .int .i64 0] 46)).heap.size by rw [World.size_alloc]; omega
      have hZ0 : Blk (wr.alloc (.cells #[.int .i64 0, .int .i64 0, .int .i64 0, .int .i64 0] 46)).drew wr.heap.size 46 #[.int .i64 0, .int .i64 0, .int .i64 0, .int .i64 0] := Blk.new wr 46 #[.int .i64 0, .int .i64 0, .int .i64 0, .int .i64 0]
      replace hw8A := hide hw8A
      replace hw8B := hide hw8B
      replace hlA := hide hlA
      replace hZ0 := hide hZ0
      go_region_held3 (fun W => W.cell? ⟨w.heap.size, i, none⟩ = some (.int .i64 y0) ∧ W.cell? ⟨w.heap.size, 4 + i, none⟩ = some (.int .i64 y1) ∧ W.cell? ⟨w.heap.size, 8 + i, none⟩ = some (.int .i64 y2) ∧ W.cell? ⟨w.heap.size, 12 + i, none⟩ = some (.int .i64 y3))
        (first | with_reducible exact hS0 | with_reducible exact keep4m (by assumption) | with_reducible exact keep4b (by assumption) hb' | with_reducible exact keep4n (by assumption) | with_reducible exact keep4a (by assumption) hw8 | with_reducible exact keep4s (keep4s (keep4s (keep4s (by assumption) hne) hne) hne) hne | (trace_state; fail))
        (first
          | (go_at_call 68; (with_reducible refine (cT.out ((wr.alloc (.cells #[.int .i64 0, .int .i64 0, .int .i64 0, .int .i64 0] 46)).drew)).mono ?_); rintro e w' ⟨rfl, hb'⟩;
              have hw8 := hw8A.out w' hb'; have hZ4 := hide (hZ0.out.below hb' hlA.out);
              have c0 := hZ4.out.cell 0; have c1 := hZ4.out.cell 1; have c2 := hZ4.out.cell 2; have c3 := hZ4.out.cell 3;
              have f0 := hZ4.out.frozen 0; have f1 := hZ4.out.frozen 1; have f2 := hZ4.out.frozen 2; have f3 := hZ4.out.frozen 3;
              simp only [List.getElem?_toArray, List.getElem?_cons_zero, List.getElem?_cons_succ] at c0 c1 c2 c3)
          | (go_at_call 68; (with_reducible refine (cT.out wr.drew).mono ?_); rintro e w' ⟨rfl, hb'⟩; have hw8 := hw8B.out w' hb'))
      · have g1 : w.heap.size + 1 < wr.heap.size := by have := hsz'.out; omega
        have g2 : w.heap.size + 2 < wr.heap.size := by have := hsz'.out; omega
        have hX1 := hide (((Blk.to (w' := wr.drew) hX.out rfl rfl).below hb' hlt0).alloc (.cells #[.int .i64 r0, .int .i64 r1, .int .i64 r2, .int .i64 r3] 46))
        have hR1 := hide (((Blk.to (w' := wr.drew) hR.out rfl rfl).below hb' g1).alloc (.cells #[.int .i64 r0, .int .i64 r1, .int .i64 r2, .int .i64 r3] 46))
        have hM1 := hide (((Blk.to (w' := wr.drew) hM.out rfl rfl).below hb' g2).alloc (.cells #[.int .i64 r0, .int .i64 r1, .int .i64 r2, .int .i64 r3] 46))
        have hB1 := hide (Blk.new w' 46 #[.int .i64 r0, .int .i64 r1, .int .i64 r2, .int .i64 r3])
        have hszW : wr.heap.size ≤ w'.heap.size := hb'.size
        have hbel1 := hide (((hbel.out.drew).trans (hb'.mono (Nat.le_of_lt hlt0))).alloc (Nat.le_of_lt hw8) (.cells #[.int .i64 r0, .int .i64 r1, .int .i64 r2, .int .i64 r3] 46))
        have hBge : w.heap.size + 3 ≤ w'.heap.size := Nat.le_trans hsz'.out hszW
        have hsz1 : Hid (w.heap.size + 3 ≤ (w'.alloc (.cells #[.int .i64 r0, .int .i64 r1, .int .i64 r2, .int .i64 r3] 46)).heap.size) := hide (by rw [World.size_alloc]; omega)
        clear g1 g2 hw8 hszW
        clear hne hlt0 hw8A hw8B hlA hZ0 hb' hR hM hX hbel hsz' cT hS0
        generalize hBB : w'.heap.size = B at *
        clear hBB
        generalize (w'.alloc (.cells #[.int .i64 r0, .int .i64 r1, .int .i64 r2, .int .i64 r3] 46)) = W1 at *
        go_wp2
        go_loopg [6] 4 (fun k u6 wr => ∃ q : Nat, k + q = 4 ∧ u6 = .int .i64 q ∧ Blk wr B 46 #[.int .i64 r0, .int .i64 r1, .int .i64 r2, .int .i64 r3] ∧ Blk wr w.heap.size 37 (rowF .i64 x 16) ∧ Blk wr (w.heap.size + 1) 37 (rowF .i64 (fun _ => 0) 16) ∧
          Blk wr (w.heap.size + 2) 37 (rowF .i64 (fun j => if j % 4 < i ∨ (j % 4 = i ∧ j / 4 < q) then pT x j else 0) 16) ∧ Below w.heap.size w wr ∧ w.heap.size + 3 ≤ wr.heap.size)
        case atStart => exact ⟨0, rfl, rfl, hB1.out, hX1.out, hR1.out, Blk.to hM1.out rfl (rowF_congr .i64 16 (fun j _ => by simp)), hbel1.out, hsz1.out⟩
        case round =>
          obtain ⟨q, hq, rfl, hB2, hX2, hR2, hM2, hbel2, hsz2⟩ := hrel
          clear hB1 hX1 hR1 hM1 hbel1 hsz1
          cases gk with
          | zero =>
            have hq4 : q = 4 := by omega
            subst hq4
            replace hR2 := hide hR2
            replace hM2 := hide hM2
            replace hX2 := hide hX2
            replace hbel2 := hide hbel2
            replace hsz2 := hide hsz2
            clear hB2
            go_wp2
            go_roundg k
            case measure => omega
            case rel => exact ⟨i + 1, by omega, by go_num, hX2.out, hR2.out, Blk.to hM2.out rfl (rowF_congr .i64 16 (fun j hj => by by_cases h : j % 4 < i + 1; (· rw [if_pos h, if_pos (by omega)]); rw [if_neg h, if_neg (by omega)])), hbel2.out, hsz2.out⟩
          | succ k2 =>
            have hq4 : q < 4 := by omega
            have hqi : (q : Int) < 4 := by omega
            have hq0 : (0 : Int) ≤ (q : Int) := by omega
            obtain ⟨r, hr, hro⟩ : ∃ r, (#[.int .i64 r0, .int .i64 r1, .int .i64 r2, .int .i64 r3] : Array Value)[q]? = some (.int .i64 r) ∧ r = pT x (4 * q + i) := by
              rcases (show q = 0 ∨ q = 1 ∨ q = 2 ∨ q = 3 by omega) with rfl | rfl | rfl | rfl
              · exact ⟨_, rfl, m0.out.symm⟩
              · exact ⟨_, rfl, m1.out.symm⟩
              · exact ⟨_, rfl, m2.out.symm⟩
              · exact ⟨_, rfl, m3.out.symm⟩
            have hcell := (hB2.cell q).trans hr
            have ho := Blk.rowCell hM2 (4 * q + i) (by omega)
            have hfz := Blk.frozen hM2 (4 * q + i)
            have ht : (4 * (q : Int) + (i : Int)).toNat = 4 * q + i := by omega
            have hl : 4 * (q : Int) + (i : Int) < 16 := by omega
            have hro' := hide hro
            clear hr hro
            replace hB2 := hide hB2
            replace hR2 := hide hR2
            replace hM2 := hide hM2
            replace hX2 := hide hX2
            replace hbel2 := hide hbel2
            replace hsz2 := hide hsz2
            go_wp2
            go_roundg k2
            case measure => omega
            case rel =>
              refine ⟨q + 1, by omega, by go_num, hB2.out.far (by simp; omega) _, hX2.out.far (by simp <;> omega) _, hR2.out.far (by simp <;> omega) _, ?_, hbel2.out.setCell (by simp <;> omega) _, by simpa using hsz2.out⟩
              refine Blk.rowSet hM2.out (4 * q + i) _ ?_
              intro j hj
              by_cases h : j = 4 * q + i
              · subst h; rw [if_pos (by omega), if_pos rfl, hro'.out]
              · rw [if_neg h]
                by_cases h2 : j % 4 < i ∨ (j % 4 = i ∧ j / 4 < q)
                · rw [if_pos h2, if_pos (by omega)]
                · rw [if_neg h2, if_neg (by omega)]
      · have g0 : w.heap.size < (wr.alloc (.cells #[.int .i64 0, .int .i64 0, .int .i64 0, .int .i64 0] 46)).heap.size := by rw [World.size_alloc]; have := hsz'.out; omega
        have g1 : w.heap.size + 1 < (wr.alloc (.cells #[.int .i64 0, .int .i64 0, .int .i64 0, .int .i64 0] 46)).heap.size := by rw [World.size_alloc]; have := hsz'.out; omega
        have g2 : w.heap.size + 2 < (wr.alloc (.cells #[.int .i64 0, .int .i64 0, .int .i64 0, .int .i64 0] 46)).heap.size := by rw [World.size_alloc]; have := hsz'.out; omega
        have hBge : w.heap.size + 3 ≤ wr.heap.size := hsz'.out
        have hX1 := hide ((((((Blk.to (w' := (wr.alloc (.cells #[.int .i64 0, .int .i64 0, .int .i64 0, .int .i64 0] 46)).drew) (hX.out.alloc (.cells #[.int .i64 0, .int .i64 0, .int .i64 0, .int .i64 0] 46)) rfl rfl).below hb' g0).far (p := ⟨wr.heap.size, 0, none⟩) (by simp; omega) (.int .i64 r0)).far (p := ⟨wr.heap.size, 1, none⟩) (by simp; omega) (.int .i64 r1)).far (p := ⟨wr.heap.size, 2, none⟩) (by simp; omega) (.int .i64 r2)).far (p := ⟨wr.heap.size, 3, none⟩) (by simp; omega) (.int .i64 r3))
        have hR1 := hide ((((((Blk.to (w' := (wr.alloc (.cells #[.int .i64 0, .int .i64 0, .int .i64 0, .int .i64 0] 46)).drew) (hR.out.alloc (.cells #[.int .i64 0, .int .i64 0, .int .i64 0, .int .i64 0] 46)) rfl rfl).below hb' g1).far (p := ⟨wr.heap.size, 0, none⟩) (by simp; omega) (.int .i64 r0)).far (p := ⟨wr.heap.size, 1, none⟩) (by simp; omega) (.int .i64 r1)).far (p := ⟨wr.heap.size, 2, none⟩) (by simp; omega) (.int .i64 r2)).far (p := ⟨wr.heap.size, 3, none⟩) (by simp; omega) (.int .i64 r3))
        have hM1 := hide ((((((Blk.to (w' := (wr.alloc (.cells #[.int .i64 0, .int .i64 0, .int .i64 0, .int .i64 0] 46)).drew) (hM.out.alloc (.cells #[.int .i64 0, .int .i64 0, .int .i64 0, .int .i64 0] 46)) rfl rfl).below hb' g2).far (p := ⟨wr.heap.size, 0, none⟩) (by simp; omega) (.int .i64 r0)).far (p := ⟨wr.heap.size, 1, none⟩) (by simp; omega) (.int .i64 r1)).far (p := ⟨wr.heap.size, 2, none⟩) (by simp; omega) (.int .i64 r2)).far (p := ⟨wr.heap.size, 3, none⟩) (by simp; omega) (.int .i64 r3))
        have hB1 : Hid (Blk ((((w'.setCell ⟨wr.heap.size, 0, none⟩ (.int .i64 r0)).setCell ⟨wr.heap.size, 1, none⟩ (.int .i64 r1)).setCell ⟨wr.heap.size, 2, none⟩ (.int .i64 r2)).setCell ⟨wr.heap.size, 3, none⟩ (.int .i64 r3)) wr.heap.size 46 #[.int .i64 r0, .int .i64 r1, .int .i64 r2, .int .i64 r3]) := hide ((((hZ4.out.set_ 0 (.int .i64 r0)).set_ 1 (.int .i64 r1)).set_ 2 (.int .i64 r2)).set_ 3 (.int .i64 r3))
        have hszW : (wr.alloc (.cells #[.int .i64 0, .int .i64 0, .int .i64 0, .int .i64 0] 46)).heap.size ≤ w'.heap.size := hb'.size
        have hbel1 : Hid (Below w.heap.size w ((((w'.setCell ⟨wr.heap.size, 0, none⟩ (.int .i64 r0)).setCell ⟨wr.heap.size, 1, none⟩ (.int .i64 r1)).setCell ⟨wr.heap.size, 2, none⟩ (.int .i64 r2)).setCell ⟨wr.heap.size, 3, none⟩ (.int .i64 r3))) := hide ((((((hbel.out.alloc (Nat.le_of_lt hlt0) (.cells #[.int .i64 0, .int .i64 0, .int .i64 0, .int .i64 0] 46)).drew.trans (hb'.mono (Nat.le_of_lt g0))).setCell (by simp; omega) _).setCell (by simp; omega) _).setCell (by simp; omega) _).setCell (by simp; omega) _)
        have hsz1 : Hid (w.heap.size + 3 ≤ ((((w'.setCell ⟨wr.heap.size, 0, none⟩ (.int .i64 r0)).setCell ⟨wr.heap.size, 1, none⟩ (.int .i64 r1)).setCell ⟨wr.heap.size, 2, none⟩ (.int .i64 r2)).setCell ⟨wr.heap.size, 3, none⟩ (.int .i64 r3)).heap.size) := hide (by have := hsz'.out; rw [World.size_alloc] at hszW; simp; omega)
        clear g0 g1 g2 hw8 hszW hZ4 c0 c1 c2 c3 f0 f1 f2 f3
        clear hne hlt0 hw8A hw8B hlA hZ0 hb' hR hM hX hbel hsz' cT hS0
        generalize hBB : wr.heap.size = B at *
        clear hBB
        generalize ((((w'.setCell ⟨wr.heap.size, 0, none⟩ (.int .i64 r0)).setCell ⟨wr.heap.size, 1, none⟩ (.int .i64 r1)).setCell ⟨wr.heap.size, 2, none⟩ (.int .i64 r2)).setCell ⟨wr.heap.size, 3, none⟩ (.int .i64 r3)) = W1 at *
        go_wp2
        go_loopg [6] 4 (fun k u6 wr => ∃ q : Nat, k + q = 4 ∧ u6 = .int .i64 q ∧ Blk wr B 46 #[.int .i64 r0, .int .i64 r1, .int .i64 r2, .int .i64 r3] ∧ Blk wr w.heap.size 37 (rowF .i64 x 16) ∧ Blk wr (w.heap.size + 1) 37 (rowF .i64 (fun _ => 0) 16) ∧
          Blk wr (w.heap.size + 2) 37 (rowF .i64 (fun j => if j % 4 < i ∨ (j % 4 = i ∧ j / 4 < q) then pT x j else 0) 16) ∧ Below w.heap.size w wr ∧ w.heap.size + 3 ≤ wr.heap.size)
        case atStart => exact ⟨0, rfl, rfl, hB1.out, hX1.out, hR1.out, Blk.to hM1.out rfl (rowF_congr .i64 16 (fun j _ => by simp)), hbel1.out, hsz1.out⟩
        case round =>
          obtain ⟨q, hq, rfl, hB2, hX2, hR2, hM2, hbel2, hsz2⟩ := hrel
          clear hB1 hX1 hR1 hM1 hbel1 hsz1
          cases gk with
          | zero =>
            have hq4 : q = 4 := by omega
            subst hq4
            replace hR2 := hide hR2
            replace hM2 := hide hM2
            replace hX2 := hide hX2
            replace hbel2 := hide hbel2
            replace hsz2 := hide hsz2
            clear hB2
            go_wp2
            go_roundg k
            case measure => omega
            case rel => exact ⟨i + 1, by omega, by go_num, hX2.out, hR2.out, Blk.to hM2.out rfl (rowF_congr .i64 16 (fun j hj => by by_cases h : j % 4 < i + 1; (· rw [if_pos h, if_pos (by omega)]); rw [if_neg h, if_neg (by omega)])), hbel2.out, hsz2.out⟩
          | succ k2 =>
            have hq4 : q < 4 := by omega
            have hqi : (q : Int) < 4 := by omega
            have hq0 : (0 : Int) ≤ (q : Int) := by omega
            obtain ⟨r, hr, hro⟩ : ∃ r, (#[.int .i64 r0, .int .i64 r1, .int .i64 r2, .int .i64 r3] : Array Value)[q]? = some (.int .i64 r) ∧ r = pT x (4 * q + i) := by
              rcases (show q = 0 ∨ q = 1 ∨ q = 2 ∨ q = 3 by omega) with rfl | rfl | rfl | rfl
              · exact ⟨_, rfl, m0.out.symm⟩
              · exact ⟨_, rfl, m1.out.symm⟩
              · exact ⟨_, rfl, m2.out.symm⟩
              · exact ⟨_, rfl, m3.out.symm⟩
            have hcell := (hB2.cell q).trans hr
            have ho := Blk.rowCell hM2 (4 * q + i) (by omega)
            have hfz := Blk.frozen hM2 (4 * q + i)
            have ht : (4 * (q : Int) + (i : Int)).toNat = 4 * q + i := by omega
            have hl : 4 * (q : Int) + (i : Int) < 16 := by omega
            have hro' := hide hro
            clear hr hro
            replace hB2 := hide hB2
            replace hR2 := hide hR2
            replace hM2 := hide hM2
            replace hX2 := hide hX2
            replace hbel2 := hide hbel2
            replace hsz2 := hide hsz2
            go_wp2
            go_roundg k2
            case measure => omega
            case rel =>
              refine ⟨q + 1, by omega, by go_num, hB2.out.far (by simp; omega) _, hX2.out.far (by simp <;> omega) _, hR2.out.far (by simp <;> omega) _, ?_, hbel2.out.setCell (by simp <;> omega) _, by simpa using hsz2.out⟩
              refine Blk.rowSet hM2.out (4 * q + i) _ ?_
              intro j hj
              by_cases h : j = 4 * q + i
              · subst h; rw [if_pos (by omega), if_pos rfl, hro'.out]
              · rw [if_neg h]
                by_cases h2 : j % 4 < i ∨ (j % 4 = i ∧ j / 4 < q)
                · rw [if_pos h2, if_pos (by omega)]
                · rw [if_neg h2, if_neg (by omega)]
end Go.Proofs.YthbidebcljegjaaDoor

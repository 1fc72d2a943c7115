/- 'spec.InverseSecond': the walk. -/
import Derived.Test.YthbidebcljegjaaDoorWhtImpl
namespace Go.Proofs.YthbidebcljegjaaDoor
set_option linter.unusedSimpArgs false
set_option linter.unusedVariables false
open Go.RowKit Plain

theorem size_4int : (Tryd.prog.info? 46).map (·.size) = some 4 := by kernel_rfl
def row4 (r0 r1 r2 r3 : Int) : Array Value := #[.int .i64 r0, .int .i64 r1, .int .i64 r2, .int .i64 r3]
theorem row4_one (r0 r1 r2 r3 : Int) : (row4 r0 r1 r2 r3).all (·.oneCell') = true := by simp [row4, Value.oneCell']
theorem blk_row4 (w : World) (r0 r1 r2 r3 : Int) : Blk ((w.alloc (.cells (row4 0 0 0 0) 46)).setCells w.heap.size 0 (row4 r0 r1 r2 r3).toList) w.heap.size 46 (row4 r0 r1 r2 r3) := by
  have h := ((((Blk.new w 46 (row4 0 0 0 0)).set_ 0 (.int .i64 r0)).set_ 1 (.int .i64 r1)).set_ 2 (.int .i64 r2)).set_ 3 (.int .i64 r3)
  exact h

set_option maxRecDepth 100000 in
set_option maxHeartbeats 4000000 in
theorem specSecond_any (x : Nat → Int) (w : World) (hx : ∀ j, -2048 ≤ x j ∧ x j ≤ 2048) :
    Calls Tryd.prog 19 #[.agg (rowF .i64 x 16)] w fun e w' => e = .returned (.agg (rowF .i64 (oW (mW x)) 16)) ∧ Below w.heap.size w w' := by
  have hmb := mW_bd x hx
  have hZ : rowF .i64 (fun _ => 0) 16 = #[.int .i64 0, .int .i64 0, .int .i64 0, .int .i64 0, .int .i64 0, .int .i64 0, .int .i64 0, .int .i64 0, .int .i64 0, .int .i64 0, .int .i64 0, .int .i64 0, .int .i64 0, .int .i64 0, .int .i64 0, .int .i64 0] := rfl
  have b0 := hide ((((Blk.new w 37 (rowF .i64 x 16)).alloc (.cells (rowF .i64 (fun _ => 0) 16) 37)).alloc (.cells (rowF .i64 (fun _ => 0) 16) 37)).alloc (.cells (rowF .i64 (fun _ => 0) 16) 37))
  have b1 := Blk.new (w.alloc (.cells (rowF .i64 x 16) 37)) 37 (rowF .i64 (fun _ => 0) 16)
  rw [World.size_alloc] at b1
  have b2 := Blk.new ((w.alloc (.cells (rowF .i64 x 16) 37)).alloc (.cells (rowF .i64 (fun _ => 0) 16) 37)) 37 (rowF .i64 (fun _ => 0) 16)
  rw [World.size_alloc, World.size_alloc] at b2
  have b3 := Blk.new (((w.alloc (.cells (rowF .i64 x 16) 37)).alloc (.cells (rowF .i64 (fun _ => 0) 16) 37)).alloc (.cells (rowF .i64 (fun _ => 0) 16) 37)) 37 (rowF .i64 (fun _ => 0) 16)
  rw [World.size_alloc, World.size_alloc, World.size_alloc] at b3
  have b1' := hide ((b1.alloc (.cells (rowF .i64 (fun _ => 0) 16) 37)).alloc (.cells (rowF .i64 (fun _ => 0) 16) 37))
  have b2' := hide (b2.alloc (.cells (rowF .i64 (fun _ => 0) 16) 37))
  have b3' := hide b3
  have hb := hide ((((((Below.refl _ w).alloc (Nat.le_refl _) (.cells (rowF .i64 x 16) 37)).alloc (by simp) (.cells (rowF .i64 (fun _ => 0) 16) 37)).alloc (by simp; omega) (.cells (rowF .i64 (fun _ => 0) 16) 37))).alloc (by simp; omega) (.cells (rowF .i64 (fun _ => 0) 16) 37))
  replace hx := hide hx
  replace hmb := hide hmb
  clear b1 b2 b3 hZ
  go_enter Tryd.func19, Tryd.ntmps19
  go_wp2_with fail
  go_loopg [5] 4 (fun k u5 wr => ∃ i : Nat, k + i = 4 ∧ u5 = .int .i64 i ∧ Blk wr w.heap.size 37 (rowF .i64 x 16) ∧ Blk wr (w.heap.size + 1) 37 (rowF .i64 (fun _ => 0) 16) ∧
    Blk wr (w.heap.size + 2) 37 (rowF .i64 (fun j => if j % 4 < i then mW x j else 0) 16) ∧ Blk wr (w.heap.size + 3) 37 (rowF .i64 (fun _ => 0) 16) ∧ Below w.heap.size w wr ∧ w.heap.size + 4 ≤ wr.heap.size)
  case atStart =>
    refine ⟨0, rfl, rfl, b0.out, b1'.out, ?_, b3'.out, hb.out, by simp⟩
    exact Blk.to b2'.out rfl (rowF_congr .i64 16 (fun i _ => if_neg (by omega)))
  case round =>
    obtain ⟨i, hi, rfl, hX, hR, hM, hO, hbel, hsz⟩ := hrel
    clear b0 b1' b2' b3' hb
    cases gk with
    | succ k =>
      have hi4 : i < 4 := by omega
      have hii : (i : Int) < 4 := by omega
      have hi0 : (0 : Int) ≤ (i : Int) := by omega
      have k0 := Blk.rowCell hX i (by omega)
      have k1 := Blk.rowCell hX (4 + i) (by omega)
      have k2 := Blk.rowCell hX (8 + i) (by omega)
      have k3 := Blk.rowCell hX (12 + i) (by omega)
      have y0b := hx.out i
      have y1b := hx.out (4 + i)
      have y2b := hx.out (8 + i)
      have y3b := hx.out (12 + i)
      have m0 := mW0 x i hi4
      have m1 := mW1 x i hi4
      have m2 := mW2 x i hi4
      have m3 := mW3 x i hi4
      generalize x i = y0 at *
      generalize x (4 + i) = y1 at *
      generalize x (8 + i) = y2 at *
      generalize x (12 + i) = y3 at *
      have q0 := Blk.rowCell hM i (by omega)
      have q1 := Blk.rowCell hM (4 + i) (by omega)
      have q2 := Blk.rowCell hM (8 + i) (by omega)
      have q3 := Blk.rowCell hM (12 + i) (by omega)
      have z0 := Blk.frozen hM i
      have z1 := Blk.frozen hM (4 + i)
      have z2 := Blk.frozen hM (8 + i)
      have z3 := Blk.frozen hM (12 + i)
      have i1 : (4 : Int) + (i : Int) < 16 := by omega
      have i2 : (8 : Int) + (i : Int) < 16 := by omega
      have i3 : (12 : Int) + (i : Int) < 16 := by omega
      have i0 : (i : Int) < 16 := by omega
      have j1 : (0 : Int) ≤ 4 + (i : Int) := by omega
      have j2 : (0 : Int) ≤ 8 + (i : Int) := by omega
      have j3 : (0 : Int) ≤ 12 + (i : Int) := by omega
      have W1 : IntKind.i64.wrap (4 + (i : Int)) = 4 + (i : Int) := IntWalk.i64_in _ (by omega)
      have W2 : IntKind.i64.wrap (8 + (i : Int)) = 8 + (i : Int) := IntWalk.i64_in _ (by omega)
      have W3 : IntKind.i64.wrap (12 + (i : Int)) = 12 + (i : Int) := IntWalk.i64_in _ (by omega)
      have T1 : ((4 : Int) + (i : Int)).toNat = 4 + i := by omega
      have T2 : ((8 : Int) + (i : Int)).toNat = 8 + i := by omega
      have T3 : ((12 : Int) + (i : Int)).toNat = 12 + i := by omega
      have S0 : IntKind.i64.wrap (y0 + y3) = y0 + y3 := IntWalk.i64_in _ (by omega)
      have S1 : IntKind.i64.wrap (y1 + y2) = y1 + y2 := IntWalk.i64_in _ (by omega)
      have S2 : IntKind.i64.wrap (y1 - y2) = y1 - y2 := IntWalk.i64_in _ (by omega)
      have S3 : IntKind.i64.wrap (y0 - y3) = y0 - y3 := IntWalk.i64_in _ (by omega)
      have m1' : mW x (4 + i) = y1 - y2 + (y0 - y3) := by rw [m1]; omega
      replace m0 := hide m0
      replace m1' := hide m1'
      replace m2 := hide m2
      replace m3 := hide m3
      clear m1
      replace hX := hide hX
      replace hR := hide hR
      replace hM := hide hM
      replace hO := hide hO
      replace hbel := hide hbel
      replace hsz := hide hsz
      go_wp2
      go_quiet (fail)
      go_wp2
      go_quiet (fail)
      go_wp2
      go_roundg k
      case measure => omega
      case rel =>
        refine ⟨i + 1, by omega, by go_num, ?_, ?_, ?_, ?_, ?_, ?_⟩
        · exact ((((hX.out.drewN 0).far (by simp <;> omega) _).far (by simp <;> omega) _).far (by simp <;> omega) _).far (by simp <;> omega) _
        · exact ((((hR.out.drewN 0).far (by simp) _).far (by simp) _).far (by simp) _).far (by simp) _
        · refine Blk.to (((((hM.out.drewN 0).set_ i _).set_ (4 + i) _).set_ (8 + i) _).set_ (12 + i) _) rfl ?_
          rw [rowF_set, rowF_set, rowF_set, rowF_set]
          refine rowF_congr _ _ ?_
          intro j hj
          rcases (show j = i ∨ j = 4 + i ∨ j = 8 + i ∨ j = 12 + i ∨ j % 4 ≠ i by omega) with rfl | rfl | rfl | rfl | hne
          · rw [if_pos (by omega), if_neg (by omega), if_neg (by omega), if_neg (by omega), if_pos rfl, m0.out]
          · rw [if_pos (by omega), if_neg (by omega), if_neg (by omega), if_pos rfl, m1'.out]
          · rw [if_pos (by omega), if_neg (by omega), if_pos rfl, m2.out]
          · rw [if_pos (by omega), if_pos rfl, m3.out]
          · rw [if_neg (show ¬ j = 12 + i by omega), if_neg (show ¬ j = 8 + i by omega), if_neg (show ¬ j = 4 + i by omega), if_neg (show ¬ j = i by omega)]
            by_cases h : j % 4 < i
            · rw [if_pos h, if_pos (by omega)]
            · rw [if_neg h, if_neg (by omega)]
        · exact ((((hO.out.drewN 0).far (by simp) _).far (by simp) _).far (by simp) _).far (by simp) _
        · exact ((((below_drewN' hbel.out _).setCell (by simp; omega) _).setCell (by simp; omega) _).setCell (by simp; omega) _).setCell (by simp; omega) _
        · simpa using hsz.out
    | zero =>
      have hi4 : i = 4 := by omega
      subst hi4
      rw [rowF_congr .i64 (G := mW x) 16 (fun j _ => if_pos (Nat.mod_lt _ (by decide)))] at hM
      have hM1 := hide hM
      have hR1 := hide hR
      have hO1 := hide hO
      have hbel1 := hide hbel
      have hsz1 := hide hsz
      obtain ⟨w1, hw1⟩ : ∃ w1, w1 = wr := ⟨_, rfl⟩
      subst hw1
      clear hM hR hO hbel hsz hX
      go_wp2
      go_loopg [10] 4 (fun k u10 wr => ∃ i : Nat, k + i = 4 ∧ u10 = .int .i64 i ∧ Blk wr (w.heap.size + 1) 37 (rowF .i64 (fun _ => 0) 16) ∧
        Blk wr (w.heap.size + 2) 37 (rowF .i64 (mW x) 16) ∧ Blk wr (w.heap.size + 3) 37 (rowF .i64 (fun j => if j < 4 * i then oW (mW x) j else 0) 16) ∧ Below w.heap.size w wr ∧ w.heap.size + 4 ≤ wr.heap.size)
      case atStart => exact ⟨0, rfl, rfl, hR1.out, hM1.out, Blk.to hO1.out rfl (rowF_congr .i64 16 (fun i _ => if_neg (by omega))), hbel1.out, hsz1.out⟩
      case round =>
        obtain ⟨i, hi, rfl, hR, hM, hO, hbel, hsz⟩ := hrel
        clear hR1 hM1 hO1 hbel1 hsz1
        cases gk with
        | zero =>
          have hi4 : i = 4 := by omega
          subst hi4
          rw [rowF_congr .i64 (G := oW (mW x)) 16 (fun j hj => if_pos hj)] at hO
          have hs2 : (rowF .i64 (oW (mW x)) 16).size = 16 := rowF_size _ _ _
          have h2 := rowF_one .i64 (oW (mW x)) 16
          have hrng := hide hO.range
          have hT := hide (hR.there 16 (by rw [rowF_size]; exact Nat.le_refl _))
          generalize hXS : rowF .i64 (oW (mW x)) 16 = XS at *
          replace hXS := hide hXS
          replace hbel := hide hbel
          clear hO hR hM
          go_wp2_with (first | (refine wpList_load_mid rfl 37 (.tmp 4) rfl (w.heap.size + 3) 0 rfl XS.toList _ hrng.out Tryd.underlying37 rfl (by rw [Array.length_toList, hs2]; exact size_16int) ?_) | (refine wpList_store_mid rfl 37 (.tmp 2) (.tmp 151) rfl (w.heap.size + 1) 0 XS.toList.toArray rfl rfl (by rw [Array.toArray_toList, hs2]; exact hT.out) (by rw [Array.toArray_toList, hs2]; exact size_16int) (by rw [Array.toArray_toList]; exact h2) ?_) | fail)
          have hrr : (loadVar 37 ⟨w.heap.size + 1, 0, none⟩).run Tryd.prog (wr.setCells (w.heap.size + 1) 0 XS.toList) = .ok (.agg XS) (wr.setCells (w.heap.size + 1) 0 XS.toList) := by
            have h9 := run_loadVar_mid (P := Tryd.prog) _ (w.heap.size + 1) 0 37 XS.toList _ (World.rangeAt_setCells_same wr (w.heap.size + 1) 0 XS.toList (by rw [Array.length_toList, hs2]; exact hT.out)) Tryd.underlying37 rfl (by rw [Array.length_toList, hs2]; exact size_16int)
            rw [Array.toArray_toList] at h9
            exact h9
          refine bodyPost_ret (ret_cell rfl rfl hrr) rfl ⟨by rw [hXS.out], below_setCells (by omega) _ _ hbel.out⟩
        | succ k =>
          have hi4 : i < 4 := by omega
          have hii : (i : Int) < 4 := by omega
          have hi0 : (0 : Int) ≤ (i : Int) := by omega
          have k0 := Blk.rowCell hM (4 * i) (by omega)
          have k1 := Blk.rowCell hM (4 * i + 1) (by omega)
          have k2 := Blk.rowCell hM (4 * i + 2) (by omega)
          have k3 := Blk.rowCell hM (4 * i + 3) (by omega)
          have y0b := hmb.out (4 * i)
          have y1b := hmb.out (4 * i + 1)
          have y2b := hmb.out (4 * i + 2)
          have y3b := hmb.out (4 * i + 3)
          have o0 := oW_at (mW x) i 0 (by decide)
          have o1 := oW_at (mW x) i 1 (by decide)
          have o2 := oW_at (mW x) i 2 (by decide)
          have o3 := oW_at (mW x) i 3 (by decide)
          simp at o0 o1 o2 o3
          generalize mW x (4 * i) = y0 at *
          generalize mW x (4 * i + 1) = y1 at *
          generalize mW x (4 * i + 2) = y2 at *
          generalize mW x (4 * i + 3) = y3 at *
          have i0 : 4 * (i : Int) < 16 := by omega
          have i1 : 4 * (i : Int) + 1 < 16 := by omega
          have i2 : 4 * (i : Int) + 2 < 16 := by omega
          have i3 : 4 * (i : Int) + 3 < 16 := by omega
          have j0 : (0 : Int) ≤ 4 * (i : Int) := by omega
          have j1 : (0 : Int) ≤ 4 * (i : Int) + 1 := by omega
          have j2 : (0 : Int) ≤ 4 * (i : Int) + 2 := by omega
          have j3 : (0 : Int) ≤ 4 * (i : Int) + 3 := by omega
          have W0 : IntKind.i64.wrap (4 * (i : Int)) = 4 * (i : Int) := IntWalk.i64_in _ (by omega)
          have W1 : IntKind.i64.wrap (4 * (i : Int) + 1) = 4 * (i : Int) + 1 := IntWalk.i64_in _ (by omega)
          have W2 : IntKind.i64.wrap (4 * (i : Int) + 2) = 4 * (i : Int) + 2 := IntWalk.i64_in _ (by omega)
          have W3 : IntKind.i64.wrap (4 * (i : Int) + 3) = 4 * (i : Int) + 3 := IntWalk.i64_in _ (by omega)
          have T0 : (4 * (i : Int)).toNat = 4 * i := by omega
          have T1 : (4 * (i : Int) + 1).toNat = 4 * i + 1 := by omega
          have T2 : (4 * (i : Int) + 2).toNat = 4 * i + 2 := by omega
          have T3 : (4 * (i : Int) + 3).toNat = 4 * i + 3 := by omega
          have S0 : IntKind.i64.wrap (y0 + y3) = y0 + y3 := IntWalk.i64_in _ (by omega)
          have S1 : IntKind.i64.wrap (y1 + y2) = y1 + y2 := IntWalk.i64_in _ (by omega)
          have S2 : IntKind.i64.wrap (y1 - y2) = y1 - y2 := IntWalk.i64_in _ (by omega)
          have S3 : IntKind.i64.wrap (y0 - y3) = y0 - y3 := IntWalk.i64_in _ (by omega)
          replace o0 := hide o0
          replace o1 := hide o1
          replace o2 := hide o2
          replace o3 := hide o3
          replace hR := hide hR
          replace hM := hide hM
          replace hO := hide hO
          replace hbel := hide hbel
          have hsz' := hide hsz
          clear hsz
          go_wp2
          go_quiet (fail)
          go_wp2
          go_quiet (fail)
          have hTT : ∀ j, ((wr.drewN j).alloc (.cells (row4 0 0 0 0) 46)).there wr.heap.size 0 4 := fun j => (Blk.new (wr.drewN j) 46 (row4 0 0 0 0)).there 4 (by decide)
          replace hTT := hide hTT
          go_wp2_with (first | (refine wpList_store_mid rfl 46 (.tmp 15) (.tmp 136) rfl wr.heap.size 0 (row4 (y0 + y3 + (y1 + y2)) (y1 - y2 + (y0 - y3)) (y0 + y3 - (y1 + y2)) (y0 - y3 - (y1 - y2))) rfl rfl (hTT.out _) size_4int (row4_one _ _ _ _) ?_) | fail)
          obtain ⟨w1, hw1⟩ : ∃ w1, w1 = wr := ⟨_, rfl⟩
          subst hw1
          have hBB := fun j => blk_row4 (w1.drewN j) (y0 + y3 + (y1 + y2)) (y1 - y2 + (y0 - y3)) (y0 + y3 - (y1 + y2)) (y0 - y3 - (y1 - y2))
          replace hBB := hide hBB
          clear k0 k1 k2 k3
          go_loopg [16] 4 (fun k u16 wr => ∃ q : Nat, k + q = 4 ∧ u16 = .int .i64 q ∧ Blk wr w1.heap.size 46 (row4 (y0 + y3 + (y1 + y2)) (y1 - y2 + (y0 - y3)) (y0 + y3 - (y1 + y2)) (y0 - y3 - (y1 - y2))) ∧ Blk wr (w.heap.size + 1) 37 (rowF .i64 (fun _ => 0) 16) ∧
            Blk wr (w.heap.size + 2) 37 (rowF .i64 (mW x) 16) ∧ Blk wr (w.heap.size + 3) 37 (rowF .i64 (fun j => if j < 4 * i + q then oW (mW x) j else 0) 16) ∧ Below w.heap.size w wr ∧ w.heap.size + 4 ≤ wr.heap.size)
          case atStart =>
            have h4 : w.heap.size + 4 ≤ w1.heap.size := hsz'.out
            refine ⟨0, rfl, rfl, hBB.out _, ?_, ?_, ?_, ?_, ?_⟩
            · exact blk_setCells_far (by omega) _ _ ((hR.out.drewN 0).alloc _)
            · exact blk_setCells_far (by omega) _ _ ((hM.out.drewN 0).alloc _)
            · exact blk_setCells_far (by omega) _ _ ((hO.out.drewN 0).alloc _)
            · exact below_setCells (by omega) _ _ ((below_drewN' hbel.out _).alloc (by simp; omega) _)
            · exact Nat.le_trans (Nat.le_trans h4 (by simp)) (below_setCells (Nat.zero_le _) _ _ (Below.refl 0 _)).size
          case round =>
            obtain ⟨q, hq, rfl, hB4, hR2, hM2, hO2, hbel2, hsz2⟩ := hrel
            have h4 : w.heap.size + 4 ≤ w1.heap.size := hsz'.out
            clear hR hM hO hbel hBB hTT
            cases gk with
            | zero =>
              have hq4 : q = 4 := by omega
              subst hq4
              replace hR2 := hide hR2
              replace hM2 := hide hM2
              replace hO2 := hide hO2
              replace hbel2 := hide hbel2
              replace hsz2 := hide hsz2
              go_wp2
              go_roundg k
              case measure => omega
              case rel => exact ⟨i + 1, by omega, by go_num, hR2.out, hM2.out, by rw [show 4 * (i + 1) = 4 * i + 4 by omega]; exact hO2.out, hbel2.out, hsz2.out⟩
            | succ k2 =>
              have hq4 : q < 4 := by omega
              have hqi : (q : Int) < 4 := by omega
              have hq0 : (0 : Int) ≤ (q : Int) := by omega
              obtain ⟨r, hr, hro, hrb1, hrb2⟩ : ∃ r, (row4 (y0 + y3 + (y1 + y2)) (y1 - y2 + (y0 - y3)) (y0 + y3 - (y1 + y2)) (y0 - y3 - (y1 - y2)))[q]? = some (.int .i64 r) ∧ (r + 3) / 8 = oW (mW x) (4 * i + q) ∧ -40000 ≤ r ∧ r ≤ 40000 := by
                rcases (show q = 0 ∨ q = 1 ∨ q = 2 ∨ q = 3 by omega) with rfl | rfl | rfl | rfl
                · exact ⟨_, rfl, by rw [Nat.add_zero, o0.out]; congr 1; omega, by omega, by omega⟩
                · exact ⟨_, rfl, by rw [o1.out]; congr 1; omega, by omega, by omega⟩
                · exact ⟨_, rfl, by rw [o2.out]; congr 1; omega, by omega, by omega⟩
                · exact ⟨_, rfl, by rw [o3.out]; congr 1; omega, by omega, by omega⟩
              have hcell := (hB4.cell q).trans hr
              have ho := Blk.rowCell hO2 (4 * i + q) (by omega)
              have hfz := Blk.frozen hO2 (4 * i + q)
              have ht : (4 * (i : Int) + (q : Int)).toNat = 4 * i + q := by omega
              have hl : 4 * (i : Int) + (q : Int) < 16 := by omega
              have hro' := hide hro
              clear hr hro
              replace hB4 := hide hB4
              replace hR2 := hide hR2
              replace hM2 := hide hM2
              replace hO2 := hide hO2
              replace hbel2 := hide hbel2
              replace hsz2 := hide hsz2
              go_wp2
              go_roundg k2
              case measure => omega
              case rel =>
                refine ⟨q + 1, by omega, by go_num, hB4.out.far (by simp; omega) _, hR2.out.far (by simp) _, hM2.out.far (by simp) _, ?_, hbel2.out.setCell (by simp; omega) _, by simpa using hsz2.out⟩
                refine Blk.rowSet hO2.out (4 * i + q) _ ?_
                intro j hj
                by_cases h : j = 4 * i + q
                · subst h; rw [if_pos (by omega), if_pos rfl, hro'.out]
                · rw [if_neg h]
                  by_cases h2 : j < 4 * i + q
                  · rw [if_pos h2, if_pos (by omega)]
                  · rw [if_neg h2, if_neg (by omega)]
end Go.Proofs.YthbidebcljegjaaDoor

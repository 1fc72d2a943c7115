/- 'inverseColorIndexing' with 8 numbers a byte: the walk. Printed by mk_idx.py. -/
import Derived.Test.YtpiapfahcoopbaaIdxMake
namespace Go.Proofs.Ytpiapfahcoopbaa
set_option linter.unusedSimpArgs false
set_option linter.unusedVariables false
open Go.RowKit Plain

theorem blk3 (a r : Nat) (hr : r < 8) : blkN (8 * a + r) 3 = if r = 0 then a else a + 1 := by
  unfold blkN
  split <;> simp <;> omega
theorem kI3 (P : List Int) (W y a r : Nat) (hr : r < 8) : kI P W 3 y (8 * a + r) = P.getD (4 * (y * blkN W 3 + a) + 1) 0 / 2 ^ (r * 1) % 2 := by
  unfold kI
  rw [show (8 * a + r) / 2 ^ 3 = a by simp; omega, show (8 * a + r) % 2 ^ 3 = r by simp; omega]
  rfl
theorem sh3 (V : Int) (r : Nat) : V / 2 ^ (r * 1) / 2 = V / 2 ^ ((r + 1) * 1) := by
  rw [Nat.add_mul, Nat.one_mul, Int.pow_add, ← Int.ediv_ediv_of_nonneg (Int.le_of_lt (Int.pow_pos (by decide)))]
  rfl

set_option maxRecDepth 100000 in
set_option maxHeartbeats 4000000 in
theorem idx3_any (T gp cap W H base : Nat) (Ad : Option Addr) (capd : Nat) (P D : List Int) (w : World) (hW : 1 ≤ W) (hW2 : (W : Int) ≤ 16384) (hH : (H : Int) ≤ 16384) (hWH : ((W * H : Nat) : Int) ≤ 16384) (hP : P.length = 4 * (H * blkN W 3)) (hPB : Byt P) (hDl : D.length = 1024)
    (hb : base ≤ w.heap.size) (hTB : Blk w T 55 #[.int .u32 0, .int .i32 W, .int .u32 3, .slice Ad 1024 capd]) (hrd : Rd .u8 w w.heap.size Ad D)
    (hown : w.ownsRow base 5 1 (.slice (some ⟨gp, 0, none⟩) (4 * (H * blkN W 3)) cap) (4 * (H * blkN W 3)) (P.map (Value.int .u8))) :
    Calls Try.prog 33 #[.pointer (some ⟨T, 0, none⟩), .slice (some ⟨gp, 0, none⟩) (4 * (H * blkN W 3)) cap, .int .i32 H] w fun e w' => e = .returned (.slice (some ⟨w.heap.size, 0, none⟩) (4 * (W * H)) (4 * (W * H))) ∧
      w'.ownsRow base 5 1 (.slice (some ⟨w.heap.size, 0, none⟩) (4 * (W * H)) (4 * (W * H))) (4 * (W * H)) ((outN P D W 3 (W * H)).map (Value.int .u8)) ∧ Upd [] w w' := by
  have t1 := hTB.cell 1
  have t2 := hTB.cell 2
  simp at t1 t2
  have hlen := outN_len P D W 3 (W * H)
  have hTw : T < w.heap.size := hTB.lt
  have hgp : gp < w.heap.size := (hown.lt gp rfl).2
  have hmul : 4 * (W : Int) * (H : Int) = ((4 * (W * H) : Nat) : Int) := by rw [Int.natCast_mul, Int.natCast_mul, Int.mul_assoc]; rfl
  have hwr1 : IntKind.i32.wrap (4 * (W : Int)) = 4 * (W : Int) := IntWalk.i32_in _ (by omega)
  have hwr2 : IntKind.i32.wrap (4 * (W : Int) * (H : Int)) = 4 * (W : Int) * (H : Int) := IntWalk.i32_in _ (by omega)
  replace hmul := hide hmul
  have hbl := blkN_le W 3
  have hbH : H * blkN W 3 ≤ H * W := Nat.mul_le_mul_left _ hbl
  rw [Nat.mul_comm H W] at hbH
  have hg0 : (madeCells (Value.int .u8 0).cells (4 * (W * H) * 1)).toList = (halfP (outN P D W 3 (W * H)) (List.replicate (4 * (W * H)) 0) 0).map (Value.int .u8) := by
    rw [halfP_none]
    apply List.ext_getElem (by simp [madeCells])
    intro j h1 h2
    simp [madeCells, Value.cells, Nat.mod_one]
  have hZl : (List.replicate (4 * (W * H)) (0 : Int)).length = (outN P D W 3 (W * H)).length := by rw [hlen]; simp
  generalize List.replicate (4 * (W * H)) (0 : Int) = Z at *
  replace hPB := hide hPB
  replace hrd := hide hrd
  replace hTB := hide hTB
  replace hown := hide hown
  replace hP := hide hP
  replace hDl := hide hDl
  replace hlen := hide hlen
  replace hg0 := hide hg0
  replace hZl := hide hZl
  go_enter Try.func33, Try.ntmps33
  go_wp2
  go_quiet (fail)
  go_wp2
  obtain ⟨i0, hi0, hz0, hz1, hz2⟩ := info_parts info_u8p
  obtain ⟨w9, hrun, hown9, hg9⟩ := run_make_full (P := Try.prog) (w.drewN (nq + 1)) base 22 5 i0 (.int .u8 0) 1 Try.underlying22 hi0 hz0 hz1 .i32 .i32 (4 * (W * H)) (by rw [hz2]; omega) (by simp only [maxLen]; omega) (by simpa using hb)
  rw [← hmul.out] at hrun
  clear hi0 hz0 hz1 hz2
  replace hown9 := hide hown9
  replace hg9 := hide hg9
  go_region_held3 (fun W' => W'.cell? ⟨T, 1, none⟩ = some (.int .i32 W))
    (first
      | go_keep
      | (rw [World.cell?_of_block (hg9.out.block T (by simp; omega) (by simp))]
         simp [*]))
    (fail)
  have U9 : Upd [] w w9 := ((Upd.refl [] w).drewN (nq + 1)).grown hg9.out (fun g h => by cases h)
  have ho9 := hown9.out
  rw [hg0.out] at ho9
  change w9.ownsRow base 5 1 (.slice (some ⟨w.heap.size, 0, none⟩) (4 * (W * H)) (4 * (W * H))) (4 * (W * H)) _ at ho9
  replace ho9 := hide ho9
  replace U9 := hide U9
  clear hrun hg9 hown9 t1 t2
  go_wp2
  go_loopg [12, 13, 14, 16] H (fun k u12 u13 u14 u16 wr => ∃ y : Nat, k + y = H ∧ u16 = .int .i32 y ∧ u12 = .int .i64 (4 * ((y * W : Nat) : Int)) ∧ u13 = .int .i64 (4 * ((y * blkN W 3 : Nat) : Int)) ∧
    wr.ownsRow base 5 1 (.slice (some ⟨w.heap.size, 0, none⟩) (4 * (W * H)) (4 * (W * H))) (4 * (W * H)) ((halfP (outN P D W 3 (W * H)) Z (y * W)).map (Value.int .u8)) ∧ Upd [] w wr)
  case atStart => exact ⟨0, rfl, rfl, by simp, by simp, by simpa using ho9.out, U9.out⟩
  case round =>
    obtain ⟨y, hy, rfl, rfl, rfl, ho, hU⟩ := hrel
    cases gk with
    | zero =>
      have hy' : y = H := by omega
      subst hy'
      rw [Nat.mul_comm y W, halfP_full _ _ _ hZl.out hlen.out] at ho
      replace ho := hide ho
      replace hU := hide hU
      go_wp2
      go_ret
      exact ⟨rfl, ho.out, hU.out⟩
    | succ k =>
      have t1 := (hU.cell (p := ⟨T, 1, none⟩) hTw (by simp)).trans (hTB.out.cell 1)
      simp at t1
      have hyH : y < H := by omega
      have hyHi : (y : Int) < (H : Int) := by omega
      have hrow : y * W + W ≤ W * H := by
        have h1 : (y + 1) * W ≤ H * W := Nat.mul_le_mul_right _ hyH
        rw [Nat.add_mul, Nat.one_mul, Nat.mul_comm H W] at h1
        exact h1
      have hy1 : ((y + 1) * W : Nat) = y * W + W := by rw [Nat.add_mul, Nat.one_mul]
      have hq1 : ((y + 1) * blkN W 3 : Nat) = y * blkN W 3 + blkN W 3 := by rw [Nat.add_mul, Nat.one_mul]
      have hq2 : y * blkN W 3 + blkN W 3 ≤ H * blkN W 3 := by
        rw [← hq1]
        exact Nat.mul_le_mul_right _ hyH
      generalize hQ0 : y * blkN W 3 = q0 at *
      generalize hYW : y * W = yw at *
      obtain ⟨wo, hwo⟩ : ∃ x, x = wr := ⟨_, rfl⟩
      subst hwo
      replace ho := hide ho
      replace hU := hide hU
      replace hy1 := hide hy1
      replace hq1 := hide hq1
      replace hYW := hide hYW
      replace hQ0 := hide hQ0
      have hWi : (1 : Int) ≤ (W : Int) := by omega
      go_wp2
      go_loopg [12, 13, 14, 17] W (fun k u12 u13 u14 u17 wr => ∃ x a r : Nat, k + x = W ∧ x = 8 * a + r ∧ r < 8 ∧ u17 = .int .i32 x ∧ u12 = .int .i64 (4 * ((yw + x : Nat) : Int)) ∧ u13 = .int .i64 (4 * ((q0 + (if r = 0 then a else a + 1) : Nat) : Int)) ∧
        (r ≠ 0 → u14 = .int .u32 (P.getD (4 * (q0 + a) + 1) 0 / 2 ^ (r * 1))) ∧
        wr.ownsRow base 5 1 (.slice (some ⟨w.heap.size, 0, none⟩) (4 * (W * H)) (4 * (W * H))) (4 * (W * H)) ((halfP (outN P D W 3 (W * H)) Z (yw + x)).map (Value.int .u8)) ∧ Upd [] w wr)
      case atStart => exact ⟨0, 0, 0, rfl, rfl, by decide, rfl, rfl, rfl, fun h => absurd rfl h, ho.out, hU.out⟩
      case round =>
        obtain ⟨x, a, r, hx, hxa, hr, rfl, rfl, rfl, hreg, hoj, hUj⟩ := hrel
        replace t1 := ((hUj.cell (p := ⟨T, 1, none⟩) hTw (by simp)).trans (hTB.out.cell 1))
        simp at t1
        cases gk with
        | zero =>
          have hx' : x = W := by omega
          subst hx'
          have hbk := blk3 a r hr
          rw [← hxa] at hbk
          rw [← hbk]
          replace hbk := hide hbk
          replace hoj := hide hoj
          replace hUj := hide hUj
          replace hxa := hide hxa
          clear hreg ho hU
          go_wp2
          go_roundg k
          case measure => omega
          case rel => exact ⟨y + 1, by omega, by go_num, by rw [hy1.out], by rw [hq1.out], by rw [hy1.out]; exact hoj.out, hUj.out⟩
        | succ k2 =>
          have hxW : x < W := by omega
          have hxWi : (x : Int) < (W : Int) := by omega
          have hlt : yw + x < W * H := by omega
          have hk := kAt_yx P W 3 y x hxW
          have hki := kN_cast P W 3 y x (by decide)
          have hk2 := kN_lt P W 3 y x (by decide)
          rw [hxa, kI3 P W y a r hr, hQ0.out] at hki
          rw [← hxa] at hki
          rw [hYW.out] at hk
          have hst := halfO_step (outN P D W 3 (W * H)) Z (yw + x) hZl.out (by rw [hlen.out]; omega)
          have g0 := outN_get P D W 3 (W * H) (yw + x) hlt 0 (by decide)
          have g1 := outN_get P D W 3 (W * H) (yw + x) hlt 1 (by decide)
          have g2 := outN_get P D W 3 (W * H) (yw + x) hlt 2 (by decide)
          have g3 := outN_get P D W 3 (W * H) (yw + x) hlt 3 (by decide)
          rw [Nat.add_zero, Nat.add_zero] at g0
          rw [g0, g1, g2, g3, hk] at hst
          generalize kN P W 3 y x = q at *
          have hVb := hPB.out (4 * (q0 + a) + 1)
          have hab : q0 + a < H * blkN W 3 := by
            have h1 := div_lt_blk x W 3 hxW
            rw [show x / 2 ^ 3 = a by simp; omega] at h1
            omega
          have hab2 : ((q0 + a : Nat) : Int) < ((H * blkN W 3 : Nat) : Int) := by omega
          have cV := own_cell (hUj.own hown.out (by simp)) (4 * (q0 + a) + 1) (by omega)
          obtain ⟨bd, offd, rfl, hbd, hcd⟩ := hrd.out.at_ (j := 4 * q) (by rw [hDl.out]; omega)
          have dc := fun c (hc : c < 4) => (hUj.cell (p := ⟨bd, offd + (4 * q + c), none⟩) hbd (by simp)).trans (hcd (4 * q + c) (by rw [hDl.out]; omega))
          have d0 := dc 0 (by decide)
          have d1 := dc 1 (by decide)
          have d2 := dc 2 (by decide)
          have d3 := dc 3 (by decide)
          rw [Nat.add_zero] at d0
          have hbg : bd ≠ w.heap.size := by omega
          have hbg' : w.heap.size ≠ bd := by omega
          have hT1 : T ≠ w.heap.size := by omega
          have hT' : w.heap.size ≠ T := by omega
          have t3 := (hUj.cell (p := ⟨T, 3, none⟩) hTw (by simp)).trans (hTB.out.cell 3)
          simp at t3
          have hand0 : bits .and .i32 (x : Int) 7 = (x : Int) % 8 := and_mask .i32 3 (by decide) x
          have hand : bits .and .i32 (x : Int) 7 = (r : Int) := by rw [hand0]; omega
          clear dc hcd g0 g1 g2 g3 hand0
          generalize D.getD (4 * q) 0 = y0 at *
          generalize D.getD (4 * q + 1) 0 = y1 at *
          generalize D.getD (4 * q + 2) 0 = y2 at *
          generalize D.getD (4 * q + 3) 0 = y3 at *
          have hIb : ((yw + x : Nat) : Int) < ((W * H : Nat) : Int) := by omega
          have hIx : yw + (x + 1) = yw + x + 1 := rfl
          generalize hI : yw + x = I at *
          generalize hQA : q0 + a = QA at *
          generalize hHB : H * blkN W 3 = HB at *
          generalize hWH' : W * H = WH at *
          have o1 := own_set hoj (4 * I) y0
          have o2 := own_set o1 (4 * I + 1) y1
          have o3 := own_set o2 (4 * I + 2) y2
          have o4 := own_set o3 (4 * I + 3) y3
          rw [hst] at o4
          have v0 := own_cell hoj (4 * I) (by omega)
          have v1 := own_cell o1 (4 * I + 1) (by omega)
          have v2 := own_cell o2 (4 * I + 2) (by omega)
          have v3 := own_cell o3 (4 * I + 3) (by omega)
          have hf := hoj.frozenAt (4 * I)
          have hf1 := o1.frozenAt (4 * I + 1)
          have hf2 := o2.frozenAt (4 * I + 2)
          have hf3 := o3.frozenAt (4 * I + 3)
          have tt := fun (W' : World) (j : Nat) (u : Value) (v : Value) (h : W'.cell? ⟨T, 3, none⟩ = some v) => (World.cell?_setCell_other W' ⟨w.heap.size, j, none⟩ ⟨T, 3, none⟩ u (by simp [hT1, hT'])).trans h
          have dd := fun (W' : World) (j i : Nat) (u : Value) (v : Value) (h : W'.cell? ⟨bd, i, none⟩ = some v) => (World.cell?_setCell_other W' ⟨w.heap.size, j, none⟩ ⟨bd, i, none⟩ u (by simp [hbg, hbg'])).trans h
          have t31 := tt _ (4 * I) (.int .u8 y0) _ t3
          have t32 := tt _ (4 * I + 1) (.int .u8 y1) _ t31
          have t33 := tt _ (4 * I + 2) (.int .u8 y2) _ t32
          have d11 := dd _ (4 * I) _ (.int .u8 y0) _ d1
          have d21 := dd _ (4 * I) _ (.int .u8 y0) _ d2
          have d31 := dd _ (4 * I) _ (.int .u8 y0) _ d3
          have d22 := dd _ (4 * I + 1) _ (.int .u8 y1) _ d21
          have d32 := dd _ (4 * I + 1) _ (.int .u8 y1) _ d31
          have d33 := dd _ (4 * I + 2) _ (.int .u8 y2) _ d32
          clear tt dd d21 d31 d32
          generalize ((((halfP (outN P D W 3 WH) Z I).set (4 * I) y0).set (4 * I + 1) y1).set (4 * I + 2) y2).getD (4 * I + 3) 0 = vv3 at *
          generalize (((halfP (outN P D W 3 WH) Z I).set (4 * I) y0).set (4 * I + 1) y1).getD (4 * I + 2) 0 = vv2 at *
          generalize ((halfP (outN P D W 3 WH) Z I).set (4 * I) y0).getD (4 * I + 1) 0 = vv1 at *
          generalize (halfP (outN P D W 3 WH) Z I).getD (4 * I) 0 = vv0 at *
          have e0 : (4 * (I : Int)).toNat = 4 * I := by omega
          have e1 : (4 * (I : Int) + 1).toNat = 4 * I + 1 := by omega
          have e2 : (4 * (I : Int) + 2).toNat = 4 * I + 2 := by omega
          have e3 : (4 * (I : Int) + 3).toNat = 4 * I + 3 := by omega
          have k0 : (4 * (q : Int)).toNat = 4 * q := by omega
          have k1 : (4 * (q : Int) + 1).toNat = 4 * q + 1 := by omega
          have k2' : (4 * (q : Int) + 2).toNat = 4 * q + 2 := by omega
          have k3 : (4 * (q : Int) + 3).toNat = 4 * q + 3 := by omega
          have p1 : (4 * (QA : Int) + 1).toNat = 4 * QA + 1 := by omega
          have hq : (q : Int) ≤ 255 := by omega
          have hq0' : (0 : Int) ≤ (q : Int) := by omega
          have hQ0i : (0 : Int) ≤ (QA : Int) := by omega
          have hI0 : (0 : Int) ≤ (I : Int) := by omega
          have hIi : (I : Int) < (WH : Int) := by omega
          have hHBi : (HB : Int) ≤ 16384 := by omega
          have c1 : ((4 * WH : Nat) : Int) = 4 * (WH : Int) := by omega
          have c2 : ((4 * HB : Nat) : Int) = 4 * (HB : Int) := by omega
          have hsh := sh3 (P.getD (4 * QA + 1) 0) r
          have hV0 : (0 : Int) ≤ P.getD (4 * QA + 1) 0 / 2 ^ (r * 1) := Int.ediv_nonneg hVb.1 (Int.le_of_lt (Int.pow_pos (by decide)))
          have hV1 : P.getD (4 * QA + 1) 0 / 2 ^ (r * 1) ≤ 255 := Int.le_trans (Int.ediv_le_self _ hVb.1) hVb.2
          have hvm : bits .and .u32 (P.getD (4 * QA + 1) 0 / 2 ^ (r * 1)) 1 = (q : Int) := by
            rw [hki]
            exact and_mask .u32 1 (by decide) _
          replace o4 := hide o4
          replace hUj := hide hUj
          replace hst := hide hst
          replace hki := hide hki
          replace hsh := hide hsh
          replace hI := hide hI
          replace hQA := hide hQA
          replace hHB := hide hHB
          replace hWH' := hide hWH'
          replace hIx := hide hIx
          clear o1 o2 o3 hoj d1 d2 d3 ho hU hk
          replace hxa := hide hxa
          by_cases h0 : r = 0
          · subst h0
            simp only [if_true]
            have hV : P.getD (4 * QA + 1) 0 / 2 ^ (0 * 1) = P.getD (4 * QA + 1) 0 := by simp
            rw [hV] at hvm hV0 hV1
            replace hV := hide hV
            clear hreg
            rw [hQA.out]
            generalize hVe : P.getD (4 * QA + 1) 0 = V at *
            replace hVe := hide hVe
            go_wp2
            go_roundg k2
            case measure => omega
            case rel =>
              have e1 := hI.out
              have e2 := hQA.out
              have e3 := hxa.out
              refine ⟨x + 1, a, 1, by omega, by omega, by decide, by go_num, ?_, ?_, ?_, ?_, (((hUj.out.setCell (.inr (by simp)) _).setCell (.inr (by simp)) _).setCell (.inr (by simp)) _).setCell (.inr (by simp)) _⟩
              · congr 1
                omega
              · rw [if_neg (by omega)]
                congr 1
                omega
              · intro _
                rw [hQA.out, hVe.out]
                have h1 := hsh.out
                rw [hV.out] at h1
                exact congrArg (Value.int .u32) h1
              · rw [hIx.out]
                exact o4.out
          · have hr0 : ((r : Int) == 0) = false := by simp; omega
            have hu := hreg h0
            subst hu
            simp only [h0, if_false]
            clear hreg
            rw [show q0 + (a + 1) = QA + 1 by have := hQA.out; omega]
            generalize P.getD (4 * QA + 1) 0 / 2 ^ (r * 1) = v at *
            replace h0 := hide h0
            go_wp2
            go_roundg k2
            case measure => omega
            case rel =>
              have e1 := hI.out
              have e2 := hQA.out
              have e3 := hxa.out
              by_cases hrK : r + 1 < 8
              · refine ⟨x + 1, a, r + 1, by omega, by omega, hrK, by go_num, ?_, ?_, ?_, ?_, (((hUj.out.setCell (.inr (by simp)) _).setCell (.inr (by simp)) _).setCell (.inr (by simp)) _).setCell (.inr (by simp)) _⟩
                · congr 1
                  omega
                · rw [if_neg (by omega)]
                  congr 1
                  omega
                · intro _
                  rw [hQA.out]
                  exact congrArg (Value.int .u32) hsh.out
                · rw [hIx.out]
                  exact o4.out
              · refine ⟨x + 1, a + 1, 0, by omega, by omega, by decide, by go_num, ?_, ?_, fun h => absurd rfl h, ?_, (((hUj.out.setCell (.inr (by simp)) _).setCell (.inr (by simp)) _).setCell (.inr (by simp)) _).setCell (.inr (by simp)) _⟩
                · congr 1
                  omega
                · rw [if_pos rfl]
                  congr 1
                  omega
                · rw [hIx.out]
                  exact o4.out
end Go.Proofs.Ytpiapfahcoopbaa

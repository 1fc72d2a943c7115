/- 'spec.inverse': the walk. -/
import Derived.Test.YthbidebcljegjaaDoorPass
namespace Go.Proofs.YthbidebcljegjaaDoor
set_option linter.unusedSimpArgs false
set_option linter.unusedVariables false
open Go.RowKit Plain

theorem blk_setCells {t : TypeId} {g : Nat} : ∀ (vs : List Value) (o : Nat) {w : World} {cs : Array Value}, Blk w g t cs → o + vs.length = cs.size → Blk (w.setCells g o vs) g t (cs.toList.take o ++ vs).toArray
  | [], o, w, cs, h, e => by
    have e1 : cs.toList.take o = cs.toList := List.take_of_length_le (by rw [Array.length_toList]; simp at e; omega)
    rw [e1, List.append_nil, Array.toArray_toList]
    exact h
  | v :: r, o, w, cs, h, e => by
    have h1 := blk_setCells r (o + 1) (h.set_ o v) (by rw [Array.size_setIfInBounds]; simp at e; omega)
    have e2 : (cs.setIfInBounds o v).toList.take (o + 1) ++ r = cs.toList.take o ++ v :: r := by
      have ho : o < cs.toList.length := by rw [Array.length_toList]; simp at e; omega
      rw [Array.toList_setIfInBounds, List.take_add_one, List.take_set_of_le (Nat.le_refl _), List.getElem?_set_self ho]
      simp
    rw [e2] at h1
    exact h1
theorem size_setCells (g : Nat) : ∀ (vs : List Value) (o : Nat) (w : World), (w.setCells g o vs).heap.size = w.heap.size
  | [], _, _ => rfl
  | v :: r, o, w => (size_setCells g r (o + 1) (w.setCell ⟨g, o, none⟩ v)).trans (by simp)
theorem blk_stored {t : TypeId} {g : Nat} {w : World} {cs XS : Array Value} (h : Blk w g t cs) (e : XS.size = cs.size) : Blk (w.setCells g 0 XS.toList) g t XS := by
  have h1 := blk_setCells XS.toList 0 h (by rw [Array.length_toList]; omega)
  simpa using h1

set_option maxRecDepth 100000 in
set_option maxHeartbeats 4000000 in
theorem sinv_any (x : Nat → Int) (w : World) (hx : ∀ j, -25079 ≤ x j ∧ x j ≤ 25079) (ht : ∀ j, -25079 ≤ pT x j ∧ pT x j ≤ 25079) :
    Calls Tryd.prog 48 #[.agg (rowF .i64 x 16)] w fun e w' => e = .returned (.agg (rowF .i64 (iT (pT x)) 16)) ∧ Below w.heap.size w w' := by
  have cP := fun w1 => pass_any x w1 hx
  have hsz : (rowF .i64 x 16).size = 16 := rowF_size _ _ _
  have hs2 : (rowF .i64 (pT x) 16).size = 16 := rowF_size _ _ _
  have h2 := rowF_one .i64 (pT x) 16
  replace cP := hide cP
  replace hx := hide hx
  replace ht := hide ht
  have hbx := hide ((Blk.new w 37 (rowF .i64 x 16)).alloc (.cells (rowF .i64 (fun _ => 0) 16) 37)).range
  have b1 := Blk.new (w.alloc (.cells (rowF .i64 x 16) 37)) 37 (rowF .i64 (fun _ => 0) 16)
  rw [World.size_alloc] at b1
  have b1' := hide b1
  have hb := hide (((Below.refl _ w).alloc (Nat.le_refl _) (.cells (rowF .i64 x 16) 37)).alloc (by simp) (.cells (rowF .i64 (fun _ => 0) 16) 37))
  clear b1
  generalize hXS : rowF .i64 (pT x) 16 = XS at *
  replace hXS := hide hXS
  have hsc := size_setCells
  go_enter Tryd.func48, Tryd.ntmps48
  go_wp2_with (first | (refine wpList_load_mid rfl 37 (.tmp 1) rfl w.heap.size 0 rfl (rowF .i64 x 16).toList _ hbx.out Tryd.underlying37 rfl (by rw [Array.length_toList, hsz]; exact size_16int) ?_) | (go_at_call 63; (with_reducible refine (cP.out _).mono ?_); rintro e w2 ⟨rfl, hb2⟩; replace hb2 := hide hb2) | (refine wpList_store_mid rfl 37 (.tmp 3) (.tmp 9) rfl w2.heap.size 0 XS.toList.toArray rfl rfl (by rw [Array.toArray_toList, hs2]; exact (Blk.new w2 37 (rowF .i64 (fun _ => 0) 16)).there 16 (by rw [rowF_size]; exact Nat.le_refl _)) (by rw [Array.toArray_toList, hs2]; exact size_16int) (by rw [Array.toArray_toList]; exact h2) ?_) | fail)
  have hs3 := hb2.out.size
  simp only [World.size_alloc] at hs3
  have hX0 : Hid (Blk (((w2.alloc (.cells (rowF .i64 (fun _ => 0) 16) 37)).setCells w2.heap.size 0 XS.toList).alloc (.cells (rowF .i64 (fun _ => 0) 16) 37)) w2.heap.size 37 XS) := hide ((blk_stored (Blk.new w2 37 (rowF .i64 (fun _ => 0) 16)) (by rw [hs2, rowF_size])).alloc _)
  have hR0 := hide ((blk_setCells_far (show w.heap.size + 1 ≠ w2.heap.size by omega) XS.toList 0 ((b1'.out.below hb2.out (by simp)).alloc (.cells (rowF .i64 (fun _ => 0) 16) 37))).alloc (.cells (rowF .i64 (fun _ => 0) 16) 37))
  have hszS : ((w2.alloc (.cells (rowF .i64 (fun _ => 0) 16) 37)).setCells w2.heap.size 0 XS.toList).heap.size = w2.heap.size + 1 := by rw [size_setCells, World.size_alloc]
  have hM0 := Blk.new ((w2.alloc (.cells (rowF .i64 (fun _ => 0) 16) 37)).setCells w2.heap.size 0 XS.toList) 37 (rowF .i64 (fun _ => 0) 16)
  rw [hszS] at hM0
  replace hM0 := hide hM0
  have hb0 := hide ((below_setCells (show w.heap.size ≤ w2.heap.size by omega) XS.toList 0 ((hb.out.trans (hb2.out.mono (by simp; omega))).alloc (by omega) (.cells (rowF .i64 (fun _ => 0) 16) 37))).alloc (show w.heap.size ≤ _ by rw [hszS]; omega) (.cells (rowF .i64 (fun _ => 0) 16) 37))
  have hsz0 : Hid (w2.heap.size + 2 ≤ (((w2.alloc (.cells (rowF .i64 (fun _ => 0) 16) 37)).setCells w2.heap.size 0 XS.toList).alloc (.cells (rowF .i64 (fun _ => 0) 16) 37)).heap.size) := hide (by rw [World.size_alloc, hszS]; exact Nat.le_refl _)
  have hT0 : w.heap.size + 2 ≤ w2.heap.size := by omega
  clear hb2 hb b1' hbx hs3 hszS cP hsc
  generalize w2.heap.size = T0 at *
  go_loopg [5] 4 (fun k u5 wr => ∃ i : Nat, k + i = 4 ∧ u5 = .int .i64 i ∧ Blk wr T0 37 (rowF .i64 (pT x) 16) ∧ Blk wr (w.heap.size + 1) 37 (rowF .i64 (fun _ => 0) 16) ∧
    Blk wr (T0 + 1) 37 (rowF .i64 (fun j => if j < 4 * i then iT (pT x) j else 0) 16) ∧ Below w.heap.size w wr ∧ T0 + 2 ≤ wr.heap.size)
  case atStart =>
    refine ⟨0, rfl, rfl, Blk.to hX0.out rfl hXS.out, hR0.out, ?_, hb0.out, hsz0.out⟩
    exact Blk.to hM0.out rfl (rowF_congr .i64 16 (fun i _ => if_neg (by omega)))
  case round =>
    obtain ⟨i, hi, rfl, hX, hR, hM, hbel, hsz⟩ := hrel
    clear hX0 hR0 hM0 hb0 hsz0 hs2 h2 hXS
    cases gk with
    | zero =>
      have hi4 : i = 4 := by omega
      subst hi4
      rw [rowF_congr .i64 (G := iT (pT x)) 16 (fun j hj => if_pos hj)] at hM
      have hs2 : (rowF .i64 (iT (pT x)) 16).size = 16 := rowF_size _ _ _
      have h2 := rowF_one .i64 (iT (pT x)) 16
      have hrng := hide hM.range
      have hT := hide (hR.there 16 (by rw [rowF_size]; exact Nat.le_refl _))
      generalize hXS : rowF .i64 (iT (pT x)) 16 = XS at *
      replace hXS := hide hXS
      replace hbel := hide hbel
      clear hM hR hX
      go_wp2_with (first | (refine wpList_load_mid rfl 37 (.tmp 4) rfl (T0 + 1) 0 rfl XS.toList _ hrng.out Tryd.underlying37 rfl (by rw [Array.length_toList, hs2]; exact size_16int) ?_) | (refine wpList_store_mid rfl 37 (.tmp 2) (.tmp 48) rfl (w.heap.size + 1) 0 XS.toList.toArray rfl rfl (by rw [Array.toArray_toList, hs2]; exact hT.out) (by rw [Array.toArray_toList, hs2]; exact size_16int) (by rw [Array.toArray_toList]; exact h2) ?_) | fail)
      have hrr : (loadVar 37 ⟨w.heap.size + 1, 0, none⟩).run Tryd.prog (wr.setCells (w.heap.size + 1) 0 XS.toList) = .ok (.agg XS) (wr.setCells (w.heap.size + 1) 0 XS.toList) := by
        have h9 := run_loadVar_mid (P := Tryd.prog) _ (w.heap.size + 1) 0 37 XS.toList _ (World.rangeAt_setCells_same wr (w.heap.size + 1) 0 XS.toList (by rw [Array.length_toList, hs2]; exact hT.out)) Tryd.underlying37 rfl (by rw [Array.length_toList, hs2]; exact size_16int)
        rw [Array.toArray_toList] at h9
        exact h9
      refine bodyPost_ret (ret_cell rfl rfl hrr) rfl ⟨by rw [hXS.out], below_setCells (by omega) _ _ hbel.out⟩
    | succ k =>
      have hi4 : i < 4 := by omega
      have hii : (i : Int) < 4 := by omega
      have hi0 : (0 : Int) ≤ (i : Int) := by omega
      have k0 := Blk.rowCell hX (4 * i) (by omega)
      have k1 := Blk.rowCell hX (4 * i + 1) (by omega)
      have k2 := Blk.rowCell hX (4 * i + 2) (by omega)
      have k3 := Blk.rowCell hX (4 * i + 3) (by omega)
      have cT := fun w => turned_any (pT x (4 * i)) (pT x (4 * i + 1)) (pT x (4 * i + 2)) (pT x (4 * i + 3)) w (ht.out _) (ht.out _) (ht.out _) (ht.out _)
      have n0 := tur_bd (pT x (4 * i)) (pT x (4 * i + 1)) (pT x (4 * i + 2)) (pT x (4 * i + 3)) 0 (ht.out _) (ht.out _) (ht.out _) (ht.out _)
      have n1 := tur_bd (pT x (4 * i)) (pT x (4 * i + 1)) (pT x (4 * i + 2)) (pT x (4 * i + 3)) 1 (ht.out _) (ht.out _) (ht.out _) (ht.out _)
      have n2 := tur_bd (pT x (4 * i)) (pT x (4 * i + 1)) (pT x (4 * i + 2)) (pT x (4 * i + 3)) 2 (ht.out _) (ht.out _) (ht.out _) (ht.out _)
      have n3 := tur_bd (pT x (4 * i)) (pT x (4 * i + 1)) (pT x (4 * i + 2)) (pT x (4 * i + 3)) 3 (ht.out _) (ht.out _) (ht.out _) (ht.out _)
      have m0 := iT_at (pT x) i 0 (by decide)
      have m1 := iT_at (pT x) i 1 (by decide)
      have m2 := iT_at (pT x) i 2 (by decide)
      have m3 := iT_at (pT x) i 3 (by decide)
      unfold row4 at cT
      generalize pT x (4 * i) = y0 at *
      generalize pT x (4 * i + 1) = y1 at *
      generalize pT x (4 * i + 2) = y2 at *
      generalize pT x (4 * i + 3) = y3 at *
      generalize tur y0 y1 y2 y3 0 = r0 at *
      generalize tur y0 y1 y2 y3 1 = r1 at *
      generalize tur y0 y1 y2 y3 2 = r2 at *
      generalize tur y0 y1 y2 y3 3 = r3 at *
      have i0 : 4 * (i : Int) < 16 := by omega
      have i1 : 4 * (i : Int) + 1 < 16 := by omega
      have i2 : 4 * (i : Int) + 2 < 16 := by omega
      have i3 : 4 * (i : Int) + 3 < 16 := by omega
      have j0 : (0 : Int) ≤ 4 * (i : Int) := by omega
      have j1 : (0 : Int) ≤ 4 * (i : Int) + 1 := by omega
      have j2 : (0 : Int) ≤ 4 * (i : Int) + 2 := by omega
      have j3 : (0 : Int) ≤ 4 * (i : Int) + 3 := by omega
      have W0 : IntKind.i64.wrap (4 * (i : Int)) = 4 * (i : Int) := IntWalk.i64_in _ (by omega)
      have W1 : IntKind.i64.wrap (4 * (i : Int) + 1) = 4 * (i : Int) + 1 := IntWalk.i64_in _ (by omega)
      have W2 : IntKind.i64.wrap (4 * (i : Int) + 2) = 4 * (i : Int) + 2 := IntWalk.i64_in _ (by omega)
      have W3 : IntKind.i64.wrap (4 * (i : Int) + 3) = 4 * (i : Int) + 3 := IntWalk.i64_in _ (by omega)
      have t0 : (4 * (i : Int)).toNat = 4 * i := by omega
      have t1 : (4 * (i : Int) + 1).toNat = 4 * i + 1 := by omega
      have t2 : (4 * (i : Int) + 2).toNat = 4 * i + 2 := by omega
      have t3 : (4 * (i : Int) + 3).toNat = 4 * i + 3 := by omega
      have hle0 : w.heap.size ≤ T0 := by omega
      replace cT := hide cT
      replace m0 := hide m0
      replace m1 := hide m1
      replace m2 := hide m2
      replace m3 := hide m3
      replace hR := hide hR
      replace hM := hide hM
      replace hX := hide hX
      replace hbel := hide hbel
      have hsz' := hide hsz
      clear hsz
      go_wp2
      have hS0 : wr.drew.cell? ⟨T0, 4 * i, none⟩ = some (.int .i64 y0) ∧ wr.drew.cell? ⟨T0, 4 * i + 1, none⟩ = some (.int .i64 y1) ∧ wr.drew.cell? ⟨T0, 4 * i + 2, none⟩ = some (.int .i64 y2) ∧ wr.drew.cell? ⟨T0, 4 * i + 3, none⟩ = some (.int .i64 y3) := ⟨k0, k1, k2, k3⟩
      clear k0 k1 k2 k3
      have hne : T0 ≠ wr.heap.size := by have := hsz'.out; omega
      have hlt0 : T0 < wr.heap.size := by have := hsz'.out; omega
      have hw8A : ∀ w', Below (wr.alloc (.cells #[.int .i64 0, .int .i64 0, .int .i64 0, .int .i64 0] 46)).drew.heap.size (wr.alloc (.cells #[.int .i64 0, .int .i64 0, .int .i64 0, .int .i64 0] 46)).drew w' → T0 < w'.heap.size := fun w' h => Nat.lt_of_lt_of_le (show T0 < (wr.alloc (.cells #[.int .i64 0, .int .i64 0, .int .i64 0, .int .i64 0] 46)).heap.size by rw [World.size_alloc]; omega) h.size
      have hw8B : ∀ w', Below wr.drew.heap.size wr.drew w' → T0 < w'.heap.size := fun w' h => Nat.lt_of_lt_of_le (show T0 < wr.heap.size from hlt0) h.size
      have hlA : wr.heap.size < (wr.alloc (.cells #[.int .i64 0, .int .i64 0, .int .i64 0, .int .i64 0] 46)).drew.heap.size := show wr.heap.size < (wr.alloc (.cells #[.int .i64 0, .int .i64 0, .int .i64 0, .int .i64 0] 46)).heap.size by rw [World.size_alloc]; omega
      have hZ0 : Blk (wr.alloc (.cells #[.int .i64 0, .int .i64 0, .int .i64 0, .int .i64 0] 46)).drew wr.heap.size 46 #[.int .i64 0, .int .i64 0, .int .i64 0, .int .i64 0] := Blk.new wr 46 #[.int .i64 0, .int .i64 0, .int .i64 0, .int .i64 0]
      replace hw8A := hide hw8A
      replace hw8B := hide hw8B
      replace hlA := hide hlA
      replace hZ0 := hide hZ0
      go_region_held3 (fun W => W.cell? ⟨T0, 4 * i, none⟩ = some (.int .i64 y0) ∧ W.cell? ⟨T0, 4 * i + 1, none⟩ = some (.int .i64 y1) ∧ W.cell? ⟨T0, 4 * i + 2, none⟩ = some (.int .i64 y2) ∧ W.cell? ⟨T0, 4 * i + 3, none⟩ = some (.int .i64 y3))
        (first | with_reducible exact hS0 | with_reducible exact keep4m (by assumption) | with_reducible exact keep4b (by assumption) hb' | with_reducible exact keep4n (by assumption) | with_reducible exact keep4a (by assumption) hw8 | with_reducible exact keep4s (keep4s (keep4s (keep4s (by assumption) hne) hne) hne) hne | (trace_state; fail))
        (first
          | (go_at_call 68; (with_reducible refine (cT.out ((wr.alloc (.cells #[.int .i64 0, .int .i64 0, .int .i64 0, .int .i64 0] 46)).drew)).mono ?_); rintro e w' ⟨rfl, hb'⟩;
              have hw8 := hw8A.out w' hb'; have hZ4 := hide (hZ0.out.below hb' hlA.out);
              have c0 := hZ4.out.cell 0; have c1 := hZ4.out.cell 1; have c2 := hZ4.out.cell 2; have c3 := hZ4.out.cell 3;
              have f0 := hZ4.out.frozen 0; have f1 := hZ4.out.frozen 1; have f2 := hZ4.out.frozen 2; have f3 := hZ4.out.frozen 3;
              simp only [List.getElem?_toArray, List.getElem?_cons_zero, List.getElem?_cons_succ] at c0 c1 c2 c3)
          | (go_at_call 68; (with_reducible refine (cT.out wr.drew).mono ?_); rintro e w' ⟨rfl, hb'⟩; have hw8 := hw8B.out w' hb'))
      · have g1 : w.heap.size + 1 < wr.heap.size := by have := hsz'.out; omega
        have g2 : T0 + 1 < wr.heap.size := by have := hsz'.out; omega
        have hX1 := hide (((Blk.to (w' := wr.drew) hX.out rfl rfl).below hb' hlt0).alloc (.cells #[.int .i64 r0, .int .i64 r1, .int .i64 r2, .int .i64 r3] 46))
        have hR1 := hide (((Blk.to (w' := wr.drew) hR.out rfl rfl).below hb' g1).alloc (.cells #[.int .i64 r0, .int .i64 r1, .int .i64 r2, .int .i64 r3] 46))
        have hM1 := hide (((Blk.to (w' := wr.drew) hM.out rfl rfl).below hb' g2).alloc (.cells #[.int .i64 r0, .int .i64 r1, .int .i64 r2, .int .i64 r3] 46))
        have hB1 := hide (Blk.new w' 46 #[.int .i64 r0, .int .i64 r1, .int .i64 r2, .int .i64 r3])
        have hszW : wr.heap.size ≤ w'.heap.size := hb'.size
        have hbel1 := hide (((hbel.out.drew).trans (hb'.mono (Nat.le_trans hle0 (Nat.le_of_lt hlt0)))).alloc (Nat.le_trans hle0 (Nat.le_of_lt hw8)) (.cells #[.int .i64 r0, .int .i64 r1, .int .i64 r2, .int .i64 r3] 46))
        have hBge : T0 + 2 ≤ w'.heap.size := Nat.le_trans hsz'.out hszW
        have hsz1 : Hid (T0 + 2 ≤ (w'.alloc (.cells #[.int .i64 r0, .int .i64 r1, .int .i64 r2, .int .i64 r3] 46)).heap.size) := hide (by rw [World.size_alloc]; omega)
        clear g1 g2 hw8 hszW
        clear hne hlt0 hw8A hw8B hlA hZ0 hb' hR hM hX hbel hsz' cT hS0
        generalize hBB : w'.heap.size = B at *
        clear hBB
        generalize (w'.alloc (.cells #[.int .i64 r0, .int .i64 r1, .int .i64 r2, .int .i64 r3] 46)) = W1 at *
        go_wp2
        go_loopg [7] 4 (fun k u7 wr => ∃ q : Nat, k + q = 4 ∧ u7 = .int .i64 q ∧ Blk wr B 46 #[.int .i64 r0, .int .i64 r1, .int .i64 r2, .int .i64 r3] ∧ Blk wr T0 37 (rowF .i64 (pT x) 16) ∧ Blk wr (w.heap.size + 1) 37 (rowF .i64 (fun _ => 0) 16) ∧
          Blk wr (T0 + 1) 37 (rowF .i64 (fun j => if j < 4 * i + q then iT (pT x) j else 0) 16) ∧ Below w.heap.size w wr ∧ T0 + 2 ≤ wr.heap.size)
        case atStart => exact ⟨0, rfl, rfl, hB1.out, hX1.out, hR1.out, Blk.to hM1.out rfl (rowF_congr .i64 16 (fun j _ => by simp)), hbel1.out, hsz1.out⟩
        case round =>
          obtain ⟨q, hq, rfl, hB2, hX2, hR2, hM2, hbel2, hsz2⟩ := hrel
          clear hB1 hX1 hR1 hM1 hbel1 hsz1
          cases gk with
          | zero =>
            have hq4 : q = 4 := by omega
            subst hq4
            replace hR2 := hide hR2
            replace hM2 := hide hM2
            replace hX2 := hide hX2
            replace hbel2 := hide hbel2
            replace hsz2 := hide hsz2
            clear hB2
            go_wp2
            go_roundg k
            case measure => omega
            case rel => exact ⟨i + 1, by omega, by go_num, hX2.out, hR2.out, Blk.to hM2.out rfl (rowF_congr .i64 16 (fun j hj => by rw [show 4 * (i + 1) = 4 * i + 4 by omega])), hbel2.out, hsz2.out⟩
          | succ k2 =>
            have hq4 : q < 4 := by omega
            have hqi : (q : Int) < 4 := by omega
            have hq0 : (0 : Int) ≤ (q : Int) := by omega
            obtain ⟨r, hr, hro, hrb⟩ : ∃ r, (#[.int .i64 r0, .int .i64 r1, .int .i64 r2, .int .i64 r3] : Array Value)[q]? = some (.int .i64 r) ∧ (r + 4) / 8 = iT (pT x) (4 * i + q) ∧ -100000 ≤ r ∧ r ≤ 100000 := by
              rcases (show q = 0 ∨ q = 1 ∨ q = 2 ∨ q = 3 by omega) with rfl | rfl | rfl | rfl
              · exact ⟨_, rfl, m0.out.symm, n0⟩
              · exact ⟨_, rfl, m1.out.symm, n1⟩
              · exact ⟨_, rfl, m2.out.symm, n2⟩
              · exact ⟨_, rfl, m3.out.symm, n3⟩
            have hcell := (hB2.cell q).trans hr
            have ho := Blk.rowCell hM2 (4 * i + q) (by omega)
            have hfz := Blk.frozen hM2 (4 * i + q)
            have ht : (4 * (i : Int) + (q : Int)).toNat = 4 * i + q := by omega
            have hl : 4 * (i : Int) + (q : Int) < 16 := by omega
            have hro' := hide hro
            clear hr hro
            replace hB2 := hide hB2
            replace hR2 := hide hR2
            replace hM2 := hide hM2
            replace hX2 := hide hX2
            replace hbel2 := hide hbel2
            replace hsz2 := hide hsz2
            go_wp2
            go_roundg k2
            case measure => omega
            case rel =>
              refine ⟨q + 1, by omega, by go_num, hB2.out.far (by simp; omega) _, hX2.out.far (by simp <;> omega) _, hR2.out.far (by simp <;> omega) _, ?_, hbel2.out.setCell (by simp <;> omega) _, by simpa using hsz2.out⟩
              refine Blk.rowSet hM2.out (4 * i + q) _ ?_
              intro j hj
              by_cases h : j = 4 * i + q
              · subst h; rw [if_pos (by omega), if_pos rfl, hro'.out]
              · rw [if_neg h]
                by_cases h2 : j < 4 * i + q
                · rw [if_pos h2, if_pos (by omega)]
                · rw [if_neg h2, if_neg (by omega)]
      · have g0 : T0 < (wr.alloc (.cells #[.int .i64 0, .int .i64 0, .int .i64 0, .int .i64 0] 46)).heap.size := by rw [World.size_alloc]; have := hsz'.out; omega
        have g1 : w.heap.size + 1 < (wr.alloc (.cells #[.int .i64 0, .int .i64 0, .int .i64 0, .int .i64 0] 46)).heap.size := by rw [World.size_alloc]; have := hsz'.out; omega
        have g2 : T0 + 1 < (wr.alloc (.cells #[.int .i64 0, .int .i64 0, .int .i64 0, .int .i64 0] 46)).heap.size := by rw [World.size_alloc]; have := hsz'.out; omega
        have hBge : T0 + 2 ≤ wr.heap.size := hsz'.out
        have hX1 := hide ((((((Blk.to (w' := (wr.alloc (.cells #[.int .i64 0, .int .i64 0, .int .i64 0, .int .i64 0] 46)).drew) (hX.out.alloc (.cells #[.int .i64 0, .int .i64 0, .int .i64 0, .int .i64 0] 46)) rfl rfl).below hb' g0).far (p := ⟨wr.heap.size, 0, none⟩) (by simp; omega) (.int .i64 r0)).far (p := ⟨wr.heap.size, 1, none⟩) (by simp; omega) (.int .i64 r1)).far (p := ⟨wr.heap.size, 2, none⟩) (by simp; omega) (.int .i64 r2)).far (p := ⟨wr.heap.size, 3, none⟩) (by simp; omega) (.int .i64 r3))
        have hR1 := hide ((((((Blk.to (w' := (wr.alloc (.cells #[.int .i64 0, .int .i64 0, .int .i64 0, .int .i64 0] 46)).drew) (hR.out.alloc (.cells #[.int .i64 0, .int .i64 0, .int .i64 0, .int .i64 0] 46)) rfl rfl).below hb' g1).far (p := ⟨wr.heap.size, 0, none⟩) (by simp; omega) (.int .i64 r0)).far (p := ⟨wr.heap.size, 1, none⟩) (by simp; omega) (.int .i64 r1)).far (p := ⟨wr.heap.size, 2, none⟩) (by simp; omega) (.int .i64 r2)).far (p := ⟨wr.heap.size, 3, none⟩) (by simp; omega) (.int .i64 r3))
        have hM1 := hide ((((((Blk.to (w' := (wr.alloc (.cells #[.int .i64 0, .int .i64 0, .int .i64 0, .int .i64 0] 46)).drew) (hM.out.alloc (.cells #[.int .i64 0, .int .i64 0, .int .i64 0, .int .i64 0] 46)) rfl rfl).below hb' g2).far (p := ⟨wr.heap.size, 0, none⟩) (by simp; omega) (.int .i64 r0)).far (p := ⟨wr.heap.size, 1, none⟩) (by simp; omega) (.int .i64 r1)).far (p := ⟨wr.heap.size, 2, none⟩) (by simp; omega) (.int .i64 r2)).far (p := ⟨wr.heap.size, 3, none⟩) (by simp; omega) (.int .i64 r3))
        have hB1 : Hid (Blk ((((w'.setCell ⟨wr.heap.size, 0, none⟩ (.int .i64 r0)).setCell ⟨wr.heap.size, 1, none⟩ (.int .i64 r1)).setCell ⟨wr.heap.size, 2, none⟩ (.int .i64 r2)).setCell ⟨wr.heap.size, 3, none⟩ (.int .i64 r3)) wr.heap.size 46 #[.int .i64 r0, .int .i64 r1, .int .i64 r2, .int .i64 r3]) := hide ((((hZ4.out.set_ 0 (.int .i64 r0)).set_ 1 (.int .i64 r1)).set_ 2 (.int .i64 r2)).set_ 3 (.int .i64 r3))
        have hszW : (wr.alloc (.cells #[.int .i64 0, .int .i64 0, .int .i64 0, .int .i64 0] 46)).heap.size ≤ w'.heap.size := hb'.size
        have hbel1 : Hid (Below w.heap.size w ((((w'.setCell ⟨wr.heap.size, 0, none⟩ (.int .i64 r0)).setCell ⟨wr.heap.size, 1, none⟩ (.int .i64 r1)).setCell ⟨wr.heap.size, 2, none⟩ (.int .i64 r2)).setCell ⟨wr.heap.size, 3, none⟩ (.int .i64 r3))) := hide ((((((hbel.out.alloc (Nat.le_trans hle0 (Nat.le_of_lt hlt0)) (.cells #[.int .i64 0, .int .i64 0, .int .i64 0, .int .i64 0] 46)).drew.trans (hb'.mono (Nat.le_trans hle0 (Nat.le_of_lt g0)))).setCell (by simp; omega) _).setCell (by simp; omega) _).setCell (by simp; omega) _).setCell (by simp; omega) _)
        have hsz1 : Hid (T0 + 2 ≤ ((((w'.setCell ⟨wr.heap.size, 0, none⟩ (.int .i64 r0)).setCell ⟨wr.heap.size, 1, none⟩ (.int .i64 r1)).setCell ⟨wr.heap.size, 2, none⟩ (.int .i64 r2)).setCell ⟨wr.heap.size, 3, none⟩ (.int .i64 r3)).heap.size) := hide (by have := hsz'.out; rw [World.size_alloc] at hszW; simp; omega)
        clear g0 g1 g2 hw8 hszW hZ4 c0 c1 c2 c3 f0 f1 f2 f3
        clear hne hlt0 hw8A hw8B hlA hZ0 hb' hR hM hX hbel hsz' cT hS0
        generalize hBB : wr.heap.size = B at *
        clear hBB
        generalize ((((w'.setCell ⟨wr.heap.size, 0, none⟩ (.int .i64 r0)).setCell ⟨wr.heap.size, 1, none⟩ (.int .i64 r1)).setCell ⟨wr.heap.size, 2, none⟩ (.int .i64 r2)).setCell ⟨wr.heap.size, 3, none⟩ (.int .i64 r3)) = W1 at *
        go_wp2
        go_loopg [7] 4 (fun k u7 wr => ∃ q : Nat, k + q = 4 ∧ u7 = .int .i64 q ∧ Blk wr B 46 #[.int .i64 r0, .int .i64 r1, .int .i64 r2, .int .i64 r3] ∧ Blk wr T0 37 (rowF .i64 (pT x) 16) ∧ Blk wr (w.heap.size + 1) 37 (rowF .i64 (fun _ => 0) 16) ∧
          Blk wr (T0 + 1) 37 (rowF .i64 (fun j => if j < 4 * i + q then iT (pT x) j else 0) 16) ∧ Below w.heap.size w wr ∧ T0 + 2 ≤ wr.heap.size)
        case atStart => exact ⟨0, rfl, rfl, hB1.out, hX1.out, hR1.out, Blk.to hM1.out rfl (rowF_congr .i64 16 (fun j _ => by simp)), hbel1.out, hsz1.out⟩
        case round =>
          obtain ⟨q, hq, rfl, hB2, hX2, hR2, hM2, hbel2, hsz2⟩ := hrel
          clear hB1 hX1 hR1 hM1 hbel1 hsz1
          cases gk with
          | zero =>
            have hq4 : q = 4 := by omega
            subst hq4
            replace hR2 := hide hR2
            replace hM2 := hide hM2
            replace hX2 := hide hX2
            replace hbel2 := hide hbel2
            replace hsz2 := hide hsz2
            clear hB2
            go_wp2
            go_roundg k
            case measure => omega
            case rel => exact ⟨i + 1, by omega, by go_num, hX2.out, hR2.out, Blk.to hM2.out rfl (rowF_congr .i64 16 (fun j hj => by rw [show 4 * (i + 1) = 4 * i + 4 by omega])), hbel2.out, hsz2.out⟩
          | succ k2 =>
            have hq4 : q < 4 := by omega
            have hqi : (q : Int) < 4 := by omega
            have hq0 : (0 : Int) ≤ (q : Int) := by omega
            obtain ⟨r, hr, hro, hrb⟩ : ∃ r, (#[.int .i64 r0, .int .i64 r1, .int .i64 r2, .int .i64 r3] : Array Value)[q]? = some (.int .i64 r) ∧ (r + 4) / 8 = iT (pT x) (4 * i + q) ∧ -100000 ≤ r ∧ r ≤ 100000 := by
              rcases (show q = 0 ∨ q = 1 ∨ q = 2 ∨ q = 3 by omega) with rfl | rfl | rfl | rfl
              · exact ⟨_, rfl, m0.out.symm, n0⟩
              · exact ⟨_, rfl, m1.out.symm, n1⟩
              · exact ⟨_, rfl, m2.out.symm, n2⟩
              · exact ⟨_, rfl, m3.out.symm, n3⟩
            have hcell := (hB2.cell q).trans hr
            have ho := Blk.rowCell hM2 (4 * i + q) (by omega)
            have hfz := Blk.frozen hM2 (4 * i + q)
            have ht : (4 * (i : Int) + (q : Int)).toNat = 4 * i + q := by omega
            have hl : 4 * (i : Int) + (q : Int) < 16 := by omega
            have hro' := hide hro
            clear hr hro
            replace hB2 := hide hB2
            replace hR2 := hide hR2
            replace hM2 := hide hM2
            replace hX2 := hide hX2
            replace hbel2 := hide hbel2
            replace hsz2 := hide hsz2
            go_wp2
            go_roundg k2
            case measure => omega
            case rel =>
              refine ⟨q + 1, by omega, by go_num, hB2.out.far (by simp; omega) _, hX2.out.far (by simp <;> omega) _, hR2.out.far (by simp <;> omega) _, ?_, hbel2.out.setCell (by simp <;> omega) _, by simpa using hsz2.out⟩
              refine Blk.rowSet hM2.out (4 * i + q) _ ?_
              intro j hj
              by_cases h : j = 4 * i + q
              · subst h; rw [if_pos (by omega), if_pos rfl, hro'.out]
              · rw [if_neg h]
                by_cases h2 : j < 4 * i + q
                · rw [if_pos h2, if_pos (by omega)]
                · rw [if_neg h2, if_neg (by omega)]
end Go.Proofs.YthbidebcljegjaaDoor

/- 'riff.NewReader' over pieces: the walk. -/
import Derived.Test.YthkpoidnhgcjhaaDoorRfList
namespace Go.Proofs.YthkpoidnhgcjhaaDoor
set_option linter.unusedSimpArgs false
set_option linter.unusedVariables false
open Go.RowKit Plain

/-- A file's head. -/
def Magic (bs : List Nat) : Prop := bs.getD 0 0 = 82 ∧ bs.getD 1 0 = 73 ∧ bs.getD 2 0 = 70 ∧ bs.getD 3 0 = 70
def OkHead (bs : List Nat) : Prop := 12 ≤ bs.length ∧ Magic bs ∧ 4 ≤ le4 (bs.drop 4)
/-- What 'NewReader' answers. -/
def NewPost (B p T : Nat) (cl : List Int) (bs : List Nat) (ar ad : Addr) (w : World) (e : Ending) (w' : World) : Prop :=
  Upd [p] w w' ∧ ((¬ OkHead bs ∧ ∃ ax, (ax = ar ∨ ax = ad) ∧ e = .returned (.tuple #[zero4, .pointer none, errV ax])) ∨
  (OkHead bs ∧ ∃ z bf, w.heap.size ≤ z ∧ e = .returned (.tuple #[four (bs.drop 8), .pointer (some ⟨z, 0, none⟩), .nilIface]) ∧ Chain w' B p cl [] (bs.drop 12) (T + 14) ∧ RZ w' z (ifOf p []) .nilIface (.pointer none) (le4 (bs.drop 4) - 4) 0 false bf))
theorem drop_getD (l : List Nat) (n i : Nat) : (l.drop n).getD i 0 = l.getD (n + i) 0 := by
  rcases Nat.lt_or_ge (n + i) l.length with h | h
  · simp [List.getD_eq_getElem?_getD, List.getElem?_drop]
  · simp [List.getD_eq_getElem?_getD, List.getElem?_drop]

set_option maxRecDepth 100000 in
set_option maxHeartbeats 4000000 in
theorem new_any (B p T : Nat) (cl : List Int) (bs : List Nat) (ae au ar ad al ap ah : Addr) (w : World) (hv : Env B cl (T + 14)) (hC : Chain w B p cl [] bs T) (hO : ∀ x ∈ bs, x ≤ 255) (hl : (bs.length : Int) ≤ 2147483647) (hBw : B ≤ w.heap.size) (hR : Errs w B ae au ar ad al ap ah) :
    Calls Tryd.prog 21 #[ifOf p []] w (NewPost B p T cl bs ar ad w) := by
  have hne := hR.ne
  obtain ⟨Z4, hZ4⟩ : ∃ Z4 : Array Value, Z4 = #[.int .u8 0, .int .u8 0, .int .u8 0, .int .u8 0] := ⟨_, rfl⟩
  obtain ⟨Z8, hZ8⟩ : ∃ Z8 : Array Value, Z8 = #[.int .u8 0, .int .u8 0, .int .u8 0, .int .u8 0, .int .u8 0, .int .u8 0, .int .u8 0, .int .u8 0] := ⟨_, rfl⟩
  have u1 := ((Upd.refl [] w).alloc (.cells Z4 54)).alloc (.cells Z8 80)
  have hz4 := (Blk.new w 54 Z4).alloc (.cells Z8 80)
  have hz8 := Blk.new (w.alloc (.cells Z4 54)) 80 Z8
  rw [World.size_alloc] at hz8
  have hs1 : ((w.alloc (.cells Z4 54)).alloc (.cells Z8 80)).heap.size = w.heap.size + 2 := by simp
  have hpl := (hC.lt p (by simp [allOf])).1
  have hpB := (hC.lt p (by simp [allOf])).2
  have hC1 := hC.upd u1 (by simp) hBw (by simp)
  have hR1 := hR.upd u1 (by simp) hBw
  have hs8 : Z8.size = 8 := by rw [hZ8]; rfl
  have cF := full_any B p (w.heap.size + 1) 0 8 8 T cl bs [] 80 Z8 ae au _ ⟨hv.cl_, hv.clw, by have := hv.t_; omega, hv.eof⟩ hC1 hl (by decide) (by decide) hz8 (by rw [hs8]; decide) (by decide) (by decide) (by simp [allOf]; omega) (by omega) (Nat.le_trans hBw u1.size) hR1.eof.cell hR1.une.cell hR1.une.glt
  rw [hZ8] at u1 hz4 hs1 hR1 cF
  rw [hZ4] at u1 hz4 hs1 hR1 cF
  replace hz4 := hide hz4
  replace hC := hide hC
  replace hR1 := hide hR1
  replace hR := hide hR
  replace hv := hide hv
  replace hO := hide hO
  replace u1 := hide u1
  replace hs1 := hide hs1
  replace hZ8 := hide hZ8
  replace hZ4 := hide hZ4
  replace hs8 := hide hs8
  clear hC1 hz8
  have hif : ifOf p [] = .iface 60 (.pointer (some ⟨p, 0, none⟩)) := rfl
  rw [hif] at cF ⊢
  replace hif := hide hif
  replace cF := hide cF
  go_enter Tryd.func21, Tryd.ntmps21
  go_wp2_with fail
  (with_reducible refine (cF.out).mono ?_)
  rintro e w1 ⟨rfl, ⟨cs1, hd1, hf1⟩, u2, hC2⟩
  rw [show str [] bs = bs from rfl] at *
  have hSB : ∀ s ∈ ((w.heap.size + 1) :: zsOf p []), B ≤ s := by
    intro s hs
    simp [zsOf] at hs
    omega
  have hB1 : B ≤ w1.heap.size := Nat.le_trans hBw (Nat.le_trans u1.out.size u2.size)
  have hR2 := hR1.out.upd u2 hSB (by rw [hs1.out]; omega)
  have hz41 := hz4.out.upd u2 (by simp [zsOf]; omega)
  have u3 : Upd [p] w w1 := (u1.out.wide (by simp)).step u2 (fun i hi hlt => by simp [zsOf] at hi ⊢; omega)
  have qE := eql_es ae
  have qU := eql_es au
  have qO := eql_other hR2.une hR2.eof hne.1
  have kE := hR2.eof.cell
  have kU := hR2.une.cell
  have kR := hR2.rif.cell
  have s1 : w.heap.size + 2 ≤ w1.heap.size := by rw [← hs1.out]; exact u2.size
  have zc0 := hz41.cell 0
  have zc1 := hz41.cell 1
  have zc2 := hz41.cell 2
  have zc3 := hz41.cell 3
  have zf0 := hz41.frozen 0
  have zf1 := hz41.frozen 1
  have zf2 := hz41.frozen 2
  have zf3 := hz41.frozen 3
  simp at zc0 zc1 zc2 zc3
  have h40 := hide (blk_four hz41 (.int .u8 0) (.int .u8 0) (.int .u8 0) (.int .u8 0))
  have hu9 := hide (upd_four (g := w.heap.size) u3 (.inr (Nat.le_refl _)) (.int .u8 0) (.int .u8 0) (.int .u8 0) (.int .u8 0))
  replace hR2 := hide hR2
  replace hz41 := hide hz41
  replace u3 := hide u3
  by_cases ha : bs.length < 8
  · have hm : min 8 bs.length = bs.length := by omega
    have hbad : ¬ OkHead bs := fun h => by have := h.1; omega
    have hfin : ∀ wz, Upd [p] w wz → NewPost B p T cl bs ar ad w (.returned (.tuple #[zero4, .pointer none, errV ar])) wz := fun wz hu => ⟨hu, .inl ⟨hbad, ar, .inl rfl, rfl⟩⟩
    rw [hm]
    replace hfin := hide hfin
    clear hm hbad hC2 hf1 hd1 u2
    by_cases ha0 : bs.length = 0
    · have hfv : fullV ae au 8 bs.length = .iface 122 (.pointer (some ae)) := by unfold fullV; rw [if_neg (by omega), if_pos ha0]
      rw [hfv]
      replace hfv := hide hfv
      replace ha0 := hide ha0
      go_wp2_with fail
      exact bodyPost_ret (ret_cell_tmp2 rfl rfl (load_four h40.out rfl) rfl rfl) rfl (by exact hfin.out _ hu9.out)
    · have hfv : fullV ae au 8 bs.length = .iface 122 (.pointer (some au)) := by unfold fullV; rw [if_neg (by omega), if_neg ha0]
      rw [hfv]
      replace hfv := hide hfv
      go_wp2_with fail
      exact bodyPost_ret (ret_cell_tmp2 rfl rfl (load_four h40.out rfl) rfl rfl) rfl (by exact hfin.out _ hu9.out)
  · have hm : min 8 bs.length = 8 := by omega
    rw [hm] at hC2 ⊢
    have hfv : fullV ae au 8 bs.length = .nilIface := by unfold fullV; rw [if_pos (by omega)]
    rw [hfv]
    replace hfv := hide hfv
    have hcell : ∀ j, j < 8 → w1.cell? ⟨w.heap.size + 1, j, none⟩ = some (.int .u8 (bs.getD j 0 : Nat)) := by
      intro j hj
      have := hf1.2.1 j (by rw [List.length_take]; omega)
      rw [Nat.zero_add] at this
      rw [hd1.cell j, this]
      simp [List.getElem?_take, hj]
    have hb255 : ∀ j, bs.getD j 0 ≤ 255 := by
      intro j
      rcases Nat.lt_or_ge j bs.length with h | h
      · have : bs.getD j 0 = bs[j] := by simp [h]
        rw [this]
        exact hO.out _ (List.getElem_mem h)
      · simp [h]
    have hle : ((le4 (bs.drop 4) : Nat) : Int) = (bs.getD 4 0 : Nat) + (bs.getD 5 0 : Nat) * 256 + (bs.getD 6 0 : Nat) * 65536 + (bs.getD 7 0 : Nat) * 16777216 := by
      unfold le4
      rw [drop_getD, drop_getD, drop_getD, drop_getD, Int.natCast_add, Int.natCast_add, Int.natCast_add, Int.natCast_mul, Int.natCast_mul, Int.natCast_mul]
      rfl
    have hle4 : ((le4 (bs.drop 4) : Nat) : Int) ≤ 4294967295 := by
      have := le4_lt (bs.drop 4) (fun x hx => hO.out x (List.mem_of_mem_drop hx))
      omega
    have hmg : Magic bs ↔ bs.getD 0 0 = 82 ∧ bs.getD 1 0 = 73 ∧ bs.getD 2 0 = 70 ∧ bs.getD 3 0 = 70 := Iff.rfl
    have c0 := hcell 0 (by decide)
    replace c0 : w1.cell? ⟨w.heap.size + 1, 0, none⟩ = some (.int .u8 (bs.getD 0 0 : Nat)) := c0
    have g0 := hb255 0
    have c1 := hcell 1 (by decide)
    replace c1 : w1.cell? ⟨w.heap.size + 1, 1, none⟩ = some (.int .u8 (bs.getD 1 0 : Nat)) := c1
    have g1 := hb255 1
    have c2 := hcell 2 (by decide)
    replace c2 : w1.cell? ⟨w.heap.size + 1, 2, none⟩ = some (.int .u8 (bs.getD 2 0 : Nat)) := c2
    have g2 := hb255 2
    have c3 := hcell 3 (by decide)
    replace c3 : w1.cell? ⟨w.heap.size + 1, 3, none⟩ = some (.int .u8 (bs.getD 3 0 : Nat)) := c3
    have g3 := hb255 3
    have c4 := hcell 4 (by decide)
    replace c4 : w1.cell? ⟨w.heap.size + 1, 4, none⟩ = some (.int .u8 (bs.getD 4 0 : Nat)) := c4
    have g4 := hb255 4
    have c5 := hcell 5 (by decide)
    replace c5 : w1.cell? ⟨w.heap.size + 1, 5, none⟩ = some (.int .u8 (bs.getD 5 0 : Nat)) := c5
    have g5 := hb255 5
    have c6 := hcell 6 (by decide)
    replace c6 : w1.cell? ⟨w.heap.size + 1, 6, none⟩ = some (.int .u8 (bs.getD 6 0 : Nat)) := c6
    have g6 := hb255 6
    have c7 := hcell 7 (by decide)
    replace c7 : w1.cell? ⟨w.heap.size + 1, 7, none⟩ = some (.int .u8 (bs.getD 7 0 : Nat)) := c7
    have g7 := hb255 7
    clear hcell hb255 hf1 hd1 hm
    generalize hy0 : bs.getD 0 0 = y0 at *
    replace hy0 := hide hy0
    have i0 : ((y0 : Nat) : Int) ≤ 255 := by omega
    generalize hy1 : bs.getD 1 0 = y1 at *
    replace hy1 := hide hy1
    have i1 : ((y1 : Nat) : Int) ≤ 255 := by omega
    generalize hy2 : bs.getD 2 0 = y2 at *
    replace hy2 := hide hy2
    have i2 : ((y2 : Nat) : Int) ≤ 255 := by omega
    generalize hy3 : bs.getD 3 0 = y3 at *
    replace hy3 := hide hy3
    have i3 : ((y3 : Nat) : Int) ≤ 255 := by omega
    generalize hy4 : bs.getD 4 0 = y4 at *
    replace hy4 := hide hy4
    have i4 : ((y4 : Nat) : Int) ≤ 255 := by omega
    generalize hy5 : bs.getD 5 0 = y5 at *
    replace hy5 := hide hy5
    have i5 : ((y5 : Nat) : Int) ≤ 255 := by omega
    generalize hy6 : bs.getD 6 0 = y6 at *
    replace hy6 := hide hy6
    have i6 : ((y6 : Nat) : Int) ≤ 255 := by omega
    generalize hy7 : bs.getD 7 0 = y7 at *
    replace hy7 := hide hy7
    have i7 : ((y7 : Nat) : Int) ≤ 255 := by omega
    replace hC2 := hide hC2
    replace hle := hide hle
    replace hmg := hide hmg
    have hgl : ∀ wz, Upd [p] w wz → ¬ Magic bs → NewPost B p T cl bs ar ad w (.returned (.tuple #[zero4, .pointer none, errV ar])) wz := fun wz hu hm => ⟨hu, .inl ⟨fun h => hm h.2.1, ar, .inl rfl, rfl⟩⟩
    replace hgl := hide hgl
    have hgx : 2 < w1.heap.size := World.block_lt_of_cell? _ _ kR
    have hgn : ¬ 2 = w.heap.size := by have := hR.out.rif.glt; omega
    have hgn' : ¬ w.heap.size = 2 := by omega
    by_cases m0 : y0 = 82
    · have q0 : ((y0 : Int) != 82) = false := by rw [m0]; rfl
      by_cases m1 : y1 = 73
      · have q1 : ((y1 : Int) != 73) = false := by rw [m1]; rfl
        by_cases m2 : y2 = 70
        · have q2 : ((y2 : Int) != 70) = false := by rw [m2]; rfl
          by_cases m3 : y3 = 70
          · have q3 : ((y3 : Int) != 70) = false := by rw [m3]; rfl
            have hM : Magic bs := hmg.out.2 ⟨m0, m1, m2, m3⟩
            replace hM := hide hM
            replace m0 := hide m0
            replace m1 := hide m1
            replace m2 := hide m2
            replace m3 := hide m3
            have cU := u32_any (w.heap.size + 1) 4 4 y4 y5 y6 y7 w1 c4 c5 c6 c7 (by omega) (by omega) (by omega) (by omega)
            rw [← hle.out] at cU
            replace cU := hide cU
            go_wp2_with fail
            (with_reducible refine (cU.out).mono ?_)
            rintro e w2 ⟨rfl, nn, rfl⟩
            clear c0 c1 c2 c3 c4 c5 c6 c7
            have huN := hide ((Upd.refl [] w1).drewN nn)
            have cL := list_any B p (T + 8 + 1) (le4 (bs.drop 4)) cl (bs.drop 8) [] ae au ar ad al ap ah (w1.drewN nn) ⟨hv.out.cl_, hv.out.clw, by have := hv.out.t_; omega, hv.out.eof⟩ (hC2.out.upd huN.out (by simp) hB1 (by simp)) (by rw [List.length_drop]; omega) hB1 hle4 (hR2.out.upd huN.out (by simp) hB1)
            rw [hif.out] at cL
            replace cL := hide cL
            have hzc : zero4 = .agg #[.int .u8 0, .int .u8 0, .int .u8 0, .int .u8 0] := rfl
            go_wp2_with fail
            (with_reducible refine (cL.out).mono ?_)
            rintro e w3 ⟨k1, k2, k3⟩
            have hst : str [] (bs.drop 8) = bs.drop 8 := rfl
            rw [hst, List.length_drop] at k2 k3
            have hdd : (bs.drop 8).drop 4 = bs.drop 12 := by rw [List.drop_drop]
            have hbx : ∀ S, Upd S (w1.drewN nn) w3 → w.heap.size ∉ S → Blk w3 w.heap.size 54 #[.int .u8 0, .int .u8 0, .int .u8 0, .int .u8 0] := fun S hu hn => Blk.upd (Blk.drewN hz41.out nn) hu hn
            have hpw : p < w.heap.size := hpl
            by_cases l4 : le4 (bs.drop 4) < 4
            · obtain ⟨rfl, u4⟩ := k1 l4
              have hb3 := hbx _ u4 (by simp)
              have hu3 := (u3.out.drewN nn).step u4 (by simp)
              have h40' := hide (blk_four hb3 (.int .u8 0) (.int .u8 0) (.int .u8 0) (.int .u8 0))
              have hu9' := hide (upd_four (g := w.heap.size) hu3 (.inr (Nat.le_refl _)) (.int .u8 0) (.int .u8 0) (.int .u8 0) (.int .u8 0))
              have e0 := hb3.cell 0
              have e1 := hb3.cell 1
              have e2 := hb3.cell 2
              have e3 := hb3.cell 3
              have x0 := hb3.frozen 0
              have x1 := hb3.frozen 1
              have x2 := hb3.frozen 2
              have x3 := hb3.frozen 3
              simp at e0 e1 e2 e3
              have hfin : ∀ wz, Upd [p] w wz → NewPost B p T cl bs ar ad w (.returned (.tuple #[zero4, .pointer none, errV ad])) wz := fun wz hu => ⟨hu, .inl ⟨fun h => by have := h.2.2; omega, ad, .inr rfl, rfl⟩⟩
              replace hfin := hide hfin
              clear k1 k2 k3 hb3 u4 hu3 hbx zc0 zc1 zc2 zc3 zf0 zf1 zf2 zf3
              go_wp2_with fail
              exact bodyPost_ret (ret_cell_tmp2 rfl rfl (load_four h40'.out rfl) rfl rfl) rfl (by exact hfin.out _ hu9'.out)
            · by_cases a4 : bs.length - 8 < 4
              · obtain ⟨rfl, u4, _⟩ := k2 (by omega) a4
                have hb3 := hbx _ u4 (by simp [zsOf]; omega)
                have hu3 := (u3.out.drewN nn).step u4 (by simp [zsOf])
                have h40' := hide (blk_four hb3 (.int .u8 0) (.int .u8 0) (.int .u8 0) (.int .u8 0))
                have hu9' := hide (upd_four (g := w.heap.size) hu3 (.inr (Nat.le_refl _)) (.int .u8 0) (.int .u8 0) (.int .u8 0) (.int .u8 0))
                have e0 := hb3.cell 0
                have e1 := hb3.cell 1
                have e2 := hb3.cell 2
                have e3 := hb3.cell 3
                have x0 := hb3.frozen 0
                have x1 := hb3.frozen 1
                have x2 := hb3.frozen 2
                have x3 := hb3.frozen 3
                simp at e0 e1 e2 e3
                have hfin : ∀ wz, Upd [p] w wz → NewPost B p T cl bs ar ad w (.returned (.tuple #[zero4, .pointer none, errV ad])) wz := fun wz hu => ⟨hu, .inl ⟨fun h => by have := h.1; omega, ad, .inr rfl, rfl⟩⟩
                replace hfin := hide hfin
                clear k1 k2 k3 hb3 u4 hu3 hbx zc0 zc1 zc2 zc3 zf0 zf1 zf2 zf3
                go_wp2_with fail
                exact bodyPost_ret (ret_cell_tmp2 rfl rfl (load_four h40'.out rfl) rfl rfl) rfl (by exact hfin.out _ hu9'.out)
              · obtain ⟨z, bf, hzz, rfl, u4, hC4, hz4⟩ := k3 (by omega) (by omega)
                rw [hdd] at hC4
                have hb3 := hbx _ u4 (by simp [zsOf]; omega)
                have hu3 := (u3.out.drewN nn).step u4 (by simp [zsOf])
                have hF : ∃ v0 v1 v2 v3 : Nat, four (bs.drop 8) = .agg #[.int .u8 v0, .int .u8 v1, .int .u8 v2, .int .u8 v3] := ⟨_, _, _, _, rfl⟩
                obtain ⟨v0, v1, v2, v3, hF⟩ := hF
                have h40' := hide (blk_four hb3 (.int .u8 v0) (.int .u8 v1) (.int .u8 v2) (.int .u8 v3))
                have hu9' := hide (upd_four (g := w.heap.size) hu3 (.inr (Nat.le_refl _)) (.int .u8 v0) (.int .u8 v1) (.int .u8 v2) (.int .u8 v3))
                have huf := upd_four (g := w.heap.size) (Upd.refl [w.heap.size] w3) (.inl (by simp)) (.int .u8 v0) (.int .u8 v1) (.int .u8 v2) (.int .u8 v3)
                have hzlt : w.heap.size < z := by
                  have : (w1.drewN nn).heap.size = w1.heap.size := rfl
                  omega
                have e0 := hb3.cell 0
                have e1 := hb3.cell 1
                have e2 := hb3.cell 2
                have e3 := hb3.cell 3
                have x0 := hb3.frozen 0
                have x1 := hb3.frozen 1
                have x2 := hb3.frozen 2
                have x3 := hb3.frozen 3
                simp at e0 e1 e2 e3
                have hfin := hide (show NewPost B p T cl bs ar ad w (.returned (.tuple #[.agg #[.int .u8 v0, .int .u8 v1, .int .u8 v2, .int .u8 v3], .pointer (some ⟨z, 0, none⟩), .nilIface])) _ from ⟨hu9'.out, .inr ⟨⟨by omega, hM.out, by omega⟩, z, bf, by omega, by rw [hF], (Chain.upd huf (by simp; omega) (Nat.le_trans hB1 u4.size) hC4 (by simp [adv, allOf]; omega)), hz4.upd huf (by simp; omega)⟩⟩)
                clear k1 k2 k3 hb3 u4 hu3 hbx zc0 zc1 zc2 zc3 zf0 zf1 zf2 zf3 huf hC4 hz4
                go_wp2_with fail
                exact bodyPost_ret (ret_cell_tmp2 rfl rfl (load_four h40'.out rfl) rfl rfl) rfl (by exact hfin.out)
          · have q3 : ((y3 : Int) != 70) = true := by simp; omega
            have hM : ¬ Magic bs := fun h => m3 (hmg.out.1 h).2.2.2
            replace m0 := hide m0
            replace m1 := hide m1
            replace m2 := hide m2
            replace hM := hide hM
            go_wp2_with fail
            go_region
            go_wp2_with fail
            exact bodyPost_ret (ret_cell_tmp2 rfl rfl (load_four (Blk.drew h40.out) rfl) rfl rfl) rfl (by exact hgl.out _ hu9.out.drew hM.out)
        · have q2 : ((y2 : Int) != 70) = true := by simp; omega
          have hM : ¬ Magic bs := fun h => m2 (hmg.out.1 h).2.2.1
          replace m0 := hide m0
          replace m1 := hide m1
          replace hM := hide hM
          go_wp2_with fail
          go_region
          go_wp2_with fail
          exact bodyPost_ret (ret_cell_tmp2 rfl rfl (load_four (Blk.drew h40.out) rfl) rfl rfl) rfl (by exact hgl.out _ hu9.out.drew hM.out)
      · have q1 : ((y1 : Int) != 73) = true := by simp; omega
        have hM : ¬ Magic bs := fun h => m1 (hmg.out.1 h).2.1
        replace m0 := hide m0
        replace hM := hide hM
        go_wp2_with fail
        go_region
        go_wp2_with fail
        exact bodyPost_ret (ret_cell_tmp2 rfl rfl (load_four (Blk.drew h40.out) rfl) rfl rfl) rfl (by exact hgl.out _ hu9.out.drew hM.out)
    · have q0 : ((y0 : Int) != 82) = true := by simp; omega
      have hM : ¬ Magic bs := fun h => m0 (hmg.out.1 h).1
      replace hM := hide hM
      go_wp2_with fail
      go_region
      go_wp2_with fail
      exact bodyPost_ret (ret_cell_tmp2 rfl rfl (load_four (Blk.drew h40.out) rfl) rfl rfl) rfl (by exact hgl.out _ hu9.out.drew hM.out)
end Go.Proofs.YthkpoidnhgcjhaaDoor

/- 'Reader.Next': the walk. -/
import Derived.Test.YthkpoidnhgcjhaaDoorRfNextDef
namespace Go.Proofs.YthkpoidnhgcjhaaDoor
set_option linter.unusedSimpArgs false
set_option linter.unusedVariables false
open Go.RowKit Plain


theorem next_good {B p T z k : Nat} {cl : List Int} {ls : List Lv} {bs : List Nat} {ae ad al ap ah : Addr} {pad : Bool} {w wX wz : World} {c t n : Nat} {bf : Nat → Int} {T' : Nat} {R : NxR}
    (h : At wX B p cl ls bs T' z k .nilIface (.pointer (some ⟨c, 0, none⟩)) t n pad bf w) (hR : R = .ok k n t) (hT : T' ≤ T + bs.length + 12) (hs : Std B p z ls w) (hc : Blk wX c 92 #[.pointer (some ⟨z, 0, none⟩)]) (hcw : w.heap.size < c) (hcn : c ∉ allOf p (adv k ls)) (hle : n ≤ t) (hlt : t < 4294967296) (hpd : pad = decide (n % 2 = 1)) (u : Upd [w.heap.size] wX wz) :
    NextPost R B p T z cl ls bs ae ad al ap ah w (.returned (.tuple #[four ((str ls bs).drop (k - 8)), .int .u32 n, .iface 84 (.pointer (some ⟨c, 0, none⟩)), .nilIface])) wz := by
  obtain ⟨h1, h2, h3, h4, h5⟩ := hs
  have hsz := h.up.size
  subst hR hpd
  refine ⟨h.up.step u (fun i hi hlt => by simp at hi; omega), c, by omega, rfl, ⟨bf, by rw [if_adv]; exact h.rz.upd u (by simp; omega)⟩, hc.upd u (by simp; omega), ?_, hle, hlt, by rw [all_adv]; exact h2, hcn, (by omega : z ≠ c), h3, (by omega : B ≤ c)⟩
  refine (Chain.upd u (by simp; omega) (by omega) h.ch (fun i hi => ?_)).le hT
  rw [all_adv] at hi
  simp
  rintro rfl
  exact h5 hi

set_option maxRecDepth 100000 in
set_option maxHeartbeats 8000000 in
theorem next_any (B p T z tot chl : Nat) (pad : Bool) (cl : List Int) (bs : List Nat) (ls : List Lv) (ae au ar ad al ap ah : Addr) (w : World) (hv : Env B cl (T + bs.length + 12)) (hK : Cur w B p cl ls bs T z tot chl pad) (hO : ∀ x ∈ bs, x ≤ 255) (hl : (bs.length : Int) ≤ 2147483647) (hBw : B ≤ w.heap.size) (hR : Errs w B ae au ar ad al ap ah) :
    Calls Tryd.prog 23 #[.pointer (some ⟨z, 0, none⟩)] w (NextPost (nextP tot chl pad (str ls bs)) B p T z cl ls bs ae ad al ap ah w) := by
  obtain ⟨⟨cr, bf, hz, hcr⟩, hC, hzn, hzB, hle, hlt⟩ := hK
  have hsl := str_le ls bs
  have hs : Hid (Std B p z ls w) := hide ⟨hz.lt, hzn, hzB, hBw, fun h => by have := (hC.lt _ h).1; omega⟩
  have hzw := hz.lt
  have hzw' : ¬ z = w.heap.size := by omega
  have hzw'' : ¬ w.heap.size = z := by omega
  have hzz : Hid (∀ i ∈ z :: zsOf p ls, B ≤ i) := hide (fun i hi => by
    rcases List.mem_cons.1 hi with h | h
    · subst h; exact hzB
    · exact (hC.lt _ (zs_all p ls _ h)).2)
  have hne := hR.ne
  have k1 := hz.c1
  have k3 := hz.c3
  have k4 := hz.c4
  have f1 := hz.fz 1
  have htI : (tot : Int) ≤ 4294967295 := by omega
  have hcI : (chl : Int) ≤ 4294967295 := by omega
  have hctI : (chl : Int) ≤ (tot : Int) := by omega
  have u1 := (Upd.refl (z :: zsOf p ls) w).alloc (.cells #[.int .u8 0, .int .u8 0, .int .u8 0, .int .u8 0] 54)
  have hnew : w.heap.size ∉ allOf p ls := fun h => by have := (hC.lt _ h).1; omega
  have hb0 := Blk.new w 54 #[.int .u8 0, .int .u8 0, .int .u8 0, .int .u8 0]
  have hz1 := hz.upd ((Upd.refl [] w).alloc (.cells #[.int .u8 0, .int .u8 0, .int .u8 0, .int .u8 0] 54)) (by simp)
  have hC1 := hC.upd ((Upd.refl [] w).alloc (.cells #[.int .u8 0, .int .u8 0, .int .u8 0, .int .u8 0] 54)) (by simp) hBw (by simp)
  have hR1 := hR.upd ((Upd.refl [] w).alloc (.cells #[.int .u8 0, .int .u8 0, .int .u8 0, .int .u8 0] 54)) (by simp) hBw
  replace hcr := hide hcr
  replace hz := hide hz
  replace hC := hide hC
  replace hR := hide hR
  replace hv := hide hv
  replace hO := hide hO
  replace u1 := hide u1
  replace hb0 := hide hb0
  replace hz1 := hide hz1
  replace hC1 := hide hC1
  replace hR1 := hide hR1
  have hA0 : Hid (∃ cr bf, At (w.alloc (.cells #[.int .u8 0, .int .u8 0, .int .u8 0, .int .u8 0] 54)) B p cl ls bs T z 0 .nilIface cr tot chl pad bf w) := hide ⟨cr, bf, hz1.out, ⟨_, _, _, _, hb0.out⟩, by rw [adv_zero]; exact hC1.out, u1.out⟩
  go_enter Tryd.func23, Tryd.ntmps23
  go_upto_if 22 with fail
  go_cut [] from 3 to 65 (fun wc => Mid wc B p cl ls bs (T + chl + 1) z (tot - chl) chl pad w)
  case first =>
    by_cases h0 : chl = 0
    · skip
      have hq : ((chl : Int) != 0) = false := by rw [h0]; rfl
      go_wp2
      go_meet
      subst h0
      obtain ⟨cr', bf', hA⟩ := hA0.out
      exact ⟨by omega, cr', bf', hA.le (by omega)⟩
    · have hq0 : ((chl : Int) != 0) = true := by simp; omega
      obtain ⟨c, rfl, hcb, hcn, hzc, hBc⟩ := hcr.out h0
      have hcb1 := hcb.upd ((Upd.refl [] w).alloc (.cells #[.int .u8 0, .int .u8 0, .int .u8 0, .int .u8 0] 54)) (by simp)
      have hsz : B ≤ (w.alloc (.cells #[.int .u8 0, .int .u8 0, .int .u8 0, .int .u8 0] 54)).heap.size := by rw [World.size_alloc]; omega
      have htk : ((str ls bs).take chl).length = min chl (str ls bs).length := List.length_take
      have cC := copy_any B p T cl bs ⟨z, c, tot, chl, pad⟩ ls ae _ ⟨hv.out.cl_, hv.out.clw, by rw [show str (⟨z, c, tot, chl, pad⟩ :: ls) bs = (str ls bs).take chl from rfl, htk]; have := hv.out.t_; omega, hv.out.eof⟩ ⟨⟨bf, hz1.out⟩, hcb1, hC1.out, hle, hlt, hzn, hcn, hzc, hzB, hBc⟩ hl hsz hR1.out.eof.cell
      rw [show str (⟨z, c, tot, chl, pad⟩ :: ls) bs = (str ls bs).take chl from rfl, htk] at cC
      replace hcb := hide hcb
      replace cC := hide cC
      generalize hq : min chl (str ls bs).length = q at *
      replace hq := hide hq
      go_wp2_with fail
      (with_reducible refine (cC.out).mono ?_)
      rintro e w1 ⟨rfl, u2, hC2⟩
      obtain ⟨⟨bf1, hz2⟩, _, hC3, _, _, _, _, _, _, _⟩ := hC2
      replace hz2 : RZ w1 z (ifOf p ls) .nilIface (.pointer (some ⟨c, 0, none⟩)) (tot - q) (chl - q) pad bf1 := by
        rw [← if_adv p q ls]; exact hz2
      replace hC3 : Chain w1 B p cl (adv q ls) (bs.drop q) (T + q + 1) := hC3
      have hqc : q ≤ chl := by have := hq.out; omega
      have u3 := u1.out.step u2 (fun i hi _ => zs_cons hi)
      have hzz : ∀ i ∈ z :: zsOf p ls, i < w.heap.size ∧ B ≤ i := by
        intro i hm
        rcases List.mem_cons.1 hm with h | h
        · subst h; exact ⟨hzw, hzB⟩
        · exact hC.out.lt _ (zs_all p ls _ h)
      have hb1 := hb0.out.upd u2 (fun hm => by have := (hzz _ (zs_cons hm)).1; omega)
      have hR2 := hR1.out.upd u2 (fun i hi => (hzz i (zs_cons hi)).2) hsz
      have hA : Hid (At w1 B p cl ls bs (T + q + 1) z q .nilIface (.pointer (some ⟨c, 0, none⟩)) (tot - q) (chl - q) pad bf1 w) := hide ⟨hz2, ⟨_, _, _, _, hb1⟩, hC3, u3⟩
      have kD := hR2.dat.cell
      have hqI : (q : Int) ≤ 4294967295 := by omega
      have hqcI : (q : Int) ≤ (chl : Int) := by omega
      replace u3 := hide u3
      replace hb1 := hide hb1
      replace hR2 := hide hR2
      clear u2 hcb1 hz2 hC3
      have e0 := hA.out.rz.c0
      have e1 := hA.out.rz.c1
      have e2 := hA.out.rz.c2
      have e3 := hA.out.rz.c3
      have e4 := hA.out.rz.c4
      have e13 := hA.out.rz.c13
      have x0 := hA.out.rz.fz 0
      have x1 := hA.out.rz.fz 1
      have x2 := hA.out.rz.fz 2
      have x3 := hA.out.rz.fz 3
      have x4 := hA.out.rz.fz 4
      have x13 := hA.out.rz.fz 13
      by_cases hqe : q = chl
      · skip
        have hqn : ((q : Int) != (chl : Int)) = false := by rw [hqe]; simp
        replace hA := hide (hA.out.set1 hs.out .nilIface)
        go_wp2_with fail
        go_meet
        subst hqe
        have hss := hq.out
        exact ⟨by omega, _, bf1, by have := hA.out; rw [Nat.sub_self] at this; exact this⟩
      · skip
        have hqn : ((q : Int) != (chl : Int)) = true := by simp; omega
        have hss : q = (str ls bs).length ∧ (str ls bs).length < chl := by have := hq.out; omega
        replace hA := hide ((hA.out.set1 hs.out .nilIface).set1 hs.out (errV ad))
        have hnx := hide (show nextP tot chl pad (str ls bs) = .err false q from by unfold nextP; rw [if_pos hss.2, hss.1])
        have hTT : Hid (T + q + 1 ≤ T + bs.length + 12) := hide (by omega)
        replace hq := hide hq
        unfold errV at hA
        go_wp2_with fail
        clear e0 e1 e2 e3 e4 e13 x0 x1 x2 x3 x4 x13
        clear kD
        generalize ((w1.setCell ⟨z, 1, none⟩ .nilIface).setCell ⟨z, 1, none⟩ (.iface 122 (.pointer (some ad)))) = wX at *
        have e1 := hA.out.rz.c1
        have x1 := hA.out.rz.fz 1
        obtain ⟨fa, fb, fc, fd, hfo⟩ := hA.out.fo
        have zc0 := hfo.cell 0
        have zc1 := hfo.cell 1
        have zc2 := hfo.cell 2
        have zc3 := hfo.cell 3
        have zf0 := hfo.frozen 0
        have zf1 := hfo.frozen 1
        have zf2 := hfo.frozen 2
        have zf3 := hfo.frozen 3
        simp at zc0 zc1 zc2 zc3
        have h40 := hide (blk_four hfo (.int .u8 0) (.int .u8 0) (.int .u8 0) (.int .u8 0))
        have hfin := hide (next_err (ae := ae) (ad := ad) (al := al) (ap := ap) (ah := ah) hA.out hnx.out hTT.out (by simp) hs.out (upd_four (g := w.heap.size) (Upd.refl [w.heap.size] wX) (.inl (by simp)) (.int .u8 0) (.int .u8 0) (.int .u8 0) (.int .u8 0)).drew)
        replace hfo := hide hfo
        go_region
        go_wp2_with fail
        exact bodyPost_ret (ret_cell_tmp3 rfl rfl (load_four (Blk.drew h40.out) rfl) rfl rfl rfl) rfl (by exact hfin.out)
  case rest =>
    obtain ⟨hkS, cr2, bf2, hA2⟩ := hcut
    have hnp : nextP tot chl pad (str ls bs) = nxP (tot - chl) chl pad (str ls bs) := by unfold nextP; rw [if_neg (by omega)]
    have htl : tot - chl < 4294967296 := by omega
    have hR2 := hide (hR.out.upd hA2.up (fun i hi => (by
      rcases List.mem_cons.1 hi with h | h
      · subst h; exact hzB
      · exact (hC.out.lt _ (zs_all p ls _ h)).2)) hBw)
    have hA : Hid (At wc B p cl ls bs (T + chl + 1) z chl .nilIface cr2 (tot - chl) 0 pad bf2 w) := hide hA2
    clear hA2 hA0 hR1 hC1 hb0 hz1 u1
    replace hnp := hide hnp
    generalize tot - chl = t at *
    have htI2 : (t : Int) ≤ 4294967295 := by omega
    have e0 := hA.out.rz.c0
    have e1 := hA.out.rz.c1
    have e2 := hA.out.rz.c2
    have e3 := hA.out.rz.c3
    have e4 := hA.out.rz.c4
    have e13 := hA.out.rz.c13
    have x0 := hA.out.rz.fz 0
    have x1 := hA.out.rz.fz 1
    have x2 := hA.out.rz.fz 2
    have x3 := hA.out.rz.fz 3
    have x4 := hA.out.rz.fz 4
    have x13 := hA.out.rz.fz 13
    replace hA := hide (hA.out.set4 hs.out (.pointer none))
    go_upto_if 72 with fail
    clear e0 e1 e2 e3 e4 e13 x0 x1 x2 x3 x4 x13
    replace hR2 := hide (hR2.out.upd ((Upd.refl [z] wc).setCell (p := ⟨z, 4, none⟩) (.inl (by simp)) (.pointer none)) (by simp; exact hzB) (by have := hA.out.up.size; simp at this; omega))
    generalize wc.setCell ⟨z, 4, none⟩ (.pointer none) = wd at *
    go_cut [] from 3 to 128 (fun wd2 => ∃ t' k', nextP tot chl pad (str ls bs) = nxB t' k' (str ls bs) ∧ t' < 4294967296 ∧ Mid wd2 B p cl ls bs (T + k' + 2) z t' k' pad w)
    case first =>
      cases pad with
      | false =>
        have hnp2 : nextP tot chl false (str ls bs) = nxB t chl (str ls bs) := by rw [hnp.out]; unfold nxP; rw [if_neg (by decide)]
        have hA2 := hA.out.le (T'' := T + chl + 2) (by omega)
        have hfin : ∃ t' k', nextP tot chl false (str ls bs) = nxB t' k' (str ls bs) ∧ t' < 4294967296 ∧ Mid wd B p cl ls bs (T + k' + 2) z t' k' false w := ⟨t, chl, hnp2, htl, hkS, _, bf2, hA2⟩
        replace hfin := hide hfin
        go_wp2
        go_meet
        exact hfin.out
      | true =>
        by_cases t0 : t = 0
        · skip
          have q0 : ((t : Int) == 0) = true := by rw [t0]; rfl
          have e0 := hA.out.rz.c0
          have e1 := hA.out.rz.c1
          have e2 := hA.out.rz.c2
          have e3 := hA.out.rz.c3
          have e4 := hA.out.rz.c4
          have e13 := hA.out.rz.c13
          have x0 := hA.out.rz.fz 0
          have x1 := hA.out.rz.fz 1
          have x2 := hA.out.rz.fz 2
          have x3 := hA.out.rz.fz 3
          have x4 := hA.out.rz.fz 4
          have x13 := hA.out.rz.fz 13
          have kL := hR2.out.lng.cell
          replace hA := hide (hA.out.set1 hs.out (errV al))
          have hnx := hide (show nextP tot chl true (str ls bs) = .err false chl from by rw [hnp.out]; unfold nxP; rw [if_pos rfl, if_pos t0])
          have hTT : Hid (T + chl + 1 ≤ T + bs.length + 12) := hide (by omega)
          unfold errV at hA
          replace t0 := hide t0
          go_wp2_with fail
          clear e0 e1 e2 e3 e4 e13 x0 x1 x2 x3 x4 x13
          clear kL
          generalize wd.setCell ⟨z, 1, none⟩ (.iface 122 (.pointer (some al))) = wX at *
          have e1 := hA.out.rz.c1
          have x1 := hA.out.rz.fz 1
          obtain ⟨fa, fb, fc, fd, hfo⟩ := hA.out.fo
          have zc0 := hfo.cell 0
          have zc1 := hfo.cell 1
          have zc2 := hfo.cell 2
          have zc3 := hfo.cell 3
          have zf0 := hfo.frozen 0
          have zf1 := hfo.frozen 1
          have zf2 := hfo.frozen 2
          have zf3 := hfo.frozen 3
          simp at zc0 zc1 zc2 zc3
          have h40 := hide (blk_four hfo (.int .u8 0) (.int .u8 0) (.int .u8 0) (.int .u8 0))
          have hfin := hide (next_err (ae := ae) (ad := ad) (al := al) (ap := ap) (ah := ah) hA.out hnx.out hTT.out (by simp) hs.out (upd_four (g := w.heap.size) (Upd.refl [w.heap.size] wX) (.inl (by simp)) (.int .u8 0) (.int .u8 0) (.int .u8 0) (.int .u8 0)).drew)
          replace hfo := hide hfo
          go_region
          go_wp2_with fail
          exact bodyPost_ret (ret_cell_tmp3 rfl rfl (load_four (Blk.drew h40.out) rfl) rfl rfl rfl) rfl (by exact hfin.out)
        · skip
          have q0 : ((t : Int) == 0) = false := by simp; omega
          have ht1 : ((t - 1 : Nat) : Int) = (t : Int) - 1 := by omega
          have ht1I : (1 : Int) ≤ (t : Int) := by omega
          have e0 := hA.out.rz.c0
          have e1 := hA.out.rz.c1
          have e2 := hA.out.rz.c2
          have e3 := hA.out.rz.c3
          have e4 := hA.out.rz.c4
          have e13 := hA.out.rz.c13
          have x0 := hA.out.rz.fz 0
          have x1 := hA.out.rz.fz 1
          have x2 := hA.out.rz.fz 2
          have x3 := hA.out.rz.fz 3
          have x4 := hA.out.rz.fz 4
          have x13 := hA.out.rz.fz 13
          replace hA := hide (hA.out.set2 hs.out (t - 1))
          have hRb := hide (hR2.out.upd ((Upd.refl [z] wd).setCell (p := ⟨z, 2, none⟩) (.inl (by simp)) (.int .u32 (t - 1 : Nat))) (by simp; exact hzB) (by have := hA.out.up.size; simp at this; omega))
          rw [ht1] at hA hRb
          replace ht1 := hide ht1
          have hE : Hid (Env B cl (T + chl + 1 + 1 + 1)) := hide ⟨hv.out.cl_, hv.out.clw, by have := hv.out.t_; omega, hv.out.eof⟩
          replace t0 := hide t0
          go_upto_region 17 with fail
          clear e0 e1 e2 e3 e4 e13 x0 x1 x2 x3 x4 x13
          generalize wd.setCell ⟨z, 2, none⟩ (.int .u32 ((t : Int) - 1)) = wf at *
          have hE' := hE.out
          by_cases hav : (str ls bs).length ≤ chl
          · skip
            have hcl := (hA.out.drew hs.out).read hs.out 1 hE' hl (by decide) (by decide) (hRb.out.upd (Upd.refl [] wf).drew (by simp) (Nat.le_trans hBw hA.out.up.size)) (a := 0) (by omega) (v := .iface 122 (.pointer (some ae))) (by unfold fullV; rw [if_neg (by omega), if_pos (by omega)])
            obtain ⟨ty, bl, hif⟩ : ∃ ty bl, ifOf p ls = .iface ty (.pointer (some ⟨bl, 0, none⟩)) := ⟨_, _, rfl⟩
            rw [hif] at hcl
            have e0 : wf.cell? ⟨z, 0, none⟩ = some (.iface ty (.pointer (some ⟨bl, 0, none⟩))) := hif ▸ hA.out.rz.c0
            have x1 := hA.out.rz.fz 1
            replace hif := hide hif
            replace hcl := hide hcl
            go_region_held3 (fun W => W.cell? ⟨z, 0, none⟩ = some (.iface ty (.pointer (some ⟨bl, 0, none⟩)))) (first | go_keep | exact hA3.rz.c0.trans (congrArg some hif.out) | exact (hA3.set1 hs.out _).rz.c0.trans (congrArg some hif.out)) (first | ((with_reducible refine (hcl.out).mono ?_); rintro e w1 ⟨rfl, bf3, hbf3, hA3⟩; have y1 := hA3.rz.fz 1; have y2 := hA3.rz.c1; have y3 := hA3.rz.c0.trans (congrArg some hif.out)))
            rw [Nat.add_zero] at hA3
            have hR3 := hR.out.upd hA3.up hzz.out hBw
            have kE := hR3.eof.cell
            have kP := hR3.fil.cell
            have qE := eql_es ae
            have hnx := hide (show nextP tot chl true (str ls bs) = .err false chl from by rw [hnp.out]; unfold nxP; rw [if_pos rfl, if_neg t0.out, if_pos hav])
            have hTT : Hid (T + chl + 1 + 1 + 1 ≤ T + bs.length + 12) := hide (by omega)
            have hA9 := hide (((hA3.set1 hs.out (errV ae)).set1 hs.out (errV ap)).drew hs.out)
            clear hcl hR2 hRb hA hbf3 hR3
            have hA := hA9
            clear hA9 hA3
            unfold errV at hA
            clear hav
            go_wp2_with fail
            go_region
            go_wp2_with fail
            clear y1 y2 y3 e0 x1 kE kP qE
            generalize ((w1.setCell ⟨z, 1, none⟩ (.iface 122 (.pointer (some ae)))).setCell ⟨z, 1, none⟩ (.iface 122 (.pointer (some ap)))).drew = wX at *
            have e1 := hA.out.rz.c1
            have x1 := hA.out.rz.fz 1
            obtain ⟨fa, fb, fc, fd, hfo⟩ := hA.out.fo
            have zc0 := hfo.cell 0
            have zc1 := hfo.cell 1
            have zc2 := hfo.cell 2
            have zc3 := hfo.cell 3
            have zf0 := hfo.frozen 0
            have zf1 := hfo.frozen 1
            have zf2 := hfo.frozen 2
            have zf3 := hfo.frozen 3
            simp at zc0 zc1 zc2 zc3
            have h40 := hide (blk_four hfo (.int .u8 0) (.int .u8 0) (.int .u8 0) (.int .u8 0))
            have hfin := hide (next_err (ae := ae) (ad := ad) (al := al) (ap := ap) (ah := ah) hA.out hnx.out hTT.out (by simp) hs.out (upd_four (g := w.heap.size) (Upd.refl [w.heap.size] wX) (.inl (by simp)) (.int .u8 0) (.int .u8 0) (.int .u8 0) (.int .u8 0)).drew)
            replace hfo := hide hfo
            go_region
            go_wp2_with fail
            exact bodyPost_ret (ret_cell_tmp3 rfl rfl (load_four (Blk.drew h40.out) rfl) rfl rfl rfl) rfl (by exact hfin.out)
          · skip
            have hcl := (hA.out.drew hs.out).read hs.out 1 hE' hl (by decide) (by decide) (hRb.out.upd (Upd.refl [] wf).drew (by simp) (Nat.le_trans hBw hA.out.up.size)) (a := 1) (by omega) (v := .nilIface) (by unfold fullV; rw [if_pos (by omega)])
            obtain ⟨ty, bl, hif⟩ : ∃ ty bl, ifOf p ls = .iface ty (.pointer (some ⟨bl, 0, none⟩)) := ⟨_, _, rfl⟩
            rw [hif] at hcl
            have e0 : wf.cell? ⟨z, 0, none⟩ = some (.iface ty (.pointer (some ⟨bl, 0, none⟩))) := hif ▸ hA.out.rz.c0
            have x1 := hA.out.rz.fz 1
            replace hif := hide hif
            replace hcl := hide hcl
            go_region_held3 (fun W => W.cell? ⟨z, 0, none⟩ = some (.iface ty (.pointer (some ⟨bl, 0, none⟩)))) (first | go_keep | exact hA3.rz.c0.trans (congrArg some hif.out) | exact (hA3.set1 hs.out _).rz.c0.trans (congrArg some hif.out)) (first | ((with_reducible refine (hcl.out).mono ?_); rintro e w1 ⟨rfl, bf3, hbf3, hA3⟩; have y1 := hA3.rz.fz 1; have y2 := hA3.rz.c1; have y3 := hA3.rz.c0.trans (congrArg some hif.out)))
            have hnx : nextP tot chl true (str ls bs) = nxB (t - 1) (chl + 1) (str ls bs) := by rw [hnp.out]; unfold nxP; rw [if_pos rfl, if_neg t0.out, if_neg hav]
            have hfin : ∃ t' k', nextP tot chl true (str ls bs) = nxB t' k' (str ls bs) ∧ t' < 4294967296 ∧ Mid (w1.setCell ⟨z, 1, none⟩ .nilIface) B p cl ls bs (T + k' + 2) z t' k' true w := ⟨t - 1, chl + 1, hnx, by omega, by omega, _, bf3, (hA3.set1 hs.out .nilIface).le (by omega)⟩
            replace hfin := hide hfin
            clear hcl hR2 hRb hA hbf3 hnx hA3 hav
            go_wp2_with fail
            go_meet
            exact hfin.out
    case rest =>
      obtain ⟨t2, k2, hnp2, ht2, hkS2, cr3, bf3, hA3⟩ := hcut
      have hR3 := hide (hR.out.upd hA3.up hzz.out hBw)
      have hA : Hid (At wc B p cl ls bs (T + k2 + 2) z k2 .nilIface cr3 t2 0 pad bf3 w) := hide hA3
      clear hA3
      have htI3 : (t2 : Int) ≤ 4294967295 := by omega
      have hk2 : k2 ≤ bs.length := by omega
      by_cases t0 : t2 = 0
      · have q0 : ((t2 : Int) == 0) = true := by rw [t0]; rfl
        have e0 := hA.out.rz.c0
        have e1 := hA.out.rz.c1
        have e2 := hA.out.rz.c2
        have e3 := hA.out.rz.c3
        have e4 := hA.out.rz.c4
        have e13 := hA.out.rz.c13
        have x0 := hA.out.rz.fz 0
        have x1 := hA.out.rz.fz 1
        have x2 := hA.out.rz.fz 2
        have x3 := hA.out.rz.fz 3
        have x4 := hA.out.rz.fz 4
        have x13 := hA.out.rz.fz 13
        have kE := hR3.out.eof.cell
        replace hA := hide (hA.out.set1 hs.out (errV ae))
        have hnx := hide (show nextP tot chl pad (str ls bs) = .err true k2 from by rw [hnp2, t0]; exact nxB_eof _ _)
        have hTT : Hid (T + k2 + 2 ≤ T + bs.length + 12) := hide (by omega)
        unfold errV at hA
        replace t0 := hide t0
        replace hnp2 := hide hnp2
        go_wp2_with fail
        clear e0 e1 e2 e3 e4 e13 x0 x1 x2 x3 x4 x13
        clear kE
        generalize wc.setCell ⟨z, 1, none⟩ (.iface 122 (.pointer (some ae))) = wX at *
        have e1 := hA.out.rz.c1
        have x1 := hA.out.rz.fz 1
        obtain ⟨fa, fb, fc, fd, hfo⟩ := hA.out.fo
        have zc0 := hfo.cell 0
        have zc1 := hfo.cell 1
        have zc2 := hfo.cell 2
        have zc3 := hfo.cell 3
        have zf0 := hfo.frozen 0
        have zf1 := hfo.frozen 1
        have zf2 := hfo.frozen 2
        have zf3 := hfo.frozen 3
        simp at zc0 zc1 zc2 zc3
        have h40 := hide (blk_four hfo (.int .u8 0) (.int .u8 0) (.int .u8 0) (.int .u8 0))
        have hfin := hide (next_err (ae := ae) (ad := ad) (al := al) (ap := ap) (ah := ah) hA.out hnx.out hTT.out (by simp) hs.out (upd_four (g := w.heap.size) (Upd.refl [w.heap.size] wX) (.inl (by simp)) (.int .u8 0) (.int .u8 0) (.int .u8 0) (.int .u8 0)).drew)
        replace hfo := hide hfo
        go_region
        go_wp2_with fail
        exact bodyPost_ret (ret_cell_tmp3 rfl rfl (load_four (Blk.drew h40.out) rfl) rfl rfl rfl) rfl (by exact hfin.out)
      · have q0 : ((t2 : Int) == 0) = false := by simp; omega
        by_cases t8 : t2 < 8
        · have q8 : (t2 : Int) < 8 := by omega
          have e0 := hA.out.rz.c0
          have e1 := hA.out.rz.c1
          have e2 := hA.out.rz.c2
          have e3 := hA.out.rz.c3
          have e4 := hA.out.rz.c4
          have e13 := hA.out.rz.c13
          have x0 := hA.out.rz.fz 0
          have x1 := hA.out.rz.fz 1
          have x2 := hA.out.rz.fz 2
          have x3 := hA.out.rz.fz 3
          have x4 := hA.out.rz.fz 4
          have x13 := hA.out.rz.fz 13
          have kE := hR3.out.hea.cell
          replace hA := hide (hA.out.set1 hs.out (errV ah))
          have hnx := hide (show nextP tot chl pad (str ls bs) = .err false k2 from by rw [hnp2]; exact nxB_lt8 t0 t8)
          have hTT : Hid (T + k2 + 2 ≤ T + bs.length + 12) := hide (by omega)
          unfold errV at hA
          replace t0 := hide t0
          replace t8 := hide t8
          replace hnp2 := hide hnp2
          go_wp2_with fail
          clear e0 e1 e2 e3 e4 e13 x0 x1 x2 x3 x4 x13
          clear kE
          generalize wc.setCell ⟨z, 1, none⟩ (.iface 122 (.pointer (some ah))) = wX at *
          have e1 := hA.out.rz.c1
          have x1 := hA.out.rz.fz 1
          obtain ⟨fa, fb, fc, fd, hfo⟩ := hA.out.fo
          have zc0 := hfo.cell 0
          have zc1 := hfo.cell 1
          have zc2 := hfo.cell 2
          have zc3 := hfo.cell 3
          have zf0 := hfo.frozen 0
          have zf1 := hfo.frozen 1
          have zf2 := hfo.frozen 2
          have zf3 := hfo.frozen 3
          simp at zc0 zc1 zc2 zc3
          have h40 := hide (blk_four hfo (.int .u8 0) (.int .u8 0) (.int .u8 0) (.int .u8 0))
          have hfin := hide (next_err (ae := ae) (ad := ad) (al := al) (ap := ap) (ah := ah) hA.out hnx.out hTT.out (by simp) hs.out (upd_four (g := w.heap.size) (Upd.refl [w.heap.size] wX) (.inl (by simp)) (.int .u8 0) (.int .u8 0) (.int .u8 0) (.int .u8 0)).drew)
          replace hfo := hide hfo
          go_region
          go_wp2_with fail
          exact bodyPost_ret (ret_cell_tmp3 rfl rfl (load_four (Blk.drew h40.out) rfl) rfl rfl rfl) rfl (by exact hfin.out)
        · have q8 : ¬ (t2 : Int) < 8 := by omega
          have q8' : (8 : Int) ≤ (t2 : Int) := by omega
          have ht1 : ((t2 - 8 : Nat) : Int) = (t2 : Int) - 8 := by omega
          have e0 := hA.out.rz.c0
          have e1 := hA.out.rz.c1
          have e2 := hA.out.rz.c2
          have e3 := hA.out.rz.c3
          have e4 := hA.out.rz.c4
          have e13 := hA.out.rz.c13
          have x0 := hA.out.rz.fz 0
          have x1 := hA.out.rz.fz 1
          have x2 := hA.out.rz.fz 2
          have x3 := hA.out.rz.fz 3
          have x4 := hA.out.rz.fz 4
          have x13 := hA.out.rz.fz 13
          replace hA := hide (hA.out.set2 hs.out (t2 - 8))
          rw [ht1] at hA
          replace ht1 := hide ht1
          have hE : Hid (Env B cl (T + k2 + 2 + 8 + 1)) := hide ⟨hv.out.cl_, hv.out.clw, by have := hv.out.t_; omega, hv.out.eof⟩
          replace t0 := hide t0
          replace t8 := hide t8
          replace hnp2 := hide hnp2
          go_upto_region 29 with fail
          clear e0 e1 e2 e3 e4 e13 x0 x1 x2 x3 x4 x13
          generalize wc.setCell ⟨z, 2, none⟩ (.int .u32 ((t2 : Int) - 8)) = wf at *
          have hRd := hR.out.upd (hA.out.drew hs.out).up hzz.out hBw
          obtain ⟨ty, bl, hif⟩ : ∃ ty bl, ifOf p ls = .iface ty (.pointer (some ⟨bl, 0, none⟩)) := ⟨_, _, rfl⟩
          have e0 : wf.cell? ⟨z, 0, none⟩ = some (.iface ty (.pointer (some ⟨bl, 0, none⟩))) := hif ▸ hA.out.rz.c0
          have x1 := hA.out.rz.fz 1
          by_cases hav : (str ls bs).length < k2 + 8
          · have hnx := hide (show nextP tot chl pad (str ls bs) = .err false (str ls bs).length from by rw [hnp2.out]; exact nxB_short t8.out hav)
            have hTT : Hid (T + k2 + 2 + 8 + 1 ≤ T + bs.length + 12) := hide (by omega)
            by_cases hz0 : (str ls bs).length = k2
            · have hcl := (hA.out.drew hs.out).read hs.out 8 hE.out hl (by decide) (by decide) hRd (a := (str ls bs).length - k2) (by omega) (v := .iface 122 (.pointer (some ae))) (by unfold fullV; rw [if_neg (by omega), if_pos (by omega)])
              rw [hif] at hcl
              replace hif := hide hif
              replace hcl := hide hcl
              generalize hya : (str ls bs).length - k2 = ya at *
              replace hya := hide hya
              go_region_held3 (fun W => W.cell? ⟨z, 0, none⟩ = some (.iface ty (.pointer (some ⟨bl, 0, none⟩)))) (first | go_keep | exact hA3.rz.c0.trans (congrArg some hif.out) | exact (hA3.set1 hs.out _).rz.c0.trans (congrArg some hif.out)) (first | ((with_reducible refine (hcl.out).mono ?_); rintro e w1 ⟨rfl, bf4, hbf4, hA3⟩; have y1 := hA3.rz.fz 1; have y2 := hA3.rz.c1; have y3 := hA3.rz.c0.trans (congrArg some hif.out)))
              rw [show k2 + ya = (str ls bs).length from by have := hya.out; omega] at hA3
              have hR4 := hR.out.upd ((hA3.set1 hs.out (errV ae)).drew hs.out).up hzz.out hBw
              unfold errV at hR4
              have hR5 := hR.out.upd hA3.up hzz.out hBw
              have kE := hR5.eof.cell
              have kU := hR5.une.cell
              have kH := hR5.hea.cell
              have qE := eql_es ae
              have hA9 := hide (((hA3.set1 hs.out (errV ae)).set1 hs.out (errV ah)).drew hs.out)
              clear hcl hR3 hA hbf4 hR4 hR5 hRd hav hz0
              have hA := hA9
              clear hA9 hA3
              unfold errV at hA
              go_wp2_with fail
              go_region
              go_wp2_with fail
              clear y1 y2 y3 e0 x1 kE kU kH qE
              generalize ((w1.setCell ⟨z, 1, none⟩ (.iface 122 (.pointer (some ae)))).setCell ⟨z, 1, none⟩ (.iface 122 (.pointer (some ah)))).drew = wX at *
              have e1 := hA.out.rz.c1
              have x1 := hA.out.rz.fz 1
              obtain ⟨fa, fb, fc, fd, hfo⟩ := hA.out.fo
              have zc0 := hfo.cell 0
              have zc1 := hfo.cell 1
              have zc2 := hfo.cell 2
              have zc3 := hfo.cell 3
              have zf0 := hfo.frozen 0
              have zf1 := hfo.frozen 1
              have zf2 := hfo.frozen 2
              have zf3 := hfo.frozen 3
              simp at zc0 zc1 zc2 zc3
              have h40 := hide (blk_four hfo (.int .u8 0) (.int .u8 0) (.int .u8 0) (.int .u8 0))
              have hfin := hide (next_err (ae := ae) (ad := ad) (al := al) (ap := ap) (ah := ah) hA.out hnx.out hTT.out (by simp) hs.out (upd_four (g := w.heap.size) (Upd.refl [w.heap.size] wX) (.inl (by simp)) (.int .u8 0) (.int .u8 0) (.int .u8 0) (.int .u8 0)).drew)
              replace hfo := hide hfo
              go_region
              go_wp2_with fail
              exact bodyPost_ret (ret_cell_tmp3 rfl rfl (load_four (Blk.drew h40.out) rfl) rfl rfl rfl) rfl (by exact hfin.out)
            · have hcl := (hA.out.drew hs.out).read hs.out 8 hE.out hl (by decide) (by decide) hRd (a := (str ls bs).length - k2) (by omega) (v := .iface 122 (.pointer (some au))) (by unfold fullV; rw [if_neg (by omega), if_neg (by omega)])
              rw [hif] at hcl
              replace hif := hide hif
              replace hcl := hide hcl
              generalize hya : (str ls bs).length - k2 = ya at *
              replace hya := hide hya
              go_region_held3 (fun W => W.cell? ⟨z, 0, none⟩ = some (.iface ty (.pointer (some ⟨bl, 0, none⟩)))) (first | go_keep | exact hA3.rz.c0.trans (congrArg some hif.out) | exact (hA3.set1 hs.out _).rz.c0.trans (congrArg some hif.out)) (first | ((with_reducible refine (hcl.out).mono ?_); rintro e w1 ⟨rfl, bf4, hbf4, hA3⟩; have y1 := hA3.rz.fz 1; have y2 := hA3.rz.c1; have y3 := hA3.rz.c0.trans (congrArg some hif.out)))
              rw [show k2 + ya = (str ls bs).length from by have := hya.out; omega] at hA3
              have hR4 := hR.out.upd ((hA3.set1 hs.out (errV au)).drew hs.out).up hzz.out hBw
              unfold errV at hR4
              have hR5 := hR.out.upd hA3.up hzz.out hBw
              have kE := hR5.eof.cell
              have kU := hR5.une.cell
              have kH := hR5.hea.cell
              have qE := eql_other hR4.une hR4.eof hne.1
              have qU := eql_es au
              have hA9 := hide (((hA3.set1 hs.out (errV au)).set1 hs.out (errV ah)).drew hs.out)
              clear hcl hR3 hA hbf4 hR4 hR5 hRd hav hz0
              have hA := hA9
              clear hA9 hA3
              unfold errV at hA
              go_wp2_with fail
              go_region
              go_wp2_with fail
              clear y1 y2 y3 e0 x1 kE kU kH qE qU
              generalize ((w1.setCell ⟨z, 1, none⟩ (.iface 122 (.pointer (some au)))).setCell ⟨z, 1, none⟩ (.iface 122 (.pointer (some ah)))).drew = wX at *
              have e1 := hA.out.rz.c1
              have x1 := hA.out.rz.fz 1
              obtain ⟨fa, fb, fc, fd, hfo⟩ := hA.out.fo
              have zc0 := hfo.cell 0
              have zc1 := hfo.cell 1
              have zc2 := hfo.cell 2
              have zc3 := hfo.cell 3
              have zf0 := hfo.frozen 0
              have zf1 := hfo.frozen 1
              have zf2 := hfo.frozen 2
              have zf3 := hfo.frozen 3
              simp at zc0 zc1 zc2 zc3
              have h40 := hide (blk_four hfo (.int .u8 0) (.int .u8 0) (.int .u8 0) (.int .u8 0))
              have hfin := hide (next_err (ae := ae) (ad := ad) (al := al) (ap := ap) (ah := ah) hA.out hnx.out hTT.out (by simp) hs.out (upd_four (g := w.heap.size) (Upd.refl [w.heap.size] wX) (.inl (by simp)) (.int .u8 0) (.int .u8 0) (.int .u8 0) (.int .u8 0)).drew)
              replace hfo := hide hfo
              go_region
              go_wp2_with fail
              exact bodyPost_ret (ret_cell_tmp3 rfl rfl (load_four (Blk.drew h40.out) rfl) rfl rfl rfl) rfl (by exact hfin.out)
          · have hcl := (hA.out.drew hs.out).read hs.out 8 hE.out hl (by decide) (by decide) hRd (a := 8) (by omega) (v := .nilIface) (by unfold fullV; rw [if_pos (by omega)])
            rw [hif] at hcl
            replace hif := hide hif
            replace hcl := hide hcl
            go_region_held3 (fun W => W.cell? ⟨z, 0, none⟩ = some (.iface ty (.pointer (some ⟨bl, 0, none⟩)))) (first | go_keep | exact hA3.rz.c0.trans (congrArg some hif.out) | exact (hA3.set1 hs.out _).rz.c0.trans (congrArg some hif.out)) (first | ((with_reducible refine (hcl.out).mono ?_); rintro e w1 ⟨rfl, bf4, hbf4, hA3⟩; have y1 := hA3.rz.fz 1; have y2 := hA3.rz.c1; have y3 := hA3.rz.c0.trans (congrArg some hif.out)))
            have hA9 := hide (hA3.set1 hs.out .nilIface)
            clear hcl hR3 hA hRd
            have hA := hA9
            clear hA9 hA3
            replace hbf4 := hide hbf4
            go_upto_region 34 with fail
            clear y1 y2 y3 e0 x1
            generalize w1.setCell ⟨z, 1, none⟩ .nilIface = wg at *
            have c0 : wg.cell? ⟨z, 5, none⟩ = some (.int .u8 (((str ls bs).getD (k2 + 0) 0 : Nat) : Int)) := by have h := hA.out.rz.cb 0 (by decide); rw [hbf4.out 0 (by decide)] at h; exact h
            have c1 : wg.cell? ⟨z, 6, none⟩ = some (.int .u8 (((str ls bs).getD (k2 + 1) 0 : Nat) : Int)) := by have h := hA.out.rz.cb 1 (by decide); rw [hbf4.out 1 (by decide)] at h; exact h
            have c2 : wg.cell? ⟨z, 7, none⟩ = some (.int .u8 (((str ls bs).getD (k2 + 2) 0 : Nat) : Int)) := by have h := hA.out.rz.cb 2 (by decide); rw [hbf4.out 2 (by decide)] at h; exact h
            have c3 : wg.cell? ⟨z, 8, none⟩ = some (.int .u8 (((str ls bs).getD (k2 + 3) 0 : Nat) : Int)) := by have h := hA.out.rz.cb 3 (by decide); rw [hbf4.out 3 (by decide)] at h; exact h
            have c4 : wg.cell? ⟨z, 9, none⟩ = some (.int .u8 (((str ls bs).getD (k2 + 4) 0 : Nat) : Int)) := by have h := hA.out.rz.cb 4 (by decide); rw [hbf4.out 4 (by decide)] at h; exact h
            have c5 : wg.cell? ⟨z, 10, none⟩ = some (.int .u8 (((str ls bs).getD (k2 + 5) 0 : Nat) : Int)) := by have h := hA.out.rz.cb 5 (by decide); rw [hbf4.out 5 (by decide)] at h; exact h
            have c6 : wg.cell? ⟨z, 11, none⟩ = some (.int .u8 (((str ls bs).getD (k2 + 6) 0 : Nat) : Int)) := by have h := hA.out.rz.cb 6 (by decide); rw [hbf4.out 6 (by decide)] at h; exact h
            have c7 : wg.cell? ⟨z, 12, none⟩ = some (.int .u8 (((str ls bs).getD (k2 + 7) 0 : Nat) : Int)) := by have h := hA.out.rz.cb 7 (by decide); rw [hbf4.out 7 (by decide)] at h; exact h
            have hbO : ∀ j, (str ls bs).getD j 0 ≤ 255 := by
              intro j
              rcases Nat.lt_or_ge j (str ls bs).length with h | h
              · have : (str ls bs).getD j 0 = (str ls bs)[j] := by simp [h]
                rw [this]
                exact hO.out _ (str_mem ls bs _ (List.getElem_mem h))
              · simp [h]
            have hle4 : ((le4 ((str ls bs).drop (k2 + 4)) : Nat) : Int) = (((str ls bs).getD (k2 + 4) 0 : Nat) : Int) + (((str ls bs).getD (k2 + 5) 0 : Nat) : Int) * 256 + (((str ls bs).getD (k2 + 6) 0 : Nat) : Int) * 65536 + (((str ls bs).getD (k2 + 7) 0 : Nat) : Int) * 16777216 := by
              unfold le4
              rw [drop_getD, drop_getD, drop_getD, drop_getD, Int.natCast_add, Int.natCast_add, Int.natCast_add, Int.natCast_mul, Int.natCast_mul, Int.natCast_mul]
              rfl
            have hfour : four ((str ls bs).drop k2) = .agg #[.int .u8 (((str ls bs).getD (k2 + 0) 0 : Nat) : Int), .int .u8 (((str ls bs).getD (k2 + 1) 0 : Nat) : Int), .int .u8 (((str ls bs).getD (k2 + 2) 0 : Nat) : Int), .int .u8 (((str ls bs).getD (k2 + 3) 0 : Nat) : Int)] := by unfold four; rw [drop_getD, drop_getD, drop_getD, drop_getD]
            have hL32 := le4_lt ((str ls bs).drop (k2 + 4)) (fun x hx => hO.out x (str_mem ls bs _ (List.mem_of_mem_drop hx)))
            have g0 := hbO (k2 + 0)
            generalize hb0 : (str ls bs).getD (k2 + 0) 0 = b0 at *
            replace hb0 := hide hb0
            have i0 : ((b0 : Nat) : Int) ≤ 255 := by omega
            have g1 := hbO (k2 + 1)
            generalize hb1 : (str ls bs).getD (k2 + 1) 0 = b1 at *
            replace hb1 := hide hb1
            have i1 : ((b1 : Nat) : Int) ≤ 255 := by omega
            have g2 := hbO (k2 + 2)
            generalize hb2 : (str ls bs).getD (k2 + 2) 0 = b2 at *
            replace hb2 := hide hb2
            have i2 : ((b2 : Nat) : Int) ≤ 255 := by omega
            have g3 := hbO (k2 + 3)
            generalize hb3 : (str ls bs).getD (k2 + 3) 0 = b3 at *
            replace hb3 := hide hb3
            have i3 : ((b3 : Nat) : Int) ≤ 255 := by omega
            have g4 := hbO (k2 + 4)
            generalize hb4 : (str ls bs).getD (k2 + 4) 0 = b4 at *
            replace hb4 := hide hb4
            have i4 : ((b4 : Nat) : Int) ≤ 255 := by omega
            have g5 := hbO (k2 + 5)
            generalize hb5 : (str ls bs).getD (k2 + 5) 0 = b5 at *
            replace hb5 := hide hb5
            have i5 : ((b5 : Nat) : Int) ≤ 255 := by omega
            have g6 := hbO (k2 + 6)
            generalize hb6 : (str ls bs).getD (k2 + 6) 0 = b6 at *
            replace hb6 := hide hb6
            have i6 : ((b6 : Nat) : Int) ≤ 255 := by omega
            have g7 := hbO (k2 + 7)
            generalize hb7 : (str ls bs).getD (k2 + 7) 0 = b7 at *
            replace hb7 := hide hb7
            have i7 : ((b7 : Nat) : Int) ≤ 255 := by omega
            replace hfour := hide hfour
            clear hbO
            generalize hLL : le4 ((str ls bs).drop (k2 + 4)) = L at *
            replace hle4 := hide hle4
            replace hLL := hide hLL
            obtain ⟨fa, fb, fc, fd, hfo⟩ := hA.out.fo
            have zc0 := hfo.cell 0
            have zf0 := hfo.frozen 0
            have zc1 := hfo.cell 1
            have zf1 := hfo.frozen 1
            have zc2 := hfo.cell 2
            have zf2 := hfo.frozen 2
            have zc3 := hfo.cell 3
            have zf3 := hfo.frozen 3
            simp at zc0 zc1 zc2 zc3
            have hK4 : Hid (wg.drew.cell? ⟨z, 5, none⟩ = some (.int .u8 (b0 : Nat)) ∧ wg.drew.cell? ⟨z, 6, none⟩ = some (.int .u8 (b1 : Nat)) ∧ wg.drew.cell? ⟨z, 7, none⟩ = some (.int .u8 (b2 : Nat)) ∧ wg.drew.cell? ⟨z, 8, none⟩ = some (.int .u8 (b3 : Nat))) := hide ⟨c0, c1, c2, c3⟩
            have hu6 := hide (upd_four (g := w.heap.size) (Upd.refl [w.heap.size] wg) (.inl (by simp)) (.int .u8 (b0 : Nat)) (.int .u8 (b1 : Nat)) (.int .u8 (b2 : Nat)) (.int .u8 (b3 : Nat)))
            have hzl := hA.out.rz.lt
            have hK6 : Hid (((((wg.setCell ⟨w.heap.size, 0, none⟩ (.int .u8 (b0 : Nat))).setCell ⟨w.heap.size, 1, none⟩ (.int .u8 (b1 : Nat))).setCell ⟨w.heap.size, 2, none⟩ (.int .u8 (b2 : Nat))).setCell ⟨w.heap.size, 3, none⟩ (.int .u8 (b3 : Nat))).drew.cell? ⟨z, 5, none⟩ = some (.int .u8 (b0 : Nat)) ∧ ((((wg.setCell ⟨w.heap.size, 0, none⟩ (.int .u8 (b0 : Nat))).setCell ⟨w.heap.size, 1, none⟩ (.int .u8 (b1 : Nat))).setCell ⟨w.heap.size, 2, none⟩ (.int .u8 (b2 : Nat))).setCell ⟨w.heap.size, 3, none⟩ (.int .u8 (b3 : Nat))).drew.cell? ⟨z, 6, none⟩ = some (.int .u8 (b1 : Nat)) ∧ ((((wg.setCell ⟨w.heap.size, 0, none⟩ (.int .u8 (b0 : Nat))).setCell ⟨w.heap.size, 1, none⟩ (.int .u8 (b1 : Nat))).setCell ⟨w.heap.size, 2, none⟩ (.int .u8 (b2 : Nat))).setCell ⟨w.heap.size, 3, none⟩ (.int .u8 (b3 : Nat))).drew.cell? ⟨z, 7, none⟩ = some (.int .u8 (b2 : Nat)) ∧ ((((wg.setCell ⟨w.heap.size, 0, none⟩ (.int .u8 (b0 : Nat))).setCell ⟨w.heap.size, 1, none⟩ (.int .u8 (b1 : Nat))).setCell ⟨w.heap.size, 2, none⟩ (.int .u8 (b2 : Nat))).setCell ⟨w.heap.size, 3, none⟩ (.int .u8 (b3 : Nat))).drew.cell? ⟨z, 8, none⟩ = some (.int .u8 (b3 : Nat))) := hide ⟨(hu6.out.cell (p := ⟨z, 5, none⟩) hzl (by simp; omega)).trans c0, (hu6.out.cell (p := ⟨z, 6, none⟩) hzl (by simp; omega)).trans c1, (hu6.out.cell (p := ⟨z, 7, none⟩) hzl (by simp; omega)).trans c2, (hu6.out.cell (p := ⟨z, 8, none⟩) hzl (by simp; omega)).trans c3⟩
            have hb6 := hide (blk_four hfo (.int .u8 (b0 : Nat)) (.int .u8 (b1 : Nat)) (.int .u8 (b2 : Nat)) (.int .u8 (b3 : Nat)))
            replace hfo := hide hfo
            go_region_held3 (fun W' => W'.cell? ⟨z, 5, none⟩ = some (.int .u8 (b0 : Nat)) ∧ W'.cell? ⟨z, 6, none⟩ = some (.int .u8 (b1 : Nat)) ∧ W'.cell? ⟨z, 7, none⟩ = some (.int .u8 (b2 : Nat)) ∧ W'.cell? ⟨z, 8, none⟩ = some (.int .u8 (b3 : Nat))) (first | with_reducible exact hK4.out | with_reducible exact hK6.out | fail) (first | fail)
            have hAG := hide (hA.out.form hs.out hu6.out.drew (Blk.drew hb6.out))
            have hbG := hide (Blk.drew hb6.out)
            clear hK4 hK6 hu6 hb6 hA hfo zc0 zc1 zc2 zc3 zf0 zf1 zf2 zf3 c0 c1 c2 c3 c4 c5 c6 c7
            have hA := hAG
            clear hAG
            generalize ((((wg.setCell ⟨w.heap.size, 0, none⟩ (.int .u8 (b0 : Nat))).setCell ⟨w.heap.size, 1, none⟩ (.int .u8 (b1 : Nat))).setCell ⟨w.heap.size, 2, none⟩ (.int .u8 (b2 : Nat))).setCell ⟨w.heap.size, 3, none⟩ (.int .u8 (b3 : Nat))).drew = wG at *
            have c4 : wG.cell? ⟨z, 9, none⟩ = some (.int .u8 (b4 : Nat)) := by have h := hA.out.rz.cb 4 (by decide); rw [hbf4.out 4 (by decide), hb4.out] at h; exact h
            have c5 : wG.cell? ⟨z, 10, none⟩ = some (.int .u8 (b5 : Nat)) := by have h := hA.out.rz.cb 5 (by decide); rw [hbf4.out 5 (by decide), hb5.out] at h; exact h
            have c6 : wG.cell? ⟨z, 11, none⟩ = some (.int .u8 (b6 : Nat)) := by have h := hA.out.rz.cb 6 (by decide); rw [hbf4.out 6 (by decide), hb6.out] at h; exact h
            have c7 : wG.cell? ⟨z, 12, none⟩ = some (.int .u8 (b7 : Nat)) := by have h := hA.out.rz.cb 7 (by decide); rw [hbf4.out 7 (by decide), hb7.out] at h; exact h
            have cU := u32_any z 9 4 b4 b5 b6 b7 wG c4 c5 c6 c7 (by omega) (by omega) (by omega) (by omega)
            rw [← hle4.out] at cU
            replace cU := hide cU
            have x3 := hA.out.rz.fz 3
            have y3 := hA.out.rz.c3
            go_wp2_with fail
            (with_reducible refine (cU.out).mono ?_)
            rintro e w2 ⟨rfl, nn, rfl⟩
            have hAN := hide (hA.out.drewN hs.out nn)
            clear hA cU c4 c5 c6 c7 x3 y3
            have hA := hAN
            clear hAN
            have hbN := hide (Blk.drewN hbG.out nn)
            clear hbG
            generalize wG.drewN nn = wN at *
            have e0 := hA.out.rz.c0
            have e1 := hA.out.rz.c1
            have e2 := hA.out.rz.c2
            have e3 := hA.out.rz.c3
            have e4 := hA.out.rz.c4
            have e13 := hA.out.rz.c13
            have x0 := hA.out.rz.fz 0
            have x1 := hA.out.rz.fz 1
            have x2 := hA.out.rz.fz 2
            have x3 := hA.out.rz.fz 3
            have x4 := hA.out.rz.fz 4
            have x13 := hA.out.rz.fz 13
            replace hA := hide (hA.out.set3 hs.out L)
            have hb3 := hide (Blk.far hbN.out (p := ⟨z, 3, none⟩) (by simp; omega) (.int .u32 (L : Nat)))
            have htI8 : ((t2 - 8 : Nat) : Int) ≤ 4294967295 := by omega
            have hLI : ((L : Nat) : Int) ≤ 4294967295 := by omega
            generalize htt : t2 - 8 = tt at *
            replace htt := hide htt
            go_upto_region 36 with fail
            clear e0 e1 e2 e3 e4 e13 x0 x1 x2 x3 x4 x13
            generalize wN.setCell ⟨z, 3, none⟩ (.int .u32 (L : Int)) = wL at *
            have e0 := hA.out.rz.c0
            have e1 := hA.out.rz.c1
            have e2 := hA.out.rz.c2
            have e3 := hA.out.rz.c3
            have e4 := hA.out.rz.c4
            have e13 := hA.out.rz.c13
            have x0 := hA.out.rz.fz 0
            have x1 := hA.out.rz.fz 1
            have x2 := hA.out.rz.fz 2
            have x3 := hA.out.rz.fz 3
            have x4 := hA.out.rz.fz 4
            have x13 := hA.out.rz.fz 13
            by_cases hlong : tt < L
            · have hqL : (tt : Int) < (L : Int) := by omega
              have hqL' : ¬ (L : Int) ≤ (tt : Int) := by omega
              have hR6 := hR.out.upd hA.out.up hzz.out hBw
              have kL := hR6.lng.cell
              have hnx := hide (show nextP tot chl pad (str ls bs) = .err false (k2 + 8) from by rw [hnp2.out]; exact nxB_long t8.out hav (by rw [htt.out, hLL.out]; exact hlong))
              have hTT : Hid (T + k2 + 2 + 8 + 1 ≤ T + bs.length + 12) := hide (by omega)
              replace hA := hide ((hA.out.set1 hs.out (errV al)).drew hs.out)
              unfold errV at hA
              clear hR6 hb3 hbN hlong
              go_region
              go_wp2_with fail
              clear e0 e1 e2 e3 e4 e13 x0 x1 x2 x3 x4 x13
              clear kL
              generalize (wL.setCell ⟨z, 1, none⟩ (.iface 122 (.pointer (some al)))).drew = wX at *
              have e1 := hA.out.rz.c1
              have x1 := hA.out.rz.fz 1
              obtain ⟨fa, fb, fc, fd, hfo⟩ := hA.out.fo
              have zc0 := hfo.cell 0
              have zc1 := hfo.cell 1
              have zc2 := hfo.cell 2
              have zc3 := hfo.cell 3
              have zf0 := hfo.frozen 0
              have zf1 := hfo.frozen 1
              have zf2 := hfo.frozen 2
              have zf3 := hfo.frozen 3
              simp at zc0 zc1 zc2 zc3
              have h40 := hide (blk_four hfo (.int .u8 0) (.int .u8 0) (.int .u8 0) (.int .u8 0))
              have hfin := hide (next_err (ae := ae) (ad := ad) (al := al) (ap := ap) (ah := ah) hA.out hnx.out hTT.out (by simp) hs.out (upd_four (g := w.heap.size) (Upd.refl [w.heap.size] wX) (.inl (by simp)) (.int .u8 0) (.int .u8 0) (.int .u8 0) (.int .u8 0)).drew)
              replace hfo := hide hfo
              go_region
              go_wp2_with fail
              exact bodyPost_ret (ret_cell_tmp3 rfl rfl (load_four (Blk.drew h40.out) rfl) rfl rfl rfl) rfl (by exact hfin.out)
            · have hqL : (L : Int) ≤ (tt : Int) := by omega
              have hqL' : ¬ (tt : Int) < (L : Int) := by omega
              have hand : bits .and .u32 (L : Int) 1 = ((L % 2 : Nat) : Int) := by rw [show ((L % 2 : Nat) : Int) = (L : Int) % 2 from by omega]; exact and_mask .u32 1 (by decide) (L : Int)
              obtain ⟨pd, hpd⟩ : ∃ pd, pd = decide (L % 2 = 1) := ⟨_, rfl⟩
              have hqp : (((L % 2 : Nat) : Int) == 1) = pd := by
                rw [hpd]
                rcases (by omega : L % 2 = 0 ∨ L % 2 = 1) with h | h <;> rw [h] <;> rfl
              generalize hr : L % 2 = r at *
              replace hr := hide hr
              replace hpd := hide hpd
              have hnx := hide (show nextP tot chl pad (str ls bs) = .ok (k2 + 8) L tt from by rw [hnp2.out, nxB_ok t8.out hav (by rw [htt.out, hLL.out]; exact hlong), hLL.out, htt.out])
              clear hlong hR
              go_region
              go_upto_region 40 with fail
              clear e0 e1 e2 e3 e4 e13 x0 x1 x2 x3 x4 x13
              have hA9 := hide ((hA.out.set13 hs.out pd).drew hs.out)
              have hb9 := hide (Blk.drew (Blk.far hb3.out (p := ⟨z, 13, none⟩) (by simp; omega) (.bool pd)))
              clear hA hb3 hbN
              have hA := hA9
              have hb3 := hb9
              clear hA9 hb9
              generalize (wL.setCell ⟨z, 13, none⟩ (.bool pd)).drew = wM at *
              have hzM := hA.out.rz.lt
              have hwM := hb3.out.lt
              obtain ⟨cp, hcp⟩ : ∃ cp, cp = Value.pointer (some ⟨wM.heap.size, 0, none⟩) := ⟨_, rfl⟩
              have hcb0 := Blk.new (wM.setCell ⟨z, 4, none⟩ cp) 92 #[.pointer (some ⟨z, 0, none⟩)]
              rw [show (wM.setCell ⟨z, 4, none⟩ cp).heap.size = wM.heap.size from by simp [World.setCell]] at hcb0
              have hA8 := hA.out.set4 hs.out cp
              have hA9 := hide (hA8.step hs.out ((Upd.refl [z] (wM.setCell ⟨z, 4, none⟩ cp)).alloc (.cells #[.pointer (some ⟨z, 0, none⟩)] 92)) (hA8.rz.upd ((Upd.refl [] _).alloc (.cells #[.pointer (some ⟨z, 0, none⟩)] 92)) (by simp)))
              have hb9 := hide ((Blk.far hb3.out (p := ⟨z, 4, none⟩) (by simp; omega) cp).alloc (.cells #[.pointer (some ⟨z, 0, none⟩)] 92))
              rw [hcp] at hcb0 hA9 hb9
              clear hA8
              have hcb := hide hcb0
              clear hcb0
              replace hcp := hide hcp
              have hnM := hide hA.out.ch.lt
              have huM := hide hA.out.up.size
              have e0 := hA.out.rz.c0
              have e1 := hA.out.rz.c1
              have e2 := hA.out.rz.c2
              have e3 := hA.out.rz.c3
              have e4 := hA.out.rz.c4
              have e13 := hA.out.rz.c13
              have x0 := hA.out.rz.fz 0
              have x1 := hA.out.rz.fz 1
              have x2 := hA.out.rz.fz 2
              have x3 := hA.out.rz.fz 3
              have x4 := hA.out.rz.fz 4
              have x13 := hA.out.rz.fz 13
              go_upto_region 41 with fail
              clear e0 e1 e2 e3 e4 e13 x0 x1 x2 x3 x4 x13
              clear hA hb3
              have hA := hA9
              have hb3 := hb9
              clear hA9 hb9
              generalize hcc : wM.heap.size = cc at *
              generalize (wM.setCell ⟨z, 4, none⟩ (Value.pointer (some ⟨cc, 0, none⟩))).alloc (.cells #[.pointer (some ⟨z, 0, none⟩)] 92) = wQ at *
              have zc0 := hb3.out.cell 0
              have zc1 := hb3.out.cell 1
              have zc2 := hb3.out.cell 2
              have zc3 := hb3.out.cell 3
              have zf0 := hb3.out.frozen 0
              have zf1 := hb3.out.frozen 1
              have zf2 := hb3.out.frozen 2
              have zf3 := hb3.out.frozen 3
              simp at zc0 zc1 zc2 zc3
              have e3 := hA.out.rz.c3
              have e4 := hA.out.rz.c4
              have x3 := hA.out.rz.fz 3
              have x4 := hA.out.rz.fz 4
              have hzQ := hA.out.rz.lt
              have hwQ := hb3.out.lt
              go_region
              go_wp2_with fail
              have hfin := hide (next_good (ae := ae) (ad := ad) (al := al) (ap := ap) (ah := ah) (T := T) hA.out hnx.out (by omega) hs.out hcb.out hwM (fun hm => by have := (hnM.out cc hm).1; omega) (by omega) (by omega) (by rw [hpd.out, hr.out]) (upd_four (g := w.heap.size) (Upd.refl [w.heap.size] wQ) (.inl (by simp)) (.int .u8 (b0 : Nat)) (.int .u8 (b1 : Nat)) (.int .u8 (b2 : Nat)) (.int .u8 (b3 : Nat))).drew)
              rw [show k2 + 8 - 8 = k2 from by omega, hfour.out] at hfin
              exact bodyPost_ret (ret_cell_tmp3 rfl rfl (load_four (Blk.drew (blk_four hb3.out (.int .u8 (b0 : Nat)) (.int .u8 (b1 : Nat)) (.int .u8 (b2 : Nat)) (.int .u8 (b3 : Nat)))) rfl) rfl rfl rfl) rfl (by exact hfin.out)
end Go.Proofs.YthkpoidnhgcjhaaDoor

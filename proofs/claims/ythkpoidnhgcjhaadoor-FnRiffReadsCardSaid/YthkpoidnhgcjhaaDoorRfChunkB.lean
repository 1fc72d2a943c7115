/- 'chunkReader.Read', over a chunk's reader: the walk. -/
import Derived.Test.YthkpoidnhgcjhaaDoorRfWords
namespace Go.Proofs.YthkpoidnhgcjhaaDoor
set_option linter.unusedSimpArgs false
set_option linter.unusedVariables false
open Go.RowKit Plain

set_option maxRecDepth 100000 in
set_option maxHeartbeats 4000000 in
theorem chunk_b (B p d off L capd T : Nat) (cl : List Int) (bs : List Nat) (l : Lv) (l2 : Lv) (ls2 : List Lv) (td : TypeId) (cs : Array Value) (ae : Addr) (w : World) (hC : Chain w B p cl (l :: (l2 :: ls2)) bs T)
    (hlow : ∀ n0 wk, 1 ≤ n0 → n0 ≤ L → Upd [] w wk → Calls Tryd.prog (fnOf (l2 :: ls2)) #[.pointer (some ⟨blOf p (l2 :: ls2), 0, none⟩), .slice (some ⟨d, off, none⟩) n0 capd] wk (ReadPost (str (l2 :: ls2) bs) n0 d off td cs (d :: zsOf p (l2 :: ls2)) (fun n w' => Chain w' B p cl (adv n (l2 :: ls2)) (bs.drop n) (T + 1)) ae wk))
    (hL0 : 1 ≤ L) (hL : (L : Int) ≤ 2147483647) (hd : Blk w d td cs) (hLc : L ≤ capd) (hda : d ∉ allOf p (l :: (l2 :: ls2))) (hdB : B ≤ d) (hBw : B ≤ w.heap.size) (hE : w.cell? ⟨0, 0, none⟩ = some (.iface 122 (.pointer (some ae)))) (hEB : 0 < B) :
    Calls Tryd.prog 56 #[.pointer (some ⟨l.c, 0, none⟩), .slice (some ⟨d, off, none⟩) L capd] w (ReadPost (str (l :: (l2 :: ls2)) bs) L d off td cs (d :: zsOf p (l :: (l2 :: ls2))) (fun n w' => Chain w' B p cl (adv n (l :: (l2 :: ls2))) (bs.drop n) (T + 1)) ae w) := by
  obtain ⟨⟨bf, hz⟩, hc, hC', hct, ht, hzn, hcn, hzc, hBz, hBc⟩ := hC
  have NA := na_chunk
  have ME := me_chunk
  have qN := neq_cr ⟨l.c, 0, none⟩
  have k0 := hz.c0
  have k1 := hz.c1
  have k2 := hz.c2
  have k3 := hz.c3
  have k4 := hz.c4
  have fz2 := hz.fz 2
  have fz3 := hz.fz 3
  have fz1 := hz.fz 1
  have j0 := hc.cell 0
  simp at j0
  replace k0 : w.cell? ⟨l.z, 0, none⟩ = some (.iface 84 (.pointer (some ⟨l2.c, 0, none⟩))) := k0
  have hchI : (l.chl : Int) ≤ 4294967295 := by omega
  have hzlt := hz.lt
  have hclt := hc.lt
  have hzs : l.z ∉ d :: zsOf p (l2 :: ls2) := by
    simp only [List.mem_cons, not_or]
    exact ⟨fun e => hda (by simp [allOf, e]), fun e => hzn (zs_all p _ _ e)⟩
  have hcs : l.c ∉ d :: zsOf p (l2 :: ls2) := by
    simp only [List.mem_cons, not_or]
    exact ⟨fun e => hda (by simp [allOf, e]), fun e => hcn (zs_all p _ _ e)⟩
  replace hzs := hide hzs
  replace hcs := hide hcs
  replace hC' := hide hC'
  replace hlow := hide hlow
  replace hd := hide hd
  replace hz := hide hz
  replace hc := hide hc
  by_cases h0 : l.chl = 0
  · have hq : ((l.chl : Int) == 0) = true := by rw [h0]; rfl
    go_enter Tryd.func56, Tryd.ntmps56
    go_wp2_with fail
    go_quiet (fail)
    go_wp2
    go_ret2
    have hav : (str (l :: (l2 :: ls2)) bs).length = 0 := by show ((str (l2 :: ls2) bs).take l.chl).length = 0; rw [h0]; simp
    have hCf : Chain w B p cl (l :: (l2 :: ls2)) bs (T + 1) := ⟨⟨bf, hz.out⟩, hc.out, Chain.later hC'.out, hct, ht, hzn, hcn, hzc, hBz, hBc⟩
    have hCd := hCf.upd ((Upd.refl [] w).drewN nq) (by simp) hBw (by simp)
    exact ⟨0, true, Nat.zero_le _, Nat.zero_le _, fun h => by omega, fun _ => hav.symm, fun _ => rfl, rfl, ⟨cs, hd.out, by simpa using Fill.nil cs off⟩, (Upd.refl _ w).drewN _, by show Chain _ B p cl (adv 0 (l :: (l2 :: ls2))) _ _; rw [adv_zero]; exact hCd⟩
  · have hq : ((l.chl : Int) == 0) = false := beq_false_of_ne (by omega)
    have hnl : ¬ (l.chl : Int) < 0 := by omega
    obtain ⟨n0, hn1, hnL, hnc, hor⟩ : ∃ n0, 1 ≤ n0 ∧ n0 ≤ L ∧ n0 ≤ l.chl ∧ (n0 = L ∨ n0 = l.chl) := by
      rcases Nat.le_total L l.chl with h | h
      · exact ⟨L, hL0, Nat.le_refl _, h, .inl rfl⟩
      · exact ⟨l.chl, by omega, h, Nat.le_refl _, .inr rfl⟩
    have hcl : ∀ wk, Upd [] w wk → Calls Tryd.prog 56 #[.pointer (some ⟨l2.c, 0, none⟩), .slice (some ⟨d, off, none⟩) n0 capd] wk (ReadPost (str (l2 :: ls2) bs) n0 d off td cs (d :: zsOf p (l2 :: ls2)) (fun n w' => Chain w' B p cl (adv n (l2 :: ls2)) (bs.drop n) (T + 1)) ae wk) := fun wk hk => hlow.out n0 wk hn1 hnL hk
    replace hcl := hide hcl
    go_enter Tryd.func56, Tryd.ntmps56
    go_upto_if 52 with fail
    go_cut [7] (fun x7 wd => x7 = .int .i64 n0 ∧ w = wd)
    case first =>
      by_cases h : (L : Int) < (l.chl : Int)
      · go_wp2
        go_meet
        exact ⟨by congr 1; omega, rfl⟩
      · go_wp2
        go_meet
        exact ⟨by congr 1; omega, rfl⟩
    case rest =>
      obtain ⟨rfl, rfl⟩ := hcut
      go_wp2_with fail
      have hn1I : (1 : Int) ≤ (n0 : Int) := by omega
      have hnLI : (n0 : Int) ≤ (L : Int) := by omega
      have hncI : (n0 : Int) ≤ (capd : Int) := by omega
      have hLcI : (L : Int) ≤ (capd : Int) := by omega
      go_region_held3 (fun W => W.cell? ⟨l.z, 0, none⟩ = some (.iface 84 (.pointer (some ⟨l2.c, 0, none⟩)))) (first | go_keep | (exact (q7.cell (p := ⟨l.z, 0, none⟩) hzlt hzs.out).trans k0)) (first | ((with_reducible refine (hcl.out w.drew ((Upd.refl [] w).drew)).mono ?_); rintro e w1 ⟨n, eof, q1, q2, q3, q4, q5, rfl, q6, q7, q8⟩))
      have hnc1 : n ≤ l.chl := by omega
      have hnI : (n : Int) ≤ (l.chl : Int) := by omega
      have hntI : (n : Int) ≤ (l.tot : Int) := by omega
      have htI : (l.tot : Int) ≤ 4294967295 := by omega
      have hz1 := hz.out.upd ((Upd.refl (d :: zsOf p (l2 :: ls2)) w).drew.trans q7) hzs.out
      have m1 := hz1.c1
      have m2 := hz1.c2
      have m3 := hz1.c3
      have g1 := hz1.fz 1
      have g2 := hz1.fz 2
      have g3 := hz1.fz 3
      have hc1 := hide (hc.out.upd ((Upd.refl (d :: zsOf p (l2 :: ls2)) w).drew.trans q7) hcs.out)
      have hu1 := hide ((Upd.refl (d :: zsOf p (l :: (l2 :: ls2))) w).drew.step q7 (fun i hi _ => by
        simp only [List.mem_cons, zsOf, List.map_cons] at hi ⊢
        rcases hi with h | h | h
        · exact .inl h
        · exact .inr (.inl h)
        · exact .inr (.inr (.inr h))))
      have hgE : 0 ∉ d :: zsOf p (l2 :: ls2) := by
        intro hm
        simp only [List.mem_cons] at hm
        rcases hm with h | h
        · omega
        · have := (hC'.out.lt _ (zs_all p _ _ h)).2
          omega
      have hE1 := (q7.cell (p := ⟨0, 0, none⟩) (World.block_lt_of_cell? _ _ hE) hgE).trans hE
      have hfin : ∀ wz : World, RZ wz l.z (ifOf p (l2 :: ls2)) .nilIface (.pointer (some ⟨l.c, 0, none⟩)) (l.tot - n) (l.chl - n) l.pad bf → Upd [l.z] w1 wz → ReadPost (str (l :: (l2 :: ls2)) bs) L d off td cs (d :: zsOf p (l :: (l2 :: ls2))) (fun n w' => Chain w' B p cl (adv n (l :: (l2 :: ls2))) (bs.drop n) (T + 1)) ae w (.returned (.tuple #[.int .i64 (n : Nat), endV ae eof])) wz := by
        intro wz hR hU
        have hav : str (l :: (l2 :: ls2)) bs = (str (l2 :: ls2) bs).take l.chl := rfl
        have hal : (str (l :: (l2 :: ls2)) bs).length = min l.chl (str (l2 :: ls2) bs).length := by rw [hav, List.length_take]
        refine ⟨n, eof, by omega, by omega, fun h => q3 (by omega), fun h => by have := q4 h; omega, fun h => q5 (by omega), rfl, ?_, hu1.out.step hU (fun i hi _ => by simp at hi; subst hi; simp [zsOf]), ?_⟩
        · obtain ⟨cs', h1, h2⟩ := q6
          refine ⟨cs', h1.upd hU (by simp; intro e; exact hda (by simp [allOf, e])), ?_⟩
          have e : (str (l :: (l2 :: ls2)) bs).take n = (str (l2 :: ls2) bs).take n := by rw [hav, List.take_take, Nat.min_eq_left hnc1]
          rw [e]
          exact h2
        · refine ⟨⟨bf, hR⟩, hc1.out.upd hU (by simp; exact fun e => hzc e.symm), ?_, by show l.chl - n ≤ l.tot - n; omega, by show l.tot - n < _; omega, by show l.z ∉ allOf p (adv n (l2 :: ls2)); rw [all_adv]; exact hzn, by show l.c ∉ allOf p (adv n (l2 :: ls2)); rw [all_adv]; exact hcn, hzc, hBz, hBc⟩
          refine q8.upd hU (by simp; omega) (Nat.le_trans hBw hu1.out.size) (fun k hk => ?_)
          rw [all_adv] at hk
          simp
          rintro rfl
          exact hzn hk
      replace hfin := hide hfin
      replace hz1 := hide hz1
      clear q1 q2 q3 q4 q5 q6 q7 q8 hc1 hu1 hC' hlow hcl hda hzn hcn k0 k1 k2 k3 k4 fz1 fz2 fz3 j0 hd hc
      cases eof with
      | true =>
        have qN1 := neq_es ae
        have hEv : endV ae true = .iface 122 (.pointer (some ae)) := rfl
        go_wp2_with fail
        go_ret2
        have h2 := (hz1.out.set2 (l.tot - n)).set3 (l.chl - n)
        rw [Int.ofNat_sub (by omega), Int.ofNat_sub (by omega)] at h2
        exact hfin.out _ h2 (((Upd.refl _ _).setCell (p := ⟨l.z, 2, none⟩) (by simp) _).setCell (p := ⟨l.z, 3, none⟩) (by simp) _)
      | false =>
        have qN2 := neq_nil_es ae
        have hEv : endV ae false = .nilIface := rfl
        go_wp2_with fail
        go_ret2
        have h2 := ((hz1.out.set2 (l.tot - n)).set3 (l.chl - n)).set1 .nilIface
        rw [Int.ofNat_sub (by omega), Int.ofNat_sub (by omega)] at h2
        exact hfin.out _ h2 ((((Upd.refl _ _).setCell (p := ⟨l.z, 2, none⟩) (by simp) _).setCell (p := ⟨l.z, 3, none⟩) (by simp) _).setCell (p := ⟨l.z, 1, none⟩) (by simp) _)
end Go.Proofs.YthkpoidnhgcjhaaDoor

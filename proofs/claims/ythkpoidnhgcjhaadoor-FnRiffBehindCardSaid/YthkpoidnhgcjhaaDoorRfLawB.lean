/- 'FnRiffBehind': the walk of the law. -/
import Derived.Test.YthkpoidnhgcjhaaDoorRfLawP
namespace Go.Proofs.YthkpoidnhgcjhaaDoor
set_option linter.unusedSimpArgs false
set_option linter.unusedVariables false
open Go.RowKit Plain

set_option maxRecDepth 100000 in
set_option maxHeartbeats 16000000 in
theorem behind_law (f0 f1 f2 f3 : Nat) (Ai Ad Ac : Option Addr) (ni ci cd cc : Nat) (ids : List Nat) (D : List (List Nat)) (ml : List Nat) (ae au ar ad al ap ah : Addr) (w : World)
    (hf : ∀ x ∈ [f0, f1, f2, f3], x ≤ 255) (hi : Rd .u8 w w.heap.size Ai (ofNr ids)) (hil : ids.length = ni * 4) (hib : ∀ x ∈ ids, x ≤ 255) (hniI : (ni : Int) ≤ 9223372036854775807)
    (hd : RdR w w.heap.size Ad D) (hdl : (D.length : Int) ≤ 9223372036854775807) (hdll : ∀ l ∈ D, (l.length : Int) ≤ 9223372036854775807) (hdb : ∀ d ∈ D, ∀ x ∈ d, x ≤ 255)
    (hc : Rd .u8 w w.heap.size Ac (ofNr ml)) (hclI : (ml.length : Int) ≤ 9223372036854775807) (hcw : ∀ x ∈ ml, x ≤ 255) (hE : Errs w w.heap.size ae au ar ad al ap ah) :
    Calls Tryd.prog 3 #[.agg #[.int .u8 (f0 : Nat), .int .u8 (f1 : Nat), .int .u8 (f2 : Nat), .int .u8 (f3 : Nat)], .slice Ai ni ci, .slice Ad D.length cd, .slice Ac ml.length cc] w fun e w' => e = .returned (.bool true) ∧ Upd [] w w' := by
  obtain ⟨F4, hF4⟩ : ∃ F4 : Array Value, F4 = #[.int .u8 (f0 : Nat), .int .u8 (f1 : Nat), .int .u8 (f2 : Nat), .int .u8 (f3 : Nat)] := ⟨_, rfl⟩
  have u0 := (Upd.refl [] w).alloc (.cells #[.int .u8 (f0 : Nat), .int .u8 (f1 : Nat), .int .u8 (f2 : Nat), .int .u8 (f3 : Nat)] 22)
  have hb0 := Blk.new w 22 #[.int .u8 (f0 : Nat), .int .u8 (f1 : Nat), .int .u8 (f2 : Nat), .int .u8 (f3 : Nat)]
  have hz0 : w.heap.size ≤ (w.alloc (.cells #[.int .u8 (f0 : Nat), .int .u8 (f1 : Nat), .int .u8 (f2 : Nat), .int .u8 (f3 : Nat)] 22)).heap.size := by simp
  clear hF4
  by_cases h1 : (2147483647 : Int) < (ni : Int)
  · clear hi hd hc hE hb0
    replace u0 := hide u0
    go_enter Tryd.func3, Tryd.ntmps3
    go_wp2
    go_ret
    exact ⟨rfl, u0.out⟩
  have hni' : ¬ (2147483647 : Int) < (ni : Int) := h1
  clear h1
  have cF := fits_any Ad cd w.heap.size D _ (hd.upd u0 (Nat.le_refl _) (by simp)) hdl hdll
  by_cases hft0 : fits2 D = false
  · rw [hft0] at cF
    replace cF := hide cF
    clear hi hd hc hE hb0
    replace u0 := hide u0
    go_enter Tryd.func3, Tryd.ntmps3
    go_wp2_with (first | (go_at_call 7; (with_reducible refine (cF.out).mono ?_); rintro e w' ⟨rfl, rfl⟩) | fail)
    go_ret
    exact ⟨rfl, u0.out⟩
  have hft : fits2 D = true := by simpa using hft0
  rw [hft] at cF
  have hft2 := of_decide_eq_true hft
  obtain ⟨hdl2, hdll2⟩ := hft2
  replace hft := hide hft
  by_cases h1 : (2147483647 : Int) < (ml.length : Int)
  · replace cF := hide cF
    clear hi hd hc hE hb0
    replace u0 := hide u0
    replace hdll2 := hide hdll2
    replace hdll := hide hdll
    go_enter Tryd.func3, Tryd.ntmps3
    go_wp2_with (first | (go_at_call 7; (with_reducible refine (cF.out).mono ?_); rintro e w' ⟨rfl, rfl⟩) | fail)
    go_ret
    exact ⟨rfl, u0.out⟩
  have hcl' : ¬ (2147483647 : Int) < (ml.length : Int) := h1
  clear h1 hft0
  have cS := sum_any Ad cd w.heap.size D _ (hd.upd u0 (Nat.le_refl _) (by simp)) hdl2 hdll2
  have hi1 := hi.upd u0 (Nat.le_refl _) (by simp)
  have hd1 := hd.upd u0 (Nat.le_refl _) (by simp)
  have hc1 := hc.upd u0 (Nat.le_refl _) (by simp)
  have hE1 := hE.at_ u0
  clear hi hd hc hE
  generalize hw0 : w.alloc (.cells #[.int .u8 (f0 : Nat), .int .u8 (f1 : Nat), .int .u8 (f2 : Nat), .int .u8 (f3 : Nat)] 22) = w0 at *
  have cR := readFile_any w0 ae au ar ad al ap ah hE1
  replace hw0 := hide hw0
  replace cF := hide cF
  replace cS := hide cS
  replace cR := hide cR
  replace u0 := hide u0
  replace hb0 := hide hb0
  replace hi1 := hide hi1
  replace hd1 := hide hd1
  replace hc1 := hide hc1
  replace hE1 := hide hE1
  replace hdll := hide hdll
  replace hdll2 := hide hdll2
  replace hdb := hide hdb
  replace hib := hide hib
  replace hf := hide hf
  replace hcw := hide hcw
  replace hil := hide hil
  go_enter Tryd.func3, Tryd.ntmps3
  go_upto_region 3 with (first | (go_at_call 7; rw [hw0.out]; (with_reducible refine (cF.out).mono ?_); rintro e w' ⟨rfl, rfl⟩) | fail)
  go_wp2_with fail
  (with_reducible refine (cS.out).mono ?_)
  rintro e w' ⟨n, rfl, hn, ⟨hn0, hn1⟩, rfl⟩
  replace hn := hide hn
  by_cases g1 : (1048576 : Int) < n + (ml.length : Int)
  · go_wp2_with (first | (go_at_call 9; (with_reducible refine (cR.out).mono ?_); rintro e w' ⟨rfl, hu⟩) | fail)
    go_ret
    exact ⟨rfl, u0.out.trans hu⟩
  by_cases g2 : (4096 : Int) < (ni : Int)
  · go_wp2_with (first | (go_at_call 9; (with_reducible refine (cR.out).mono ?_); rintro e w' ⟨rfl, hu⟩) | fail)
    go_ret
    exact ⟨rfl, u0.out.trans hu⟩
  have hnd := hn.out (by omega)
  have hmlI : (ml.length : Int) ≤ 1048576 := by omega
  obtain ⟨m, hm⟩ : ∃ m, m = min ni D.length := ⟨_, rfl⟩
  have cW := hide (written_any m Ai Ad ni ci cd ids D w0 (hi1.out.more hz0) hil.out (fun h => by obtain ⟨b, off, Af, Cf, h1, h2, h3⟩ := hd1.out h; exact ⟨b, off, Af, Cf, h1, by omega, fun j hj => ⟨(h3 j hj).1, (h3 j hj).2.more hz0⟩⟩) (by omega) hnd hm)
  have hmI : (m : Int) ≤ 4096 := by omega
  have hbl := body_len ids D m (by omega)
  have htm := tot_mono D m
  have hbI : ((bodyP ids D m).length : Int) ≤ 2000000 := by omega
  have hlen : ∀ j, j < m → ((D.getD j []).length : Int) ≤ 1048576 := fun j hj => by
    have h1 := tot_take D j (by omega)
    have h2 := tot_mono D (j + 1)
    omega
  have hbb := body_by hib.out hdb.out m
  replace hbb := hide hbb
  replace hlen := hide hlen
  replace hm := hide hm
  clear hbl htm hnd hn cS cF hi1 hd1 hdll hdll2 hdb hib
  go_upto_region 6 with (first | (go_at_call 10; (with_reducible refine (cW.out).mono ?_); rintro e w1 ⟨v1, A1, k1, rfl, hk1, hC1, hu1⟩; obtain ⟨Ab, kb, rfl⟩ := own_shape hk1; replace hk1 := hide hk1; replace hu1 := hide hu1; clear hC1) | fail)
  have hbq := hb0.out.upd hu1.out (by simp)
  have p0 := hbq.cell 0
  have p1 := hbq.cell 1
  have p2 := hbq.cell 2
  have p3 := hbq.cell 3
  simp at p0 p1 p2 p3
  have cFi := hide (file_any f0 f1 f2 f3 Ab kb w1.heap.size (bodyP ids D m) w1 (Rd.ofOwn hk1.out) (Nat.le_refl _) (by omega))
  have hfl : (fileP [f0, f1, f2, f3] (bodyP ids D m)).length = 8 + (4 + (bodyP ids D m).length) + (padP (decide (([f0, f1, f2, f3] ++ bodyP ids D m).length % 2 = 1))).length := by
    unfold fileP
    rw [chunk_len _ _ rfl]
    simp
    omega
  have hpp := padP_len (decide (([f0, f1, f2, f3] ++ bodyP ids D m).length % 2 = 1))
  have hflI : ((fileP [f0, f1, f2, f3] (bodyP ids D m)).length : Int) ≤ 3000000 := by split at hpp <;> omega
  have hflb := hide (file_by hf.out hbb.out)
  have hRi := fun (mr : List Nat) => riff_behind (form := [f0, f1, f2, f3]) (more := mr) (cs := csP ids D (fun _ => 1048576) m) 1048576 rfl (by rw [cs_enc]; omega) (cs_ok ids D _ m (fun i => by omega))
  simp only [cs_enc, cs_len] at hRi
  have hst := steps_succ ids D (fun _ => 1048576) m
  have hsl : (stepsP (csP ids D (fun _ => 1048576) (m + 1))).length = 2 * (m + 1) := steps_len ids D _ (m + 1)
  have hsw := steps_by ids D (fun _ => 1048576) (m + 1) (fun j hj => by omega)
  rw [show stepsP (csP ids D (fun _ => 1048576) m) ++ [((0 : Int), (0 : Int)), (1, 1048576)] = stepsP (csP ids D (fun _ => 1048576) (m + 1)) from hst.symm] at hRi
  replace hst := hide hst
  clear hfl hpp hbq
  replace hRi := hide hRi
  replace hsl := hide hsl
  replace hsw := hide hsw
  go_upto_region 7 with (first | (go_at_call 11; (with_reducible refine (cFi.out).mono ?_); rintro e w2 ⟨v2, rfl, hk2, hu2⟩; obtain ⟨Af, kf, rfl⟩ := own_shape hk2; replace hk2 := hide hk2; replace hu2 := hide hu2) | fail)
  clear p0 p1 p2 p3 cFi cW
  have u02 := hide (hu1.out.trans hu2.out)
  go_wp2_with fail
  go_loopg [12, 13] (m + 1) (fun k v12 v13 wr => ∃ j : Nat, k + j = m + 1 ∧ v13 = .int .i64 (j : Nat) ∧ wr.ownsRow w2.heap.size 35 2 v12 (2 * j) (stepC (stepsP (csP ids D (fun _ => 1048576) j))) ∧ Upd [] w2 wr)
  case atStart => exact ⟨0, by simp, rfl, ⟨rfl, .inl ⟨rfl, rfl⟩⟩, Upd.refl _ _⟩
  case round =>
    obtain ⟨j, hj, rfl, hs, hu⟩ := hrel
    obtain ⟨As, ks, rfl⟩ := own_shape hs
    cases gk with
    | zero =>
      have hj' : j = m + 1 := by omega
      subst hj'
      have hno : ¬ ((m + 1 : Nat) : Int) ≤ (m : Int) := by omega
      have hno2 : (m : Int) < ((m + 1 : Nat) : Int) := by omega
      generalize hfl : fileP [f0, f1, f2, f3] (bodyP ids D m) = fl at *
      generalize hsp : stepsP (csP ids D (fun _ => 1048576) (m + 1)) = sp at *
      have hsp2 : 2 * (m + 1) = sp.length := hsl.out.symm
      rw [hsp2] at hs
      generalize htl : toldP (csP ids D (fun _ => 1048576) m) = tl at *
      obtain ⟨L, hL⟩ : ∃ L : List Int, L = 0 :: (List.replicate (2 * m) 0 ++ [1, 3]) := ⟨_, rfl⟩
      rw [← hL] at hRi
      have hSl : (sp.length : Int) ≤ 1048576 := by omega
      have htlL : tl.length = m := by rw [← htl]; simp [toldP, csP]
      have htlD : ∀ x ∈ tl, (x.data.length : Int) ≤ 2147483647 := fun x hx => by
        rw [← htl] at hx
        obtain ⟨y, hy, rfl⟩ := List.mem_map.1 hx
        obtain ⟨i, hi, rfl⟩ := List.mem_map.1 hy
        have := hlen.out i (List.mem_range.1 hi)
        simp only [List.length_take]
        omega
      have hLl : L.length = 2 * m + 3 := by rw [hL]; simp
      have u0r := hide (u02.out.trans hu)
      have hk2r := hide (hu.own hk2.out (by simp))
      have hR1 := hRi.out []
      rw [List.append_nil] at hR1
      have cRf := hide (riff_any _ Af none As kf 0 ks fl [] sp ae au ar ad al ap ah (Rd.ofOwn hk2r.out) (own_cap hk2r.out) (by omega) hflb.out Rd.nil (by simp) (by simp) (RdS.ofOwn hs) hSl hsw.out (hE1.out.at_ u0r.out))
      rw [hR1] at cRf
      replace hs := hide hs
      replace htl := hide htl
      replace hfl := hide hfl
      replace hsp := hide hsp
      replace hL := hide hL
      replace hsp2 := hide hsp2
      replace htlD := hide htlD
      replace hu := hide hu
      clear hR1 hk2 hlen hbb hk1
      have hcx := hc1.out.upd u0r.out hz0 (by simp)
      have cRf' := cRf.out
      rw [show ([] : List Int).length = 0 from rfl, ← hsp2.out] at cRf'
      replace cRf := hide cRf'
      clear cRf'
      go_wp2_with fail
      (with_reducible refine (cRf.out).mono ?_)
      rintro e w3 ⟨ov, kv, rfl, hu3, ho3, hk3⟩
      obtain ⟨A3, c3, rfl, hC3⟩ := ho3.reads
      obtain ⟨A4, c4, rfl⟩ := own_shape hk3
      have hI3 := hide (Rd.ofOwn hk3)
      replace hC3 := hide hC3
      simp only [four, List.getD_cons_zero, List.getD_cons_succ, htlL, hLl]
      have u03 := hide (u0r.out.trans hu3)
      have u23 := hide (hu.out.trans hu3)
      have hs3 := hide (hu3.own hs.out (by simp))
      have uA := (Upd.refl [] w3).alloc (.cells #[.int .u8 (f0 : Nat), .int .u8 (f1 : Nat), .int .u8 (f2 : Nat), .int .u8 (f3 : Nat)] 22)
      have hbA := hide (Blk.new w3 22 #[.int .u8 (f0 : Nat), .int .u8 (f1 : Nat), .int .u8 (f2 : Nat), .int .u8 (f3 : Nat)])
      have hRfA := hide ((Rd.ofOwn (hu3.own hk2r.out (by simp))).upd uA (Nat.le_refl _) (by simp))
      have hRmA := hide ((hc1.out.upd u03.out hz0 (by simp)).upd uA (by have := u03.out.size; omega) (by simp))
      have hs3A := hide (uA.own hs3.out (by simp))
      have hzA : w3.heap.size ≤ (w3.alloc (.cells #[.int .u8 (f0 : Nat), .int .u8 (f1 : Nat), .int .u8 (f2 : Nat), .int .u8 (f3 : Nat)] 22)).heap.size := by simp
      have hzB : w3.heap.size < (w3.alloc (.cells #[.int .u8 (f0 : Nat), .int .u8 (f1 : Nat), .int .u8 (f2 : Nat), .int .u8 (f3 : Nat)] 22)).heap.size := by simp
      have hzM : w.heap.size ≤ (w3.alloc (.cells #[.int .u8 (f0 : Nat), .int .u8 (f1 : Nat), .int .u8 (f2 : Nat), .int .u8 (f3 : Nat)] 22)).heap.size := by have := u03.out.size; omega
      replace uA := hide uA
      clear hu3 ho3 hk3 hcx hk2r
      go_upto_region 13 with fail
      generalize w3.alloc (.cells #[.int .u8 (f0 : Nat), .int .u8 (f1 : Nat), .int .u8 (f2 : Nat), .int .u8 (f3 : Nat)] 22) = wA at *
      generalize hq3 : w3.heap.size = fq at *
      replace hq3 := hide hq3
      go_wp2_with (first
        | (refine wpList_pushR rfl (.const (.slice none 0 0)) (.tmp 73) 25 rfl wA.heap.size _ 5 .u8 1 Tryd.underlying25 info_u8r (.slice none 0 0) 0 [] rfl ⟨rfl, .inl ⟨rfl, rfl⟩⟩ Af fl.length kf (ofNr fl) (ofNr_len _) rfl hRfA.out (by simp only [maxLen]; omega) (by omega) (Nat.le_refl _) ?_
           intro v5 w5 hk5 hg5
           rw [Nat.zero_add, List.nil_append] at hk5
           have u5 := (Upd.refl [] wA).grown hg5 (fun g h => by simp [Value.ownBlock] at h)
           have hRm5 := hide (hRmA.out.upd u5 hzM (by simp))
           have hz5 := u5.size
           obtain ⟨A5, c5, rfl⟩ := own_shape hk5
           replace hk5 := hide hk5
           replace u5 := hide u5)
        | (refine wpList_pushR rfl (.tmp 74) (.tmp 75) 25 rfl wA.heap.size _ 5 .u8 1 Tryd.underlying25 info_u8r _ fl.length _ rfl hk5.out Ac ml.length cc (ofNr ml) (ofNr_len _) rfl hRm5.out (by simp only [maxLen]; omega) (by omega) hz5 ?_
           intro v6 w6 hk6 hg6
           have u6 := hide (upd_own u5.out hk5.out (Nat.le_refl _) hg6)
           obtain ⟨A6, c6, rfl⟩ := own_shape hk6
           have hk6' : w6.ownsRow wA.heap.size 5 1 (.slice A6 (fl ++ ml).length c6) (fl ++ ml).length ((ofNr (fl ++ ml)).map (Value.int .u8)) := by rw [List.length_append]; simpa [ofNr] using hk6
           clear hk6
           replace hk6' := hide hk6')
        | fail)
      have uA6 := uA.out.trans u6.out
      have u06 := hide (u03.out.trans uA6)
      have hs6 := u6.out.own hs3A.out (by simp)
      have cR2 := riff_any w6 A6 none As c6 0 ks (fl ++ ml) [] sp ae au ar ad al ap ah (Rd.ofOwn hk6'.out) (own_cap hk6'.out) (by rw [List.length_append]; omega) (fun x hx => (List.mem_append.1 hx).elim (hflb.out x) (hcw.out x)) Rd.nil (by simp) (by simp) (RdS.ofOwn hs6) hSl hsw.out (hE1.out.at_ u06.out)
      rw [hRi.out ml, show ([] : List Int).length = 0 from rfl, ← hsp2.out, List.length_append] at cR2
      replace cR2 := hide cR2
      have hC6 := hide (hC3.out.upd uA6 (by rw [hq3.out]; exact Nat.le_refl _) (by simp))
      have hI6 := hide (hI3.out.upd uA6 (by rw [hq3.out]; exact Nat.le_refl _) (by simp))
      have hb6 := hide (hbA.out.upd u6.out (by simp))
      have hz6 := uA6.size
      (with_reducible refine (cR2.out).mono ?_)
      rintro e w7 ⟨ov2, kv2, rfl, hu7, ho7, hk7⟩
      obtain ⟨A7, c7, rfl, hC7⟩ := ho7.reads
      obtain ⟨A8, c8, rfl⟩ := own_shape hk7
      have hI7 := Rd.ofOwn hk7
      simp only [four, List.getD_cons_zero, List.getD_cons_succ, htlL, hLl]
      have uF := (Upd.refl [] w7).alloc (.cells #[.int .u8 (f0 : Nat), .int .u8 (f1 : Nat), .int .u8 (f2 : Nat), .int .u8 (f3 : Nat)] 22)
      have hz7 := hu7.size
      have hz6' : fq ≤ w6.heap.size := by have := hq3.out; omega
      have cCh := chunks_same A3 A7 c3 c7 fq w7.heap.size tl (w7.alloc (.cells #[.int .u8 (f0 : Nat), .int .u8 (f1 : Nat), .int .u8 (f2 : Nat), .int .u8 (f3 : Nat)] 22)) (by rw [htlL]; omega) htlD.out ((hC6.out.upd hu7 hz6' (by simp)).upd uF (by omega) (by simp)) (hC7.upd uF (Nat.le_refl _) (by simp))
      rw [htlL] at cCh
      have cIn := fun (W : World) (u : Upd [] w7 W) => ints_same A4 A8 c4 c8 L W fq w7.heap.size (by rw [hLl]; omega) ((hI6.out.upd hu7 hz6' (by simp)).upd u (by omega) (by simp)) (hI7.upd u (Nat.le_refl _) (by simp))
      rw [hLl] at cIn
      have u07 := hide (u06.out.trans hu7)
      have hbF := (hb6.out.upd hu7 (by simp)).alloc (.cells #[.int .u8 (f0 : Nat), .int .u8 (f1 : Nat), .int .u8 (f2 : Nat), .int .u8 (f3 : Nat)] 22)
      have r0 := hbF.cell 0
      have r1 := hbF.cell 1
      have r2 := hbF.cell 2
      have r3 := hbF.cell 3
      simp at r0 r1 r2 r3
      have hN := fun W => arr4_same (f0 : Nat) (f1 : Nat) (f2 : Nat) (f3 : Nat) W
      have cRd := fun (W : World) (u : Upd [] w7 W) => readFile_any W ae au ar ad al ap ah (hE1.out.at_ (u07.out.trans u))
      replace cCh := hide cCh
      replace cIn := hide cIn
      replace cRd := hide cRd
      replace uF := hide uF
      clear hC7 hk7 ho7 hI7 hu7 hbF cR2 hI6 hC6 hb6 hs6 u06 hk6' hs3 hs3A hC3 hI3 hbA hRfA hRmA uA uA6 u03 u23 cRf
      go_wp2_with fail
      (with_reducible refine (cCh.out).mono ?_)
      rintro e w9 ⟨rfl, n9, hw9⟩
      have u9 : Upd [] w7 w9 := by rw [← hw9]; exact uF.out.drewN n9
      clear hw9 cCh
      have cI9 := hide (cIn.out w9 u9)
      replace u9 := hide u9
      go_wp2_with fail
      (with_reducible refine (cI9.out).mono ?_)
      rintro e w10 ⟨rfl, n10, hw10⟩
      have u10 : Upd [] w7 w10 := by rw [← hw10]; exact u9.out.drewN n10
      clear hw10 cI9
      have cR10 := hide (cRd.out w10 u10)
      replace u10 := hide u10
      go_wp2_with fail
      (with_reducible refine (cR10.out).mono ?_)
      rintro e w11 ⟨rfl, hu11⟩
      have u11 := hide (u0.out.trans (u07.out.trans (u10.out.trans hu11)))
      clear hu11 cR10
      go_wp2_with fail
      go_ret
      exact ⟨rfl, u11.out⟩
    | succ k =>
      have hjI : (j : Int) ≤ (m : Int) := by omega
      have hjI2 : ¬ (m : Int) < (j : Int) := by omega
      have hss := steps_succ ids D (fun _ => 1048576) j
      have hsz := hu.size
      replace hs := hide hs
      replace hu := hide hu
      replace hss := hide hss
      go_wp2_with (first
        | (refine wpList_pushK rfl (.tmp 60) (.tmp 63) 33 rfl w2.heap.size 35 (.agg #[.int .i64 0, .int .i64 0]) 2 16 Tryd.underlying33 info_step rfl (by decide) (.slice As (2 * j) ks) (2 * j) 2 _ rfl hs.out #[.int .i64 0, .int .i64 0, .int .i64 1, .int .i64 1048576] rfl (by simp [Value.oneCell']) rfl (by simp only [maxLen]; omega) (by omega) hsz ?_
           intro v5 w5 hs5 hg5
           have u5 := hide (upd_own hu.out hs.out (Nat.le_refl _) hg5)
           obtain ⟨As5, ks5, rfl⟩ := own_shape hs5
           replace hs5 := hide hs5)
        | fail)
      go_roundg k
      case measure => omega
      case rel =>
        refine ⟨j + 1, by omega, by go_num, ?_, u5.out⟩
        rw [hss.out, stepC_append, show 2 * (j + 1) = 2 * j + 2 from by omega]
        simpa [stepC] using hs5.out
end Go.Proofs.YthkpoidnhgcjhaaDoor

/- 'FnRiffWritten': the walk of the law. -/
import Derived.Test.YthkpoidnhgcjhaaDoorRfLawP
namespace Go.Proofs.YthkpoidnhgcjhaaDoor
set_option linter.unusedSimpArgs false
set_option linter.unusedVariables false
open Go.RowKit Plain

set_option maxRecDepth 100000 in
set_option maxHeartbeats 16000000 in
theorem written_law (f0 f1 f2 f3 : Nat) (Ai Ad Ac : Option Addr) (ni ci cd cc : Nat) (ids : List Nat) (D : List (List Nat)) (cl : List Int) (ae au ar ad al ap ah : Addr) (w : World)
    (hf : ∀ x ∈ [f0, f1, f2, f3], x ≤ 255) (hi : Rd .u8 w w.heap.size Ai (ofNr ids)) (hil : ids.length = ni * 4) (hib : ∀ x ∈ ids, x ≤ 255) (hniI : (ni : Int) ≤ 9223372036854775807)
    (hd : RdR w w.heap.size Ad D) (hdl : (D.length : Int) ≤ 9223372036854775807) (hdll : ∀ l ∈ D, (l.length : Int) ≤ 9223372036854775807) (hdb : ∀ d ∈ D, ∀ x ∈ d, x ≤ 255)
    (hc : Rd .i64 w w.heap.size Ac cl) (hclI : (cl.length : Int) ≤ 9223372036854775807) (hcw : ∀ x ∈ cl, -9223372036854775808 ≤ x ∧ x ≤ 9223372036854775807) (hE : Errs w w.heap.size ae au ar ad al ap ah) :
    Calls Tryd.prog 6 #[.agg #[.int .u8 (f0 : Nat), .int .u8 (f1 : Nat), .int .u8 (f2 : Nat), .int .u8 (f3 : Nat)], .slice Ai ni ci, .slice Ad D.length cd, .slice Ac cl.length cc] w fun e w' => e = .returned (.bool true) ∧ Upd [] w w' := by
  obtain ⟨F4, hF4⟩ : ∃ F4 : Array Value, F4 = #[.int .u8 (f0 : Nat), .int .u8 (f1 : Nat), .int .u8 (f2 : Nat), .int .u8 (f3 : Nat)] := ⟨_, rfl⟩
  have u0 := (Upd.refl [] w).alloc (.cells #[.int .u8 (f0 : Nat), .int .u8 (f1 : Nat), .int .u8 (f2 : Nat), .int .u8 (f3 : Nat)] 22)
  have hb0 := Blk.new w 22 #[.int .u8 (f0 : Nat), .int .u8 (f1 : Nat), .int .u8 (f2 : Nat), .int .u8 (f3 : Nat)]
  have hz0 : w.heap.size ≤ (w.alloc (.cells #[.int .u8 (f0 : Nat), .int .u8 (f1 : Nat), .int .u8 (f2 : Nat), .int .u8 (f3 : Nat)] 22)).heap.size := by simp
  clear hF4
  by_cases h1 : (2147483647 : Int) < (ni : Int)
  · clear hi hd hc hE hb0
    replace u0 := hide u0
    go_enter Tryd.func6, Tryd.ntmps6
    go_wp2
    go_ret
    exact ⟨rfl, u0.out⟩
  have hni' : ¬ (2147483647 : Int) < (ni : Int) := h1
  clear h1
  have cF := fits_any Ad cd w.heap.size D _ (hd.upd u0 (Nat.le_refl _) (by simp)) hdl hdll
  by_cases hft0 : fits2 D = false
  · rw [hft0] at cF
    replace cF := hide cF
    clear hi hd hc hE hb0
    replace u0 := hide u0
    go_enter Tryd.func6, Tryd.ntmps6
    go_wp2_with (first | (go_at_call 7; (with_reducible refine (cF.out).mono ?_); rintro e w' ⟨rfl, rfl⟩) | fail)
    go_ret
    exact ⟨rfl, u0.out⟩
  have hft : fits2 D = true := by simpa using hft0
  rw [hft] at cF
  have hft2 := of_decide_eq_true hft
  obtain ⟨hdl2, hdll2⟩ := hft2
  replace hft := hide hft
  by_cases h1 : (2147483647 : Int) < (cl.length : Int)
  · replace cF := hide cF
    clear hi hd hc hE hb0
    replace u0 := hide u0
    replace hdll2 := hide hdll2
    replace hdll := hide hdll
    go_enter Tryd.func6, Tryd.ntmps6
    go_wp2_with (first | (go_at_call 7; (with_reducible refine (cF.out).mono ?_); rintro e w' ⟨rfl, rfl⟩) | fail)
    go_ret
    exact ⟨rfl, u0.out⟩
  have hcl' : ¬ (2147483647 : Int) < (cl.length : Int) := h1
  clear h1 hft0
  have cS := sum_any Ad cd w.heap.size D _ (hd.upd u0 (Nat.le_refl _) (by simp)) hdl2 hdll2
  have hi1 := hi.upd u0 (Nat.le_refl _) (by simp)
  have hd1 := hd.upd u0 (Nat.le_refl _) (by simp)
  have hc1 := hc.upd u0 (Nat.le_refl _) (by simp)
  have hE1 := hE.at_ u0
  clear hi hd hc hE
  generalize hw0 : w.alloc (.cells #[.int .u8 (f0 : Nat), .int .u8 (f1 : Nat), .int .u8 (f2 : Nat), .int .u8 (f3 : Nat)] 22) = w0 at *
  have cR := readFile_any w0 ae au ar ad al ap ah hE1
  replace hw0 := hide hw0
  replace cF := hide cF
  replace cS := hide cS
  replace cR := hide cR
  replace u0 := hide u0
  replace hb0 := hide hb0
  replace hi1 := hide hi1
  replace hd1 := hide hd1
  replace hc1 := hide hc1
  replace hE1 := hide hE1
  replace hdll := hide hdll
  replace hdll2 := hide hdll2
  replace hdb := hide hdb
  replace hib := hide hib
  replace hf := hide hf
  replace hcw := hide hcw
  replace hil := hide hil
  go_enter Tryd.func6, Tryd.ntmps6
  go_upto_region 3 with (first | (go_at_call 7; rw [hw0.out]; (with_reducible refine (cF.out).mono ?_); rintro e w' ⟨rfl, rfl⟩) | fail)
  go_wp2_with fail
  (with_reducible refine (cS.out).mono ?_)
  rintro e w' ⟨n, rfl, hn, _, rfl⟩
  replace hn := hide hn
  by_cases g1 : (1048576 : Int) < n
  · go_wp2_with (first | (go_at_call 9; (with_reducible refine (cR.out).mono ?_); rintro e w' ⟨rfl, hu⟩) | fail)
    go_ret
    exact ⟨rfl, u0.out.trans hu⟩
  by_cases g2 : (4096 : Int) < (ni : Int)
  · go_wp2_with (first | (go_at_call 9; (with_reducible refine (cR.out).mono ?_); rintro e w' ⟨rfl, hu⟩) | fail)
    go_ret
    exact ⟨rfl, u0.out.trans hu⟩
  by_cases g3 : (1048576 : Int) < (cl.length : Int)
  · go_wp2_with (first | (go_at_call 9; (with_reducible refine (cR.out).mono ?_); rintro e w' ⟨rfl, hu⟩) | fail)
    go_ret
    exact ⟨rfl, u0.out.trans hu⟩
  have hnd := hn.out (by omega)
  obtain ⟨m, hm⟩ : ∃ m, m = min ni D.length := ⟨_, rfl⟩
  have cW := hide (written_any m Ai Ad ni ci cd ids D w0 (hi1.out.more hz0) hil.out (fun h => by obtain ⟨b, off, Af, Cf, h1, h2, h3⟩ := hd1.out h; exact ⟨b, off, Af, Cf, h1, by omega, fun j hj => ⟨(h3 j hj).1, (h3 j hj).2.more hz0⟩⟩) (by omega) hnd hm)
  have hmI : (m : Int) ≤ 4096 := by omega
  have hbl := body_len ids D m (by omega)
  have htm := tot_mono D m
  have hbI : ((bodyP ids D m).length : Int) ≤ 2000000 := by omega
  have hlen : ∀ j, j < m → ((D.getD j []).length : Int) ≤ 1048576 := fun j hj => by
    have h1 := tot_take D j (by omega)
    have h2 := tot_mono D (j + 1)
    omega
  have hbb := body_by hib.out hdb.out m
  replace hbb := hide hbb
  replace hlen := hide hlen
  replace hm := hide hm
  clear hbl htm hnd hn cS cF hi1 hd1 hdll hdll2 hdb hib
  go_upto_region 8 with (first | (go_at_call 10; (with_reducible refine (cW.out).mono ?_); rintro e w1 ⟨v1, A1, k1, rfl, hk1, hC1, hu1⟩; obtain ⟨Ab, kb, rfl⟩ := own_shape hk1; replace hk1 := hide hk1; replace hC1 := hide hC1; replace hu1 := hide hu1) | fail)
  have hsz1 := hu1.out.size
  have uK := (Upd.refl [] w1).alloc (.cells #[.int .i64 0] 3)
  have hk0 := own_box (B := w1.heap.size) (Blk.new w1 3 #[.int .i64 0]) (Nat.le_refl _)
  replace uK := hide uK
  replace hk0 := hide hk0
  go_wp2_with fail
  go_loopg [11, 12, 13] m (fun k v11 v12 v13 wr => ∃ j : Nat, k + j = m ∧ v13 = .int .i64 (j : Nat) ∧ wr.ownsRow w1.heap.size 35 2 v11 (2 * j) (stepC (stepsP (csP ids D (fun j => (D.getD j []).length + 1) j))) ∧ wr.ownsRow w1.heap.size 3 1 v12 (2 * j + 1) ((List.replicate (2 * j + 1) (0 : Int)).map (Value.int .i64)) ∧ Upd [] w1 wr)
  case atStart => exact ⟨0, by simp, rfl, ⟨rfl, .inl ⟨rfl, rfl⟩⟩, hk0.out, uK.out⟩
  case round =>
    obtain ⟨j, hj, rfl, hs, hk, hu⟩ := hrel
    obtain ⟨As, ks, rfl⟩ := own_shape hs
    obtain ⟨Ak, kk, rfl⟩ := own_shape hk
    cases gk with
    | zero =>
      have hj' : j = m := by omega
      subst hj'
      have hsz := hu.size
      replace hs := hide hs
      replace hk := hide hk
      replace hu := hide hu
      go_upto_region 15 with (first
        | (refine wpList_pushK rfl (.tmp 71) (.tmp 73) 33 rfl w1.heap.size 35 (.agg #[.int .i64 0, .int .i64 0]) 2 16 Tryd.underlying33 info_step rfl (by decide) (.slice As (2 * j) ks) (2 * j) 1 _ rfl hs.out #[.int .i64 0, .int .i64 0] rfl (by simp [Value.oneCell']) rfl (by simp only [maxLen]; omega) (by omega) hsz ?_
           intro v5 w5 hs5 hg5
           have u5 := hide (upd_own hu.out hs.out (Nat.le_refl _) hg5)
           have hk5 := hide ((grown_typed hs.out hg5).own hk.out (by decide))
           have hsz5 := u5.out.size
           obtain ⟨As5, ks5, rfl⟩ := own_shape hs5
           replace hs5 := hide hs5)
        | (refine wpList_pushK rfl (.tmp 75) (.tmp 76) 36 rfl w1.heap.size 3 (.int .i64 0) 1 8 Tryd.underlying36 info_intr rfl (by decide) (.slice Ak (2 * j + 1) kk) (2 * j + 1) 1 _ rfl hk5.out #[.int .i64 1] rfl (by simp [Value.oneCell']) rfl (by simp only [maxLen]; omega) (by omega) hsz5 ?_
           intro v6 w6 hk6 hg6
           have u6 := hide (upd_own u5.out hk5.out (Nat.le_refl _) hg6)
           have hs6 := hide ((grown_typed hk5.out hg6).own hs5.out (by decide))
           obtain ⟨Ak6, kk6, rfl⟩ := own_shape hk6
           replace hk6 := hide hk6)
        | fail)
      clear hg6 hs5 hk5 u5 hs hk
      have u06 := hu1.out.trans u6.out
      have hbq := hb0.out.upd u06 (by simp)
      have p0 := hbq.cell 0
      have p1 := hbq.cell 1
      have p2 := hbq.cell 2
      have p3 := hbq.cell 3
      simp at p0 p1 p2 p3
      have hbd6 := u6.out.own hk1.out (by simp)
      have hz6 := u6.out.size
      have cFi := hide (file_any f0 f1 f2 f3 Ab kb w6.heap.size (bodyP ids D j) w6 (Rd.ofOwn hbd6) (Nat.le_refl _) (by omega))
      have hC6 := hide (hC1.out.upd u6.out (Nat.le_refl _) (by simp))
      have hfl : (fileP [f0, f1, f2, f3] (bodyP ids D j)).length = 8 + (4 + (bodyP ids D j).length) + (padP (decide (([f0, f1, f2, f3] ++ bodyP ids D j).length % 2 = 1))).length := by
        unfold fileP
        rw [chunk_len _ _ rfl]
        simp
        omega
      have hpp := padP_len (decide (([f0, f1, f2, f3] ++ bodyP ids D j).length % 2 = 1))
      have hflI : ((fileP [f0, f1, f2, f3] (bodyP ids D j)).length : Int) ≤ 3000000 := by split at hpp <;> omega
      clear hfl hpp hbq hbd6 hC1
      replace u06 := hide u06
      go_wp2_with fail
      (with_reducible refine (cFi.out).mono ?_)
      rintro e w7 ⟨v7, rfl, hf7, hu7⟩
      obtain ⟨Af7, kf7, rfl⟩ := own_shape hf7
      have u07 := hide (u06.out.trans hu7)
      have hs7 := hu7.own hs6.out (by simp)
      have hk7 := hide (hu7.own hk6.out (by simp))
      have hC7 := hide (hC6.out.upd hu7 hz6 (by simp))
      have hz7 := hu7.size
      have hst : stepC (stepsP (csP ids D (fun j => (D.getD j []).length + 1) j)) ++ (#[.int .i64 0, .int .i64 0] : Array Value).toList = stepC (stepsP (csP ids D (fun j => (D.getD j []).length + 1) j) ++ [(0, 0)]) := by rw [stepC_append]; rfl
      have hsl : 2 * j + 1 = (stepsP (csP ids D (fun j => (D.getD j []).length + 1) j) ++ [((0 : Int), (0 : Int))]).length := by rw [List.length_append, steps_len]; rfl
      rw [hst] at hs7
      have hSl : (((stepsP (csP ids D (fun j => (D.getD j []).length + 1) j) ++ [((0 : Int), (0 : Int))]).length : Nat) : Int) ≤ 1048576 := by rw [← hsl]; omega
      have hRi := riff_written (form := [f0, f1, f2, f3]) (more := []) (cs := csP ids D (fun j => (D.getD j []).length + 1) j) rfl (by rw [cs_enc]; omega) (cs_ok ids D _ j (fun i => by omega))
      rw [List.append_nil, cs_enc, told_want, cs_len] at hRi
      rw [hsl] at hs7
      have cRf := riff_any w7 Af7 Ac As5 kf7 cc ks5 (fileP [f0, f1, f2, f3] (bodyP ids D j)) cl _ ae au ar ad al ap ah ((Rd.ofOwn hf7)) (own_cap hf7) (by omega) (file_by hf.out hbb.out) ((hc1.out.upd u07.out hz0 (by simp)).more (by have := u07.out.size; omega)) (by omega) hcw.out (RdS.ofOwn hs7) hSl (fun x hx => by
        rcases List.mem_append.1 hx with h | h
        · exact steps_by ids D (fun j => (D.getD j []).length + 1) j (fun i hi => by have := hlen.out i hi; omega) x h
        · simp only [List.mem_singleton] at h
          subst h
          decide) (hE1.out.at_ u07.out)
      rw [hRi, ← hsl] at cRf
      replace cRf := hide cRf
      obtain ⟨L, hL⟩ : ∃ L : List Int, L = 0 :: (List.replicate (2 * j) 0 ++ [1]) := ⟨_, rfl⟩
      have hLl : L.length = 2 * j + 1 + 1 := by rw [hL]; simp
      have hLk : (List.replicate (2 * j + 1) (0 : Int)).map (Value.int .i64) ++ (#[.int .i64 1] : Array Value).toList = L.map (Value.int .i64) := by rw [hL]; simp [List.replicate_succ]
      have hk7' := hk7.out
      rw [hLk] at hk7'
      have hkR := hide (Rd.ofOwn hk7')
      have hdL : ∀ x ∈ wantP ids D j, (x.data.length : Int) ≤ 2147483647 := fun x hx => by
        obtain ⟨i, hi, rfl⟩ := List.mem_map.1 hx
        have := hlen.out i (List.mem_range.1 hi)
        simp only
        omega
      rw [← hL] at cRf
      replace hdL := hide hdL
      clear hf7 hs7 hk7 hk7' hst hsl hSl hRi hu7 hLk
      replace hL := hide hL
      go_wp2_with fail
      (with_reducible refine (cRf.out).mono ?_)
      rintro e w8 ⟨ov, kv, rfl, hu8, ho8, hk8⟩
      obtain ⟨A8, c8, rfl, hR8⟩ := ho8.reads
      obtain ⟨A9, c9, rfl⟩ := own_shape hk8
      have hkR8 := Rd.ofOwn hk8
      simp only [four, List.getD_cons_zero, List.getD_cons_succ, want_len, hLl]
      have uF := (Upd.refl [] w8).alloc (.cells #[.int .u8 (f0 : Nat), .int .u8 (f1 : Nat), .int .u8 (f2 : Nat), .int .u8 (f3 : Nat)] 22)
      have hz8 := hu8.size
      have cCh := chunks_same A8 A1 c8 k1 w8.heap.size w1.heap.size (wantP ids D j) _ (by rw [want_len]; omega) hdL.out (hR8.upd uF (Nat.le_refl _) (by simp)) ((hC7.out.upd hu8 (by omega) (by simp)).upd uF (by omega) (by simp))
      rw [want_len] at cCh
      have cIn := fun (W : World) (u : Upd [] w8 W) => ints_same A9 Ak6 c9 kk6 L W w8.heap.size w7.heap.size (by rw [hLl]; omega) (hkR8.upd u (Nat.le_refl _) (by simp)) ((hkR.out.upd hu8 (Nat.le_refl _) (by simp)).upd u hz8 (by simp))
      rw [hLl] at cIn
      have u08 := hide (u07.out.trans hu8)
      have hbF := (hb0.out.upd u08.out (by simp)).alloc (.cells #[.int .u8 (f0 : Nat), .int .u8 (f1 : Nat), .int .u8 (f2 : Nat), .int .u8 (f3 : Nat)] 22)
      have r0 := hbF.cell 0
      have r1 := hbF.cell 1
      have r2 := hbF.cell 2
      have r3 := hbF.cell 3
      simp at r0 r1 r2 r3
      have hN := fun W => arr4_same (f0 : Nat) (f1 : Nat) (f2 : Nat) (f3 : Nat) W
      have cRd := fun (W : World) (u : Upd [] w8 W) => readFile_any W ae au ar ad al ap ah (hE1.out.at_ (u08.out.trans u))
      replace cCh := hide cCh
      replace cIn := hide cIn
      replace cRd := hide cRd
      replace uF := hide uF
      clear hR8 hk8 ho8 hkR8 hu8 hbF cRf hkR hC7 hC6 u06 hs6 hk6 cFi p0 p1 p2 p3
      go_wp2_with fail
      (with_reducible refine (cCh.out).mono ?_)
      rintro e w9 ⟨rfl, n9, hw9⟩
      have u9 : Upd [] w8 w9 := by rw [← hw9]; exact uF.out.drewN n9
      clear hw9 cCh
      have cI9 := hide (cIn.out w9 u9)
      replace u9 := hide u9
      go_wp2_with fail
      (with_reducible refine (cI9.out).mono ?_)
      rintro e w10 ⟨rfl, n10, hw10⟩
      have u10 : Upd [] w8 w10 := by rw [← hw10]; exact u9.out.drewN n10
      clear hw10 cI9
      have cR10 := hide (cRd.out w10 u10)
      replace u10 := hide u10
      go_wp2_with fail
      (with_reducible refine (cR10.out).mono ?_)
      rintro e w11 ⟨rfl, hu11⟩
      have u11 := hide (u0.out.trans (u08.out.trans (u10.out.trans hu11)))
      clear hu11 cR10
      go_wp2_with fail
      go_ret
      exact ⟨rfl, u11.out⟩
    | succ k =>
      have hjm : j < m := by omega
      have hjI : (j : Int) < (m : Int) := by omega
      obtain ⟨bc, oc, Af, Cf, rfl, hbc, hcc⟩ := hC1.out (by intro e; have h9 := congrArg List.length e; rw [want_len] at h9; simp at h9; omega)
      obtain ⟨hq, _⟩ := hcc j (by rw [want_len]; exact hjm)
      have q4 := hq 4 (by omega)
      have hw : (wantP ids D m).getD j default = ⟨idAt ids j, (D.getD j []).length, D.getD j [], 0⟩ := by simp [wantP, hjm]
      rw [hw] at q4
      replace q4 := q4.trans (show _ = some (Value.int .i64 ((D.getD j []).length : Nat)) from rfl)
      replace q4 := (hu.cell (p := ⟨bc, oc + j * 7 + 4, none⟩) hbc (by simp)).trans q4
      have hjl := hlen.out j hjm
      have hss := steps_succ ids D (fun j => (D.getD j []).length + 1) j
      have hsz := hu.size
      clear hq hcc hw
      replace hs := hide hs
      replace hk := hide hk
      replace hu := hide hu
      replace hss := hide hss
      generalize hgl : (D.getD j []).length = lj at *
      have hwr : IntKind.i64.wrap ((lj : Int) + 1) = (lj : Int) + 1 := IntWalk.i64_in _ (by omega)
      go_wp2_with (first
        | (refine wpList_pushK rfl (.tmp 57) (.tmp 66) 33 rfl w1.heap.size 35 (.agg #[.int .i64 0, .int .i64 0]) 2 16 Tryd.underlying33 info_step rfl (by decide) (.slice As (2 * j) ks) (2 * j) 2 _ rfl hs.out #[.int .i64 0, .int .i64 0, .int .i64 1, .int .i64 ((lj : Int) + 1)] rfl (by simp [Value.oneCell']) rfl (by simp only [maxLen]; omega) (by omega) hsz ?_
           intro v5 w5 hs5 hg5
           have u5 := hide (upd_own hu.out hs.out (Nat.le_refl _) hg5)
           have hk5 := hide ((grown_typed hs.out hg5).own hk.out (by decide))
           have hsz5 := u5.out.size
           obtain ⟨As5, ks5, rfl⟩ := own_shape hs5
           replace hs5 := hide hs5)
        | (refine wpList_pushK rfl (.tmp 68) (.tmp 69) 36 rfl w1.heap.size 3 (.int .i64 0) 1 8 Tryd.underlying36 info_intr rfl (by decide) (.slice Ak (2 * j + 1) kk) (2 * j + 1) 2 _ rfl hk5.out #[.int .i64 0, .int .i64 0] rfl (by simp [Value.oneCell']) rfl (by simp only [maxLen]; omega) (by omega) hsz5 ?_
           intro v6 w6 hk6 hg6
           have u6 := hide (upd_own u5.out hk5.out (Nat.le_refl _) hg6)
           have hs6 := hide ((grown_typed hk5.out hg6).own hs5.out (by decide))
           obtain ⟨Ak6, kk6, rfl⟩ := own_shape hk6
           replace hk6 := hide hk6)
        | fail)
      clear hg6 hs5 hk5 u5
      go_roundg k
      case measure => omega
      case rel =>
        refine ⟨j + 1, by omega, by go_num, ?_, ?_, u6.out⟩
        · rw [hss.out, stepC_append, show 2 * (j + 1) = 2 * j + 2 from by omega]
          simpa [stepC, hgl] using hs6.out
        · rw [show 2 * (j + 1) + 1 = 2 * j + 1 + 2 from by omega, show List.replicate (2 * j + 1 + 2) (0 : Int) = List.replicate (2 * j + 1) 0 ++ [0, 0] from List.replicate_append_replicate.symm, List.map_append]
          exact hk6.out
end Go.Proofs.YthkpoidnhgcjhaaDoor

/- 'FnRiffLists': the walk of the law. -/
import Derived.Test.YthkpoidnhgcjhaaDoorRfLawP
import Derived.Test.YthkpoidnhgcjhaaDoorRfPlainL
namespace Go.Proofs.YthkpoidnhgcjhaaDoor
set_option linter.unusedSimpArgs false
set_option linter.unusedVariables false
open Go.RowKit Plain

theorem kl_at (n k : Nat) : ([0, 0, 0] ++ (List.replicate n (0 : Int) ++ [1, 0, 0, 1])).getD (n + 3 + k) 0 = ([1, 0, 0, 1] : List Int).getD k 0 := by
  have e1 : ([0, 0, 0] ++ (List.replicate n (0 : Int) ++ [1, 0, 0, 1]))[n + 3 + k]? = ([1, 0, 0, 1] : List Int)[k]? := by
    rw [List.getElem?_append_right (by simp; omega), List.getElem?_append_right (by simp; omega)]
    congr 1
    simp
    omega
  rw [List.getD_eq_getElem?_getD, List.getD_eq_getElem?_getD, e1]
/-- What lies between the first chunk and the last one. -/
theorem RdC.mid {w : World} {B : Nat} {b off : Nat} {c d : Ck} {l : List Ck} {Af : Nat → Option Addr} {Cf : Nat → Nat} (hb : b < B)
    (h : ∀ j, j < (c :: (l ++ [d])).length → (∀ i, i < 7 → w.cell? ⟨b, off + j * 7 + i, none⟩ = (ckC ((c :: (l ++ [d])).getD j default) (.slice (Af j) ((c :: (l ++ [d])).getD j default).data.length (Cf j)))[i]?) ∧ Rd .u8 w B (Af j) (ofNr ((c :: (l ++ [d])).getD j default).data)) :
    RdC w B (some ⟨b, off + 7, none⟩) l := fun _ => ⟨b, off + 7, fun j => Af (j + 1), fun j => Cf (j + 1), rfl, hb, fun j hj => by
  have e : (c :: (l ++ [d])).getD (j + 1) default = l.getD j default := by
    rw [List.getD_cons_succ, List.getD_eq_getElem?_getD, List.getD_eq_getElem?_getD, List.getElem?_append_left hj]
  have h1 := h (j + 1) (by simp; omega)
  rw [e] at h1
  refine ⟨fun i hi => ?_, h1.2⟩
  rw [← h1.1 i hi, show off + 7 + j * 7 + i = off + (j + 1) * 7 + i from by omega]⟩

set_option maxRecDepth 100000 in
set_option maxHeartbeats 16000000 in
theorem lists_law (f0 f1 f2 f3 : Nat) (Ai Ad Ac : Option Addr) (ni ci cd cc : Nat) (ids : List Nat) (D : List (List Nat)) (cl : List Int) (ae au ar ad al ap ah : Addr) (w : World)
    (hf : ∀ x ∈ [f0, f1, f2, f3], x ≤ 255) (hi : Rd .u8 w w.heap.size Ai (ofNr ids)) (hil : ids.length = ni * 4) (hib : ∀ x ∈ ids, x ≤ 255) (hniI : (ni : Int) ≤ 9223372036854775807)
    (hd : RdR w w.heap.size Ad D) (hdl : (D.length : Int) ≤ 9223372036854775807) (hdll : ∀ l ∈ D, (l.length : Int) ≤ 9223372036854775807) (hdb : ∀ d ∈ D, ∀ x ∈ d, x ≤ 255)
    (hc : Rd .i64 w w.heap.size Ac cl) (hclI : (cl.length : Int) ≤ 9223372036854775807) (hcw : ∀ x ∈ cl, -9223372036854775808 ≤ x ∧ x ≤ 9223372036854775807) (hE : Errs w w.heap.size ae au ar ad al ap ah) :
    Calls Tryd.prog 4 #[.agg #[.int .u8 (f0 : Nat), .int .u8 (f1 : Nat), .int .u8 (f2 : Nat), .int .u8 (f3 : Nat)], .slice Ai ni ci, .slice Ad D.length cd, .slice Ac cl.length cc] w fun e w' => e = .returned (.bool true) ∧ Upd [] w w' := by
  obtain ⟨F4, hF4⟩ : ∃ F4 : Array Value, F4 = #[.int .u8 (f0 : Nat), .int .u8 (f1 : Nat), .int .u8 (f2 : Nat), .int .u8 (f3 : Nat)] := ⟨_, rfl⟩
  have u0 := (Upd.refl [] w).alloc (.cells #[.int .u8 (f0 : Nat), .int .u8 (f1 : Nat), .int .u8 (f2 : Nat), .int .u8 (f3 : Nat)] 22)
  have hb0 := Blk.new w 22 #[.int .u8 (f0 : Nat), .int .u8 (f1 : Nat), .int .u8 (f2 : Nat), .int .u8 (f3 : Nat)]
  have hz0 : w.heap.size ≤ (w.alloc (.cells #[.int .u8 (f0 : Nat), .int .u8 (f1 : Nat), .int .u8 (f2 : Nat), .int .u8 (f3 : Nat)] 22)).heap.size := by simp
  clear hF4
  by_cases h1 : (2147483647 : Int) < (ni : Int)
  · clear hi hd hc hE hb0
    replace u0 := hide u0
    go_enter Tryd.func4, Tryd.ntmps4
    go_wp2
    go_ret
    exact ⟨rfl, u0.out⟩
  have hni' : ¬ (2147483647 : Int) < (ni : Int) := h1
  clear h1
  have cF := fits_any Ad cd w.heap.size D _ (hd.upd u0 (Nat.le_refl _) (by simp)) hdl hdll
  by_cases hft0 : fits2 D = false
  · rw [hft0] at cF
    replace cF := hide cF
    clear hi hd hc hE hb0
    replace u0 := hide u0
    go_enter Tryd.func4, Tryd.ntmps4
    go_wp2_with (first | (go_at_call 7; (with_reducible refine (cF.out).mono ?_); rintro e w' ⟨rfl, rfl⟩) | fail)
    go_ret
    exact ⟨rfl, u0.out⟩
  have hft : fits2 D = true := by simpa using hft0
  rw [hft] at cF
  have hft2 := of_decide_eq_true hft
  obtain ⟨hdl2, hdll2⟩ := hft2
  replace hft := hide hft
  by_cases h1 : (2147483647 : Int) < (cl.length : Int)
  · replace cF := hide cF
    clear hi hd hc hE hb0
    replace u0 := hide u0
    replace hdll2 := hide hdll2
    replace hdll := hide hdll
    go_enter Tryd.func4, Tryd.ntmps4
    go_wp2_with (first | (go_at_call 7; (with_reducible refine (cF.out).mono ?_); rintro e w' ⟨rfl, rfl⟩) | fail)
    go_ret
    exact ⟨rfl, u0.out⟩
  have hcl' : ¬ (2147483647 : Int) < (cl.length : Int) := h1
  clear h1 hft0
  have cS := sum_any Ad cd w.heap.size D _ (hd.upd u0 (Nat.le_refl _) (by simp)) hdl2 hdll2
  have hi1 := hi.upd u0 (Nat.le_refl _) (by simp)
  have hd1 := hd.upd u0 (Nat.le_refl _) (by simp)
  have hc1 := hc.upd u0 (Nat.le_refl _) (by simp)
  have hE1 := hE.at_ u0
  clear hi hd hc hE
  generalize hw0 : w.alloc (.cells #[.int .u8 (f0 : Nat), .int .u8 (f1 : Nat), .int .u8 (f2 : Nat), .int .u8 (f3 : Nat)] 22) = w0 at *
  have cR := readFile_any w0 ae au ar ad al ap ah hE1
  replace hw0 := hide hw0
  replace cF := hide cF
  replace cS := hide cS
  replace cR := hide cR
  replace u0 := hide u0
  replace hb0 := hide hb0
  replace hi1 := hide hi1
  replace hd1 := hide hd1
  replace hc1 := hide hc1
  replace hE1 := hide hE1
  replace hdll := hide hdll
  replace hdll2 := hide hdll2
  replace hdb := hide hdb
  replace hib := hide hib
  replace hf := hide hf
  replace hcw := hide hcw
  replace hil := hide hil
  go_enter Tryd.func4, Tryd.ntmps4
  go_upto_region 3 with (first | (go_at_call 7; rw [hw0.out]; (with_reducible refine (cF.out).mono ?_); rintro e w' ⟨rfl, rfl⟩) | fail)
  go_wp2_with fail
  (with_reducible refine (cS.out).mono ?_)
  rintro e w' ⟨n, rfl, hn, _, rfl⟩
  replace hn := hide hn
  by_cases g1 : (1048576 : Int) < n
  · go_wp2_with (first | (go_at_call 9; (with_reducible refine (cR.out).mono ?_); rintro e w' ⟨rfl, hu⟩) | fail)
    go_ret
    exact ⟨rfl, u0.out.trans hu⟩
  by_cases g2 : (4096 : Int) < (ni : Int)
  · go_wp2_with (first | (go_at_call 9; (with_reducible refine (cR.out).mono ?_); rintro e w' ⟨rfl, hu⟩) | fail)
    go_ret
    exact ⟨rfl, u0.out.trans hu⟩
  by_cases g3 : (1048576 : Int) < (cl.length : Int)
  · go_wp2_with (first | (go_at_call 9; (with_reducible refine (cR.out).mono ?_); rintro e w' ⟨rfl, hu⟩) | fail)
    go_ret
    exact ⟨rfl, u0.out.trans hu⟩
  have hnd := hn.out (by omega)
  obtain ⟨m, hm⟩ : ∃ m, m = min ni D.length := ⟨_, rfl⟩
  have cW := hide (written_any m Ai Ad ni ci cd ids D w0 (hi1.out.more hz0) hil.out (fun h => by obtain ⟨b, off, Af, Cf, h1, h2, h3⟩ := hd1.out h; exact ⟨b, off, Af, Cf, h1, by omega, fun j hj => ⟨(h3 j hj).1, (h3 j hj).2.more hz0⟩⟩) (by omega) hnd hm)
  have hmI : (m : Int) ≤ 4096 := by omega
  have hbl := body_len ids D m (by omega)
  have htm := tot_mono D m
  have hbI : ((bodyP ids D m).length : Int) ≤ 2000000 := by omega
  have hlen : ∀ j, j < m → ((D.getD j []).length : Int) ≤ 1048576 := fun j hj => by
    have h1 := tot_take D j (by omega)
    have h2 := tot_mono D (j + 1)
    omega
  have hbb := body_by hib.out hdb.out m
  replace hbb := hide hbb
  replace hlen := hide hlen
  replace hm := hide hm
  clear hbl htm hnd hn cS cF hi1 hd1 hdll hdll2 hdb hib
  obtain ⟨LC, hLC⟩ : ∃ LC, LC = chunkP [76, 73, 83, 84] ([f0, f1, f2, f3] ++ bodyP ids D m) := ⟨_, rfl⟩
  have hLCl : (LC.length : Int) ≤ 2000100 := by
    have h1 := chunk_len [76, 73, 83, 84] ([f0, f1, f2, f3] ++ bodyP ids D m) rfl
    have h2 := padP_len (decide (([f0, f1, f2, f3] ++ bodyP ids D m).length % 2 = 1))
    have h3 : ([f0, f1, f2, f3] ++ bodyP ids D m).length = 4 + (bodyP ids D m).length := by simp; omega
    rw [hLC, h1]
    split at h2 <;> omega
  have hLCb : ∀ x ∈ LC, x ≤ 255 := by rw [hLC]; exact chunk_by (by decide) (fun x hx => (List.mem_append.1 hx).elim (hf.out x) (hbb.out x))
  replace hLC := hide hLC
  replace hLCb := hide hLCb
  have hmL : (m : Int) ≤ (ni : Int) := by have := hm.out; omega
  go_upto_region 6 with (first | (go_at_call 10; (with_reducible refine (cW.out).mono ?_); rintro e w1 ⟨v1, A1, k1, rfl, hk1, hC1, hu1⟩; obtain ⟨Ab, kb, rfl⟩ := own_shape hk1; replace hk1 := hide hk1; replace hC1 := hide hC1; replace hu1 := hide hu1) | fail)
  have hsz1 := hu1.out.size
  have hbq := hb0.out.upd hu1.out (by simp)
  have hR0 : Rd .u8 w1 (w.heap.size + 1) (some ⟨w.heap.size, 0, none⟩) (ofNr [f0, f1, f2, f3]) := by
    refine Rd.ofCells (by omega) (fun j hj => ?_)
    have hj' : j < 4 := hj
    rw [Nat.zero_add, hbq.cell j]
    rcases (by omega : j = 0 ∨ j = 1 ∨ j = 2 ∨ j = 3) with rfl | rfl | rfl | rfl <;> rfl
  have hw01 : w.heap.size + 1 ≤ w1.heap.size := by have := hbq.lt; omega
  replace hR0 := hide hR0
  have hRb1 := hide (Rd.ofOwn hk1.out)
  clear hbq
  go_upto_region 7 with (first
    | (refine wpList_pushR rfl (.const (.slice none 0 0)) (.tmp 53) 25 rfl w1.heap.size _ 5 .u8 1 Tryd.underlying25 info_u8r (.slice none 0 0) 0 [] rfl ⟨rfl, .inl ⟨rfl, rfl⟩⟩ (some ⟨w.heap.size, 0, none⟩) 4 4 (ofNr [f0, f1, f2, f3]) rfl rfl hR0.out (by simp [maxLen]) (by omega) (Nat.le_refl _) ?_
       intro v2 w2 hk2 hg2
       rw [Nat.zero_add, List.nil_append] at hk2
       have u2 := (Upd.refl [] w1).grown hg2 (fun g h => by simp [Value.ownBlock] at h)
       have hRb2 := hide (hRb1.out.upd u2 (Nat.le_refl _) (by simp))
       have hz2 := u2.size
       obtain ⟨A2, c2, rfl⟩ := own_shape hk2
       replace hk2 := hide hk2
       replace u2 := hide u2)
    | (refine wpList_pushR rfl (.tmp 54) (.tmp 55) 25 rfl w1.heap.size _ 5 .u8 1 Tryd.underlying25 info_u8r _ 4 _ rfl hk2.out Ab (bodyP ids D m).length kb (ofNr (bodyP ids D m)) (ofNr_len _) rfl hRb2.out (by simp only [maxLen]; omega) (by omega) hz2 ?_
       intro v3 w3 hk3 hg3
       have u3 := hide (upd_own u2.out hk2.out (Nat.le_refl _) hg3)
       have hz3 := u3.out.size
       obtain ⟨A3, c3, rfl⟩ := own_shape hk3
       have hk3' : w3.ownsRow w1.heap.size 5 1 (.slice A3 (4 + (bodyP ids D m).length) c3) (4 + (bodyP ids D m).length) ((ofNr ([f0, f1, f2, f3] ++ bodyP ids D m)).map (Value.int .u8)) := by simpa [ofNr] using hk3
       clear hk3
       have cL0 := chunk_any 76 73 83 84 A3 c3 w3.heap.size ([f0, f1, f2, f3] ++ bodyP ids D m) w3 (Rd.ofOwn hk3') (Nat.le_refl _) (by simp; omega)
       rw [show ([f0, f1, f2, f3] ++ bodyP ids D m).length = 4 + (bodyP ids D m).length from by simp; omega] at cL0
       have cL1 : Calls Tryd.prog 15 #[.agg #[.int .u8 76, .int .u8 73, .int .u8 83, .int .u8 84], .slice A3 (4 + (bodyP ids D m).length) c3] w3 _ := cL0
       clear cL0
       replace cL1 := hide cL1)
    | ((with_reducible refine (cL1.out).mono ?_)
       rintro e w4 ⟨v4, rfl, hk4, hu4⟩
       rw [← hLC.out] at hk4
       obtain ⟨A4, c4, rfl⟩ := own_shape hk4
       have u4 := hide (u3.out.trans hu4)
       have hk4' := hide (own_down hk4 hz3)
       clear hk4 hu4)
    | fail)
  clear hk2 hk3' hRb2 hRb1 hR0 u2 u3 cL1 cW
  have u04 := hide (hu1.out.trans u4.out)
  have hz4 := u4.out.size
  have uE := (Upd.refl [] w4).alloc (.cells #[.int .u8 108, .int .u8 97, .int .u8 115, .int .u8 116] 22)
  have hbE := hide (Blk.new w4 22 #[.int .u8 108, .int .u8 97, .int .u8 115, .int .u8 116])
  have uS := ((Upd.refl [] (w4.alloc (.cells #[.int .u8 108, .int .u8 97, .int .u8 115, .int .u8 116] 22))).alloc (.cells #[.int .i64 0, .int .i64 0, .int .i64 2, .int .i64 0] 35))
  have hsB := Blk.new (w4.alloc (.cells #[.int .u8 108, .int .u8 97, .int .u8 115, .int .u8 116] 22)) 35 #[.int .i64 0, .int .i64 0, .int .i64 2, .int .i64 0]
  have hs0 : ((w4.alloc (.cells #[.int .u8 108, .int .u8 97, .int .u8 115, .int .u8 116] 22)).alloc (.cells #[.int .i64 0, .int .i64 0, .int .i64 2, .int .i64 0] 35)).ownsRow (w4.alloc (.cells #[.int .u8 108, .int .u8 97, .int .u8 115, .int .u8 116] 22)).heap.size 35 2 (.slice (some ⟨(w4.alloc (.cells #[.int .u8 108, .int .u8 97, .int .u8 115, .int .u8 116] 22)).heap.size, 0, none⟩) 2 2) 2 (stepC [(0, 0), (2, 0)]) := ⟨rfl, .inr ⟨_, 2, _, rfl, Nat.le_refl _, hsB, Nat.le_refl _, by simp [maxLen], rfl, rfl⟩⟩
  have hzE : (w4.alloc (.cells #[.int .u8 108, .int .u8 97, .int .u8 115, .int .u8 116] 22)).heap.size = w4.heap.size + 1 := by simp
  replace hs0 := hide hs0
  replace uS := hide uS
  replace uE := hide uE
  clear hsB
  go_upto_region 9 with fail
  generalize hWE : w4.alloc (.cells #[.int .u8 108, .int .u8 97, .int .u8 115, .int .u8 116] 22) = wE at *
  replace hWE := hide hWE
  go_wp2_with fail
  go_loopg [13, 14] m (fun k v13 v14 wr => ∃ j : Nat, k + j = m ∧ v14 = .int .i64 (j : Nat) ∧ wr.ownsRow wE.heap.size 35 2 v13 (2 * j + 2) (stepC ([(0, 0), (2, 0)] ++ stepsP (csP ids D (fun j => (D.getD j []).length + 1) j))) ∧ Upd [] wE wr)
  case atStart => exact ⟨0, by simp, rfl, by have h := hs0.out; simp only [hzE] at h ⊢; exact h, uS.out⟩
  case round =>
    obtain ⟨j, hj, rfl, hs, hu⟩ := hrel
    obtain ⟨As, ks, rfl⟩ := own_shape hs
    cases gk with
    | zero =>
      have hj' : j = m := by omega
      subst hj'
      have hsz := hu.size
      replace hs := hide hs
      replace hu := hide hu
      obtain ⟨SL, hSL⟩ : ∃ SL, SL = listSteps (csP ids D (fun j => (D.getD j []).length + 1) j) := ⟨_, rfl⟩
      have hss0 : stepC ([(0, 0), (2, 0)] ++ stepsP (csP ids D (fun j => (D.getD j []).length + 1) j)) ++ (#[.int .i64 0, .int .i64 0, .int .i64 3, .int .i64 0, .int .i64 0, .int .i64 0, .int .i64 0, .int .i64 0] : Array Value).toList = stepC SL := by
        rw [hSL, listSteps, ← List.append_assoc, stepC_append ([(0, 0), (2, 0)] ++ stepsP _)]
        rfl
      have hsl : 2 * j + 2 + 4 = SL.length := by
        simp only [hSL, listSteps, List.length_append, steps_len, List.length_cons, List.length_nil]
        omega
      have hSLI : (SL.length : Int) ≤ 2 * (j : Int) + 6 := by omega
      have hSLJ : 2 * (j : Int) + 6 ≤ (SL.length : Int) := by omega
      replace hss0 := hide hss0
      replace hsl := hide hsl
      replace hSL := hide hSL
      go_upto_region 14 with (first
        | (refine wpList_pushK rfl (.tmp 79) (.tmp 84) 33 rfl wE.heap.size 35 (.agg #[.int .i64 0, .int .i64 0]) 2 16 Tryd.underlying33 info_step rfl (by decide) (.slice As (2 * j + 2) ks) (2 * j + 2) 4 _ rfl hs.out #[.int .i64 0, .int .i64 0, .int .i64 3, .int .i64 0, .int .i64 0, .int .i64 0, .int .i64 0, .int .i64 0] rfl (by simp [Value.oneCell']) rfl (by simp only [maxLen]; omega) (by omega) hsz ?_
           intro v5 w5 hs5 hg5
           have u5 := hide (uE.out.trans (upd_own hu.out hs.out (Nat.le_refl _) hg5))
           have hbE5 := hbE.out.upd (upd_own hu.out hs.out (Nat.le_refl _) hg5) (by simp)
           have hsz5 := u5.out.size
           rw [hss0.out, hsl.out] at hs5
           obtain ⟨As5, ks5, rfl⟩ := own_shape hs5
           clear hg5 hs)
        | fail)
      have p0 := hbE5.cell 0
      have p1 := hbE5.cell 1
      have p2 := hbE5.cell 2
      have p3 := hbE5.cell 3
      simp at p0 p1 p2 p3
      have cCk : Calls Tryd.prog 15 #[.agg #[.int .u8 108, .int .u8 97, .int .u8 115, .int .u8 116], .slice none 0 0] w5 _ := chunk_any 108 97 115 116 none 0 w5.heap.size [] w5 (Rd.nil) (Nat.le_refl _) (by simp)
      replace cCk := hide cCk
      have hk5 := hide (u5.out.own hk4'.out (by simp))
      replace hs5 := hide hs5
      replace hbE5 := hide hbE5
      clear hss0 hsz hg2 hg3
      obtain ⟨LL, hLL⟩ : ∃ LL, LL = chunkP [108, 97, 115, 116] [] := ⟨_, rfl⟩
      obtain ⟨BO, hBO⟩ : ∃ BO, BO = LC ++ LL := ⟨_, rfl⟩
      have hLLl : LL.length = 8 := by rw [hLL]; rfl
      have hLLb : ∀ x ∈ LL, x ≤ 255 := by rw [hLL]; exact chunk_by (by decide) (by simp)
      have hBOl : LC.length + LL.length = BO.length := by rw [hBO, List.length_append]
      have hBOb : ∀ x ∈ BO, x ≤ 255 := fun x hx => by
        rw [hBO] at hx
        exact (List.mem_append.1 hx).elim (hLCb.out x) (hLLb x)
      have hBOI : (BO.length : Int) ≤ 2000200 := by omega
      have hFL : fileP [116, 101, 115, 116] BO = listFile [f0, f1, f2, f3] (csP ids D (fun j => (D.getD j []).length + 1) j) := by rw [listFile, cs_enc, hBO, hLC.out, hLL]
      have hFl : (fileP [116, 101, 115, 116] BO).length = 8 + (4 + BO.length) + (padP (decide (([116, 101, 115, 116] ++ BO).length % 2 = 1))).length := by
        unfold fileP
        rw [chunk_len _ _ rfl]
        simp
        omega
      have hpp := padP_len (decide (([116, 101, 115, 116] ++ BO).length % 2 = 1))
      have hFlI : ((fileP [116, 101, 115, 116] BO).length : Int) ≤ 3000000 := by split at hpp <;> omega
      have hFb := file_by (form := [116, 101, 115, 116]) (by decide) hBOb
      have hLI : (LC.length : Int) + (LL.length : Int) ≤ 2000200 := by omega
      clear hFl hpp hLLb
      replace hLLl := hide hLLl
      replace hBOl := hide hBOl
      replace hLL := hide hLL
      replace hBO := hide hBO
      replace hFL := hide hFL
      replace hFb := hide hFb
      replace hBOb := hide hBOb
      generalize hFF : fileP [116, 101, 115, 116] BO = FF at *
      replace hFF := hide hFF
      go_wp2_with fail
      (with_reducible refine (cCk.out).mono ?_)
      rintro e w6 ⟨v6, rfl, hk6, hu6⟩
      rw [← hLL.out] at hk6
      obtain ⟨A6, c6, rfl⟩ := own_shape hk6
      have hk6' := hide (hu6.own hk5.out (by simp))
      have hRb6 := hide (Rd.ofOwn hk6)
      have u6 := hide (u5.out.trans hu6)
      have hz6 := u6.out.size
      have hs6 := hide (hu6.own hs5.out (by simp))
      have hbE6 := hide (hbE5.out.upd hu6 (by simp))
      clear hk6 hu6 cCk hbE5 hs5 hk5
      go_wp2_with (first
        | (refine wpList_pushR rfl (.tmp 88) (.tmp 90) 25 rfl w1.heap.size _ 5 .u8 1 Tryd.underlying25 info_u8r _ LC.length _ rfl hk6'.out A6 LL.length c6 (ofNr LL) (ofNr_len _) rfl hRb6.out (by simp only [maxLen]; omega) (by omega) (by omega) ?_
           intro v7 w7 hk7 hg7
           rw [hBOl.out] at hk7
           have hbE7 := hide ((grown_typed hk6'.out hg7).typ _ _ _ hbE6.out (by decide))
           have hs7 := hide ((grown_typed hk6'.out hg7).own hs6.out (by decide))
           have u7 := hide (upd_own (u4.out.trans u6.out) hk6'.out (Nat.le_refl _) hg7)
           have hC7 := hide (hC1.out.upd u7.out (Nat.le_refl _) (by simp))
           obtain ⟨A7, c7, rfl⟩ := own_shape hk7
           have hk7' : w7.ownsRow w1.heap.size 5 1 (.slice A7 BO.length c7) BO.length ((ofNr BO).map (Value.int .u8)) := by
             rw [hBO.out]
             simpa [ofNr, hBO.out] using hk7
           clear hk7 hg7
           have cFi : Calls Tryd.prog 11 #[.agg #[.int .u8 116, .int .u8 101, .int .u8 115, .int .u8 116], .slice A7 BO.length c7] w7 _ := file_any 116 101 115 116 A7 c7 w7.heap.size BO w7 (Rd.ofOwn hk7') (Nat.le_refl _) (by omega)
           have cFh := hide cFi
           clear cFi hk7' hbE6 hs6)
        | fail)
      (with_reducible refine (cFh.out).mono ?_)
      rintro e w8 ⟨v8, rfl, hf8, hu8⟩
      rw [hFF.out] at hf8
      obtain ⟨Af8, kf8, rfl⟩ := own_shape hf8
      have hz7 := u7.out.size
      have u08 := hide ((hu1.out.trans u7.out).trans hu8)
      have hs8 := hu8.own hs7.out (by simp)
      have hC8 := hide (hC7.out.upd hu8 hz7 (by simp))
      have hbE8 := hide (hbE7.out.upd hu8 (by simp))
      have hz8 := hu8.size
      obtain ⟨G, hG⟩ : ∃ G, G = (riffP FF SL).1 := ⟨_, rfl⟩
      obtain ⟨OL, hOL⟩ : ∃ OL : List Ck, OL = ⟨[76, 73, 83, 84], 4 + (bodyP ids D j).length, [], 2⟩ :: (wantP ids D j ++ [⟨[108, 97, 115, 116], 0, [], 2⟩]) := ⟨_, rfl⟩
      obtain ⟨KL, hKL⟩ : ∃ KL : List Int, KL = [0, 0, 0] ++ (List.replicate (2 * j) 0 ++ [1, 0, 0, 1]) := ⟨_, rfl⟩
      have hRi : riffP FF SL = (G, (OL, KL)) := by
        have h := riff_lists (kind := [f0, f1, f2, f3]) (cs := csP ids D (fun j => (D.getD j []).length + 1) j) rfl (by rw [cs_enc]; omega) (cs_ok ids D _ j (fun i => by omega))
        rw [cs_enc, told_want, cs_len, ← hFL.out, ← hSL.out] at h
        exact Prod.ext hG.symm (by rw [hOL, hKL]; exact h)
      have hOl : OL.length = j + 2 := by rw [hOL]; simp [want_len]
      have hKl : KL.length = 2 * j + 7 := by rw [hKL]; simp
      have cRf := riff_any w8 Af8 Ac As5 kf8 cc ks5 FF cl _ ae au ar ad al ap ah ((Rd.ofOwn hf8)) (own_cap hf8) (by omega) hFb.out ((hc1.out.upd u08.out hz0 (by simp)).more (by have := u08.out.size; omega)) (by omega) hcw.out (RdS.ofOwn hs8) (by omega) (fun x hx => by
        rw [hSL.out, listSteps] at hx
        rcases List.mem_append.1 hx with h | h
        · rcases (by simpa using h : x = (0, 0) ∨ x = (2, 0)) with rfl | rfl <;> decide
        rcases List.mem_append.1 h with h | h
        · exact steps_by ids D (fun j => (D.getD j []).length + 1) j (fun i hi => by have := hlen.out i hi; omega) x h
        · rcases (by simpa using h : x = (0, 0) ∨ x = (3, 0) ∨ x = (0, 0)) with rfl | rfl | rfl <;> decide) (hE1.out.at_ u08.out)
      rw [hRi] at cRf
      replace cRf := hide cRf
      clear hRi hs8 hf8 hG hFb hFF hFL hBOb hLL cFh hs7 hC7 hbE7
      go_wp2_with fail
      (with_reducible refine (cRf.out).mono ?_)
      rintro e w9 ⟨ov, kv, rfl, hu9, ho9, hk9⟩
      dsimp only at ho9 hk9
      obtain ⟨V9, hV9, hV9'⟩ := ho9.h
      obtain ⟨A9, c9, rfl, hR9⟩ := ho9.reads
      have hcp9 := own_cap hV9
      clear hV9' hV9 V9 ho9
      obtain ⟨A10, c10, rfl⟩ := own_shape hk9
      have hkR9 := Rd.ofOwn hk9
      have hSLn : SL.length = 2 * j + 6 := by have := hsl.out; omega
      simp only [four, hOl, hKl, hSLn]
      generalize G.getD 0 0 = G0
      generalize G.getD 1 0 = G1
      generalize G.getD 2 0 = G2
      generalize G.getD 3 0 = G3
      have uF := (Upd.refl [] w9).alloc (.cells #[.int .u8 (G0 : Nat), .int .u8 (G1 : Nat), .int .u8 (G2 : Nat), .int .u8 (G3 : Nat)] 22)
      have hz9 := hu9.size
      have hbF := (hbE8.out.upd hu9 (by simp)).upd uF (by simp)
      have hRF := hR9.upd uF (Nat.le_refl _) (by simp)
      have hkF := hkR9.upd uF (Nat.le_refl _) (by simp)
      have hCF := hide ((hC8.out.upd hu9 (by omega) (by simp)).upd uF (by omega) (by simp))
      have u09 := hide (u08.out.trans hu9)
      rw [hOl] at hcp9
      clear hR9 hk9 hkR9 hu9 cRf hC8 hbE8 u08 hSLn hsl hSLI hSLJ
      replace uF := hide uF
      replace hKl := hide hKl
      replace hOl := hide hOl
      replace hKL := hide hKL
      replace hOL := hide hOL
      replace hRF := hide hRF
      replace hkF := hide hkF
      replace hbF := hide hbF
      go_upto_region 16 with fail
      generalize hWF : w9.alloc (.cells #[.int .u8 (G0 : Nat), .int .u8 (G1 : Nat), .int .u8 (G2 : Nat), .int .u8 (G3 : Nat)] 22) = wF at *
      obtain ⟨bo, off, Ao, Co, rfl, hbo, hco⟩ := hRF.out (by rw [hOL.out]; simp)
      have hz0F : OL.getD 0 default = ⟨[76, 73, 83, 84], 4 + (bodyP ids D j).length, [], 2⟩ := by rw [hOL.out]; rfl
      have hz1F : OL.getD (j + 1) default = ⟨[108, 97, 115, 116], 0, [], 2⟩ := by
        rw [hOL.out, List.getD_cons_succ, List.getD_eq_getElem?_getD, List.getElem?_append_right (by rw [want_len]; omega), want_len, Nat.sub_self]
        rfl
      have f4 := (hco 0 (by rw [hOl.out]; omega)).1 4 (by omega)
      have g0 := (hco (j + 1) (by rw [hOl.out]; omega)).1 0 (by omega)
      have g1 := (hco (j + 1) (by rw [hOl.out]; omega)).1 1 (by omega)
      have g2' := (hco (j + 1) (by rw [hOl.out]; omega)).1 2 (by omega)
      have g3' := (hco (j + 1) (by rw [hOl.out]; omega)).1 3 (by omega)
      have g4 := (hco (j + 1) (by rw [hOl.out]; omega)).1 4 (by omega)
      rw [hz0F] at f4
      rw [hz1F] at g0 g1 g2' g3' g4
      simp [ckC] at f4 g0 g1 g2' g3' g4
      have r0 := hbF.out.cell 0
      have r1 := hbF.out.cell 1
      have r2 := hbF.out.cell 2
      have r3 := hbF.out.cell 3
      simp at r0 r1 r2 r3
      have hW1 : IntKind.i64.wrap ((j : Int) + 2) = (j : Int) + 2 := IntWalk.i64_in _ (by omega)
      have hW2 : IntKind.i64.wrap (2 * (j : Int) + 6 + 1) = 2 * (j : Int) + 7 := IntWalk.i64_in _ (by omega)
      have hW3 : IntKind.i64.wrap (((bodyP ids D j).length : Int) + 4) = 4 + ((bodyP ids D j).length : Int) := (IntWalk.i64_in _ (by omega)).trans (by omega)
      have hW4 : IntKind.i64.wrap ((j : Int) + 1) = (j : Int) + 1 := IntWalk.i64_in _ (by omega)
      have hN := fun W => arr4_same 108 97 115 116 W
      obtain ⟨bk, ok, rfl, hbk, hck⟩ := hkF.out (by rw [hKL.out]; simp)
      have k3 := hck (2 * j + 3) (by rw [hKl.out]; omega)
      have k4 := hck (2 * j + 4) (by rw [hKl.out]; omega)
      have k5 := hck (2 * j + 5) (by rw [hKl.out]; omega)
      have k6 := hck (2 * j + 6) (by rw [hKl.out]; omega)
      rw [hKL.out, kl_at (2 * j) 0] at k3
      rw [hKL.out, kl_at (2 * j) 1] at k4
      rw [hKL.out, kl_at (2 * j) 2] at k5
      rw [hKL.out, kl_at (2 * j) 3] at k6
      simp at k3 k4 k5 k6
      rw [hOL.out] at hco
      have hM := hide (RdC.mid hbo hco)
      clear hz0F hz1F hco hck
      go_quiet (fail)
      have hW5 : IntKind.i64.wrap (2 * (j : Int)) = 2 * (j : Int) := IntWalk.i64_in _ (by omega)
      have hW6 : IntKind.i64.wrap (2 * (j : Int) + 3) = 2 * (j : Int) + 3 := IntWalk.i64_in _ (by omega)
      have hW7 : IntKind.i64.wrap (2 * (j : Int) + 4) = 2 * (j : Int) + 4 := IntWalk.i64_in _ (by omega)
      have hW8 : IntKind.i64.wrap (2 * (j : Int) + 5) = 2 * (j : Int) + 5 := IntWalk.i64_in _ (by omega)
      have hW9 : IntKind.i64.wrap (2 * (j : Int) + 6) = 2 * (j : Int) + 6 := IntWalk.i64_in _ (by omega)
      go_upto_region 20 with fail
      have hdL : ∀ x ∈ wantP ids D j, (x.data.length : Int) ≤ 2147483647 := fun x hx => by
        obtain ⟨i, hi, rfl⟩ := List.mem_map.1 hx
        have := hlen.out i (List.mem_range.1 hi)
        simp only
        omega
      have cCh := fun (c : Nat) (W : World) (u : Upd [] wF W) => chunks_same (some ⟨bo, off + 7, none⟩) A1 c k1 w9.heap.size w1.heap.size (wantP ids D j) W (by rw [want_len]; omega) hdL (hM.out.upd u (by have := uF.out.size; omega) (by simp)) (hCF.out.upd u (by have := uF.out.size; omega) (by simp))
      rw [want_len] at cCh
      have cRd := fun (W : World) (u : Upd [] wF W) => readFile_any W ae au ar ad al ap ah (hE1.out.at_ (u09.out.trans (uF.out.trans u)))
      replace cCh := hide cCh
      replace cRd := hide cRd
      replace hdL := hide hdL
      go_wp2_with fail
      (with_reducible refine (cCh.out _ _ ((Upd.refl [] wF).drewN _)).mono ?_)
      rintro e w10 ⟨rfl, n10, hw10⟩
      have u10 : Upd [] wF w10 := by rw [← hw10]; exact ((Upd.refl [] wF).drewN _).drewN n10
      clear hw10 cCh
      have cR10 := hide (cRd.out w10 u10)
      replace u10 := hide u10
      go_wp2_with fail
      (with_reducible refine (cR10.out).mono ?_)
      rintro e w11 ⟨rfl, hu11⟩
      have u11 := hide (u0.out.trans (u09.out.trans (uF.out.trans (u10.out.trans hu11))))
      clear hu11 cR10
      go_wp2_with fail
      go_ret
      exact ⟨rfl, u11.out⟩
    | succ k =>
      have hjm : j < m := by omega
      have hjI : (j : Int) < (m : Int) := by omega
      obtain ⟨bc, oc, Af, Cf, rfl, hbc, hcc⟩ := hC1.out (by intro e; have h9 := congrArg List.length e; rw [want_len] at h9; simp at h9; omega)
      obtain ⟨hq, _⟩ := hcc j (by rw [want_len]; exact hjm)
      have q4 := hq 4 (by omega)
      have hw : (wantP ids D m).getD j default = ⟨idAt ids j, (D.getD j []).length, D.getD j [], 0⟩ := by simp [wantP, hjm]
      rw [hw] at q4
      replace q4 := q4.trans (show _ = some (Value.int .i64 ((D.getD j []).length : Nat)) from rfl)
      have u1r := (u4.out.trans uE.out).trans hu
      replace q4 := (u1r.cell (p := ⟨bc, oc + j * 7 + 4, none⟩) hbc (by simp)).trans q4
      have hjl := hlen.out j hjm
      have hss := steps_succ ids D (fun j => (D.getD j []).length + 1) j
      have hsz := hu.size
      clear hq hcc hw u1r
      replace hs := hide hs
      replace hu := hide hu
      replace hss := hide hss
      generalize hgl : (D.getD j []).length = lj at *
      have hwr : IntKind.i64.wrap ((lj : Int) + 1) = (lj : Int) + 1 := IntWalk.i64_in _ (by omega)
      go_wp2_with (first
        | (refine wpList_pushK rfl (.tmp 68) (.tmp 77) 33 rfl wE.heap.size 35 (.agg #[.int .i64 0, .int .i64 0]) 2 16 Tryd.underlying33 info_step rfl (by decide) (.slice As (2 * j + 2) ks) (2 * j + 2) 2 _ rfl hs.out #[.int .i64 0, .int .i64 0, .int .i64 1, .int .i64 ((lj : Int) + 1)] rfl (by simp [Value.oneCell']) rfl (by simp only [maxLen]; omega) (by omega) hsz ?_
           intro v5 w5 hs5 hg5
           have u5 := hide (upd_own hu.out hs.out (Nat.le_refl _) hg5)
           obtain ⟨As5, ks5, rfl⟩ := own_shape hs5
           replace hs5 := hide hs5)
        | fail)
      go_roundg k
      case measure => omega
      case rel =>
        refine ⟨j + 1, by omega, by go_num, ?_, u5.out⟩
        rw [hss.out, ← List.append_assoc, stepC_append, show 2 * (j + 1) + 2 = 2 * j + 2 + 2 from by omega]
        simpa [stepC, hgl] using hs5.out
end Go.Proofs.YthkpoidnhgcjhaaDoor

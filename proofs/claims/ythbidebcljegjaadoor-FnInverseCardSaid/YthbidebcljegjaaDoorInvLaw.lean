/- The law FnInverse: the walk, for every argument. -/
import Derived.Test.YthbidebcljegjaaDoorDoorInv
import Derived.Test.YthbidebcljegjaaDoorBytes
import Derived.Test.YthbidebcljegjaaDoorEqLaws
import Derived.Test.YthbidebcljegjaaDoorTruths
import Derived.Test.YthbidebcljegjaaDoorReadBool
import Derived.Deep.RegionHeld3
namespace Go.Proofs.YthbidebcljegjaaDoor
set_option linter.unusedSimpArgs false
set_option linter.unusedVariables false
open Go.RowKit Plain

theorem rowF_of' (l : List Int) (n : Nat) (h : l.length = n) (k : IntKind) : (l.map (Value.int k)).toArray = rowF k (fun j => l.getD j 0) n := by
  subst h
  unfold rowF
  congr 1
  apply List.ext_getElem
  · simp
  · intro i h1 h2
    simp at h1
    simp [h1]
theorem range_keep' {W W' : World} {g o : Nat} {cs : List Value} (h : W.rangeAt g o cs) (hb : Below W.heap.size W W') : W'.rangeAt g o cs := fun j v hv => by
  have h1 := h j v hv
  exact (hb.cell (p := ⟨g, o + j, none⟩) (World.block_lt_of_cell? _ _ h1)).trans h1
theorem both_start' {W w : World} {g : Nat} {cs : List Value} (h : W.rangeAt g 0 cs) (hb : Below g w W) : W.drew.rangeAt g 0 cs ∧ Below g w W.drew := ⟨h, hb.drew⟩
theorem both_keep' {W W' w : World} {cs : List Value} (h : W.rangeAt w.heap.size 0 cs ∧ Below w.heap.size w W) (hb : Below W.heap.size W W') : W'.rangeAt w.heap.size 0 cs ∧ Below w.heap.size w W' := ⟨range_keep' h.1 hb, h.2.trans (hb.mono h.2.size)⟩
theorem both_drewN {W w : World} {cs : List Value} (h : W.rangeAt w.heap.size 0 cs ∧ Below w.heap.size w W) (n : Nat) : (W.drewN n).rangeAt w.heap.size 0 cs ∧ Below w.heap.size w (W.drewN n) := ⟨h.1, below_drewN' h.2 n⟩
theorem fitB_all {x : Nat → Int} (h : fitB x = true) (j : Nat) : -25079 ≤ pT x j ∧ pT x j ≤ 25079 := by
  rcases Nat.lt_or_ge j 16 with hj | hj
  · exact fitB_of h j hj
  · have e : pT x j = pT x (12 + j % 4) := by
      have e1 : (12 + j % 4) % 4 = j % 4 := by omega
      have e2 : (12 + j % 4) / 4 = 3 := by omega
      unfold pT tur
      rw [e1, e2, if_neg (by omega), if_neg (by omega), if_neg (by omega)]
      rfl
    rw [e]
    exact fitB_of h _ (by omega)
theorem byte_wf {l : List Int} (h : ∀ n ∈ l, (Lit.int .u8 n).wf = true) (j : Nat) : 0 ≤ l.getD j 0 ∧ l.getD j 0 ≤ 255 := by
  rcases Nat.lt_or_ge j l.length with hj | hj
  · have h1 := h l[j] (List.getElem_mem hj)
    simp [Lit.wf, IntKind.min, IntKind.max, IntKind.bits, IntKind.signed] at h1
    simp [hj]
    omega
  · simp [hj]

set_option maxRecDepth 100000 in
set_option maxHeartbeats 4000000 in
theorem inv_main (l v : List Int) (A : Option Addr) (c : Nat) (w : World) (hl : l.length = 16) (hvl : v.length = 16) (hS : shortB l = true) (hv : ∀ n ∈ v, (Lit.int .u8 n).wf = true) (hcap : 16 ≤ c) (hr : Rd .u8 w w.heap.size A v) (hL : Luts w) :
    Calls Tryd.prog 7 #[.agg (l.map (Value.int .i64)).toArray, .slice A 16 c] w fun e w' => e = .returned (.bool true) ∧ Below w.heap.size w w' := by
  have hlt := hL.lt
  have hv' := byte_wf hv
  rw [rowF_of' l 16 hl .i64]
  have hA : Blk (w.alloc (.cells (rowF .i64 (fun j => l.getD j 0) 16) 37)) w.heap.size 37 (rowF .i64 (fun j => l.getD j 0) 16) := Blk.new w _ _
  have cF := fun w1 => isShort_any l w1 hl
  rw [hS] at cF
  unfold shortB at hS
  rw [Bool.and_eq_true] at hS
  have hx : ∀ j, -25079 ≤ l.getD j 0 ∧ l.getD j 0 ≤ 25079 := within_at hS.1 (by decide) (by decide)
  have ht : ∀ j, -25079 ≤ pT (fun j => l.getD j 0) j ∧ pT (fun j => l.getD j 0) j ≤ 25079 := fitB_all hS.2
  have cI := fun (w1 : World) hB1 hr1 => implInv_any (fun j => l.getD j 0) A c w.heap.size v w1 hvl hx ht hv' hB1 hcap hr1
  have cS := fun (w1 : World) hB1 hr1 => specInv_any (fun j => l.getD j 0) A c w.heap.size v w1 hvl hx ht hv' hB1 hr1
  have cB := fun w1 (hb : Below w.heap.size w w1) => readBool_any w1 (hL.below hb hlt)
  have hb0 := hide ((Below.refl _ w).alloc (Nat.le_refl _) (.cells (rowF .i64 (fun j => l.getD j 0) 16) 37))
  have hrg := hide hA.range
  have hu37 : Tryd.prog.underlying 37 = some (.array 16 3) := Tryd.underlying37
  have hi37 : (Tryd.prog.info? 37).map (·.size) = some ((rowF .i64 (fun j => l.getD j 0) 16).toList.length) := by
    rw [Array.length_toList, rowF_size]
    exact size_16int
  have hr' := hide fun (W : World) (hb : Below w.heap.size w W) => hr.keep (w' := W) fun p hp => hb.cell hp
  replace cF := hide cF
  replace cI := hide cI
  replace cS := hide cS
  replace cB := hide cB
  replace hi37 := hide hi37
  clear hx ht hS hl hA hL hv hv' hr
  rw [← Array.toArray_toList (xs := rowF .i64 (fun j => l.getD j 0) 16)] at *
  generalize hRX : (rowF .i64 (fun j => l.getD j 0) 16).toList = RX at *
  generalize hLF : rowL (ivF (fun j => l.getD j 0) (fun j => v.getD j 0)) 16 = LF at *
  have hLl : LF.length = 16 := by rw [← hLF]; exact rowL_len _ _
  replace hLl := hide hLl
  clear hRX hLF
  go_enter Tryd.func7, Tryd.ntmps7
  go_wp2_with (first | (refine wpList_load_mid rfl 37 (.tmp 2) rfl w.heap.size 0 rfl RX _ hrg.out hu37 rfl hi37.out ?_) | (go_at_call 28; (with_reducible refine (cF.out _).mono ?_); rintro e w1 ⟨rfl, hb1⟩; replace hb1 := hide hb1) | fail)
  have hrg1 := hide (range_keep' hrg.out hb1.out)
  have hb2 := hide (hb0.out.trans (hb1.out.mono hb0.out.size))
  clear hb0 hb1 hrg cF
  refine wp_region_held_drew (S := fun W => W.rangeAt w.heap.size 0 RX ∧ Below w.heap.size w W) (by kernel_rfl) (both_start' hrg1.out hb2.out) (fun hHeld => ?_)
  refine wpAnyH_take (i := 0) (oi := _) (v := _) rfl (by kernel_rfl) (by kernel_rfl) (by kernel_rfl) (fun _ _ _ h => h) (yieldsIf_load_mid (by rfl) _ _ rfl _ _ rfl _ _ (fun _ h => h.1) hu37 rfl hi37.out) (by assumption) ?_
  try simp only [Act.put, List.setIfInBounds_toArray, List.set_cons_zero, List.set_cons_succ]
  refine wpAnyH_take (i := 3) (oi := _) (v := _) rfl (by kernel_rfl) (by kernel_rfl) (by kernel_rfl) (fun _ _ _ h => h) (yieldsIf_load_mid (by rfl) _ _ rfl _ _ rfl _ _ (fun _ h => h.1) hu37 rfl hi37.out) (by assumption) ?_
  try simp only [Act.put, List.setIfInBounds_toArray, List.set_cons_zero, List.set_cons_succ]
  refine wpAnyH_take (i := 1) (oi := _) (v := .slice A 16 c) rfl (by kernel_rfl) (by kernel_rfl) (by kernel_rfl) (fun _ _ _ h => h) (Or.inl ⟨by rfl, fun W hSw => by go_simp⟩) (by assumption) ?_
  try simp only [Act.put, List.setIfInBounds_toArray, List.set_cons_zero, List.set_cons_succ]
  refine wpAnyH_take (i := 4) (oi := _) (v := .slice A 16 c) rfl (by kernel_rfl) (by kernel_rfl) (by kernel_rfl) (fun _ _ _ h => h) (Or.inl ⟨by rfl, fun W hSw => by go_simp⟩) (by assumption) ?_
  try simp only [Act.put, List.setIfInBounds_toArray, List.set_cons_zero, List.set_cons_succ]
  refine wpAnyH_ready (rs := [2]) (by kernel_rfl) (by simp) ?_
  refine AllReadyH.cons rfl (fun K hK => ?_) AllReadyH.nil
  rw [if_pos (by rfl)]
  go_simp
  go_at_call 29
  (with_reducible refine (cI.out _ hHeld.2.size (hr'.out _ hHeld.2)).mono ?_)
  rintro e w2 ⟨s1, rfl, ho1, hb'⟩
  obtain ⟨A1, c1, rfl, _, _⟩ := own_len ho1
  replace ho1 := hide ho1
  go_wp2_with fail
  refine hK.out _ _ (both_keep' hHeld hb') (fun hHeld => ?_)
  clear hK K hb'
  try simp only [Act.put, List.setIfInBounds_toArray, List.set_cons_zero, List.set_cons_succ]
  refine wpAnyH_ready (rs := [5]) (by kernel_rfl) (by simp) ?_
  refine AllReadyH.cons rfl (fun K hK => ?_) AllReadyH.nil
  rw [if_pos (by rfl)]
  go_simp
  go_at_call 30
  (with_reducible refine (cS.out _ hHeld.2.size (hr'.out _ hHeld.2)).mono ?_)
  rintro e w3 ⟨s2, rfl, ho2, hb'⟩
  obtain ⟨A2, c2, rfl, _, _⟩ := own_len ho2
  have ho1' := hide ((Upd.ofBelow (S := []) hb').own ho1.out (by simp))
  have cb := bytes_same A1 A2 c1 c2 LF w3 _ _ (by have := hLl.out; omega) (Rd.ofOwn ho1'.out) (Rd.ofOwn ho2)
  rw [hLl.out] at cb
  replace cb := hide cb
  replace ho2 := hide ho2
  go_wp2_with fail
  refine hK.out _ _ (both_keep' hHeld hb') (fun hHeld => ?_)
  clear hK K hb' ho1
  try simp only [Act.put, List.setIfInBounds_toArray, List.set_cons_zero, List.set_cons_succ]
  refine wpAnyH_ready (rs := [6]) (by kernel_rfl) (by simp) ?_
  refine AllReadyH.cons rfl (fun K hK => ?_) AllReadyH.nil
  rw [if_pos (by rfl)]
  go_simp
  go_at_call 22
  (with_reducible refine (cb.out).mono ?_)
  rintro e w4 ⟨rfl, n4, rfl⟩
  go_wp2_with fail
  refine hK.out _ _ (both_drewN hHeld n4) (fun hHeld => ?_)
  clear hK K cb
  try simp only [Act.put, List.setIfInBounds_toArray, List.set_cons_zero, List.set_cons_succ]
  refine wpAnyH_ready (rs := [7]) (by kernel_rfl) (by simp) ?_
  refine AllReadyH.cons rfl (fun K hK => ?_) AllReadyH.nil
  rw [if_pos (by rfl)]
  go_simp
  refine hK.out _ _ hHeld (fun hHeld => ?_)
  clear hK K
  try simp only [Act.put, List.setIfInBounds_toArray, List.set_cons_zero, List.set_cons_succ]
  refine wpAnyH_ready (rs := [8]) (by kernel_rfl) (by simp) ?_
  refine AllReadyH.cons rfl (fun K hK => ?_) AllReadyH.nil
  rw [if_pos (by rfl)]
  go_simp
  go_at_call 10
  (with_reducible refine (cB.out _ hHeld.2).mono ?_)
  rintro e w5 ⟨rfl, hb'⟩
  go_wp2_with fail
  refine hK.out _ _ (both_keep' hHeld hb') (fun hHeld => ?_)
  clear hK K
  try simp only [Act.put, List.setIfInBounds_toArray, List.set_cons_zero, List.set_cons_succ]
  refine wpAnyH_ready (rs := [9]) (by kernel_rfl) (by simp) ?_
  refine AllReadyH.cons rfl (fun K hK => ?_) AllReadyH.nil
  rw [if_pos (by rfl)]
  go_simp
  refine hK.out _ _ hHeld (fun hHeld => ?_)
  clear hK K
  try simp only [Act.put, List.setIfInBounds_toArray, List.set_cons_zero, List.set_cons_succ]
  refine wpAnyH_ready (rs := [10]) (by kernel_rfl) (by simp) ?_
  refine AllReadyH.cons rfl (fun K hK => ?_) AllReadyH.nil
  rw [if_pos (by rfl)]
  go_simp
  refine hK.out _ _ hHeld (fun hHeld => ?_)
  clear hK K
  try simp only [Act.put, List.setIfInBounds_toArray, List.set_cons_zero, List.set_cons_succ]
  refine wpAnyH_done (by kernel_rfl) ?_ _
  go_wp2
  go_ret
  exact ⟨rfl, hHeld.2⟩

set_option maxRecDepth 100000 in
set_option maxHeartbeats 4000000 in
theorem inv_other (l v : List Int) (A : Option Addr) (c : Nat) (w : World) (hl : l.length = 16) (hvl : v.length ≤ 9223372036854775807) (g1 : ¬ (2147483647 : Int) < (v.length : Int)) (hS : shortB l = false ∨ v.length ≠ 16) (hL : Luts w) :
    Calls Tryd.prog 7 #[.agg (l.map (Value.int .i64)).toArray, .slice A v.length c] w fun e w' => e = .returned (.bool true) ∧ Below w.heap.size w w' := by
  have hlt := hL.lt
  rw [rowF_of' l 16 hl .i64]
  have hA : Blk (w.alloc (.cells (rowF .i64 (fun j => l.getD j 0) 16) 37)) w.heap.size 37 (rowF .i64 (fun j => l.getD j 0) 16) := Blk.new w _ _
  have cF := fun w1 => isShort_any l w1 hl
  have cB := fun w1 (hb : Below w.heap.size w w1) => readBool_any w1 (hL.below hb hlt)
  have hb0 := hide ((Below.refl _ w).alloc (Nat.le_refl _) (.cells (rowF .i64 (fun j => l.getD j 0) 16) 37))
  have hrg := hide hA.range
  have hu37 : Tryd.prog.underlying 37 = some (.array 16 3) := Tryd.underlying37
  have hi37 : (Tryd.prog.info? 37).map (·.size) = some ((rowF .i64 (fun j => l.getD j 0) 16).toList.length) := by
    rw [Array.length_toList, rowF_size]
    exact size_16int
  replace cB := hide cB
  replace hi37 := hide hi37
  clear hl hA hL
  rw [← Array.toArray_toList (xs := rowF .i64 (fun j => l.getD j 0) 16)] at *
  generalize hRX : (rowF .i64 (fun j => l.getD j 0) 16).toList = RX at *
  clear hRX
  cases hs : shortB l with
  | false =>
    rw [hs] at cF
    replace cF := hide cF
    replace hs := hide hs
    clear hS
    go_enter Tryd.func7, Tryd.ntmps7
    go_wp2_with (first | (refine wpList_load_mid rfl 37 (.tmp 2) rfl w.heap.size 0 rfl RX _ hrg.out hu37 rfl hi37.out ?_) | (go_at_call 28; (with_reducible refine (cF.out _).mono ?_); rintro e w1 ⟨rfl, hb1⟩; replace hb1 := hide hb1) | fail)
    have hb2 := hide (hb0.out.trans (hb1.out.mono hb0.out.size))
    clear hb0 hb1
    (with_reducible refine (cB.out _ hb2.out).mono ?_)
    rintro e w2 ⟨rfl, hb'⟩
    replace hb' := hide hb'
    go_wp2
    go_ret
    exact ⟨rfl, hb2.out.trans (hb'.out.mono hb2.out.size)⟩
  | true =>
    rw [hs] at cF
    have hn : v.length ≠ 16 := by rcases hS with h | h; · rw [hs] at h; cases h
                                  · exact h
    have hne : (v.length : Int) ≠ 16 := by omega
    have hni : ((v.length : Int) != 16) = true := by simp; omega
    replace cF := hide cF
    replace hs := hide hs
    clear hS hn
    go_enter Tryd.func7, Tryd.ntmps7
    go_wp2_with (first | (refine wpList_load_mid rfl 37 (.tmp 2) rfl w.heap.size 0 rfl RX _ hrg.out hu37 rfl hi37.out ?_) | (go_at_call 28; (with_reducible refine (cF.out _).mono ?_); rintro e w1 ⟨rfl, hb1⟩; replace hb1 := hide hb1) | fail)
    have hb2 := hide (hb0.out.trans (hb1.out.mono hb0.out.size))
    clear hb0 hb1
    (with_reducible refine (cB.out _ hb2.out).mono ?_)
    rintro e w2 ⟨rfl, hb'⟩
    replace hb' := hide hb'
    go_wp2
    go_ret
    exact ⟨rfl, hb2.out.trans (hb'.out.mono hb2.out.size)⟩

set_option maxRecDepth 100000 in
set_option maxHeartbeats 4000000 in
theorem invLaw_any (l v : List Int) (A : Option Addr) (c : Nat) (w : World) (hL : Luts w) (hl : l.length = 16) (hvl : v.length ≤ 9223372036854775807) (hv : ∀ n ∈ v, (Lit.int .u8 n).wf = true) (hcap : v.length ≤ c) (hr : Rd .u8 w w.heap.size A v) :
    Calls Tryd.prog 7 #[.agg (l.map (Value.int .i64)).toArray, .slice A v.length c] w fun e w' => e = .returned (.bool true) ∧ Below w.heap.size w w' := by
  have hb0 := (Below.refl w.heap.size w).alloc (Nat.le_refl _) (.cells (rowF .i64 (fun j => l.getD j 0) 16) 37)
  by_cases hbig : 2147483647 < v.length
  · have g1 : (2147483647 : Int) < (v.length : Int) := by omega
    rw [rowF_of' l 16 hl .i64]
    replace hb0 := hide hb0
    clear hv hr hl hL
    generalize rowF .i64 (fun j => l.getD j 0) 16 = RX at *
    go_enter Tryd.func7, Tryd.ntmps7
    go_wp2
    go_ret
    exact ⟨rfl, hb0.out⟩
  · have g1 : ¬ (2147483647 : Int) < (v.length : Int) := by omega
    by_cases h16 : v.length = 16
    · by_cases hS : shortB l = true
      · rw [h16]
        exact inv_main l v A c w hl h16 hS hv (by omega) hr hL
      · exact inv_other l v A c w hl hvl g1 (.inl (by simpa using hS)) hL
    · exact inv_other l v A c w hl hvl g1 (.inr h16) hL
end Go.Proofs.YthbidebcljegjaaDoor

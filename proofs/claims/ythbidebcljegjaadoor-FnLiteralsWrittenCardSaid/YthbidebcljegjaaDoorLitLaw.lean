/- Numbers are read as they were written: the law. -/
import Derived.Test.YthbidebcljegjaaDoorLitImpl
import Derived.Test.YthbidebcljegjaaDoorInts
import Derived.Test.YthbidebcljegjaaDoorReadBool
namespace Go.Proofs.YthbidebcljegjaaDoor
set_option linter.unusedSimpArgs false
set_option linter.unusedVariables false
open Go.RowKit Plain

theorem Bl.own {base g b : Nat} {w w' : World} {e : TypeId} {size n : Nat} {v : Value} {xs : List Value} (h : Bl base g w w') (ho : w.ownsRow b e size v n xs) (he : e ≠ 5) (hne : v.ownBlock ≠ some g) : w'.ownsRow b e size v n xs := by
  obtain ⟨h1, h2⟩ := ho
  refine ⟨h1, ?_⟩
  rcases h2 with h2 | ⟨k, cap, cur, rfl, hb, hh, r⟩
  · exact .inl h2
  · exact .inr ⟨k, cap, cur, rfl, hb, h.keep k cur e (0, 0) hh he (fun e => hne (by rw [e]; rfl)), r⟩
theorem own_ne_w {w : World} {base b g : Nat} {s : WS} {size n : Nat} {v : Value} {xs : List Value} (ho : w.ownsRow b 3 size v n xs) (hO : WObj w base g s) : v.ownBlock ≠ some g := by
  obtain ⟨_, vv, hb, _⟩ := hO
  exact own_ne ho hb (by decide)
theorem WObj.grown {w w' : World} {base g : Nat} {s : WS} {row : Option Nat} (hO : WObj w base g s) (hg : w.grownBy w' row) (ht : ∀ k, row = some k → ∃ cs, w.heap[k]? = some (.cells cs 3 (0, 0))) (hne : row ≠ some g) : WObj w' base g s := by
  obtain ⟨hn, v, hb, ho⟩ := hO
  refine ⟨hn, v, hb.grown hg hne, ho.kept hg ?_⟩
  cases hv : v.ownBlock with
  | none => exact .inl rfl
  | some k =>
    right
    intro e
    obtain ⟨cs, h1⟩ := ht k e.symm
    obtain ⟨cs', h2⟩ := own_typ ho k hv
    rw [h1] at h2
    injection h2 with h3
    injection h3 with _ h4 _
    exact absurd h4 (by decide)

theorem mask_s (v : Int) (s : Nat) (hs : s ≤ 24) : bits .and .i64 v (2 ^ s - 1) = (((v % 2 ^ s).toNat : Nat) : Int) := by
  have hp : (0 : Int) < 2 ^ s := Int.pow_pos (by decide)
  have h0 := Int.emod_nonneg v (show (2 : Int) ^ s ≠ 0 by omega)
  rw [and_mask .i64 s (by show s < 64; omega) v, Int.toNat_of_nonneg h0]

set_option maxRecDepth 100000 in
set_option maxHeartbeats 4000000 in
theorem literalsLaw_main (A Al : Option Addr) (cap capl n : Nat) (vs zs : List Int) (w : World) (hT : Luts w) (hn : (n : Int) ≤ 4096) (hvl : vs.length = n) (hL : Lits zs n) (hB : litsB zs n = true)
    (hr : Rd .i64 w w.heap.size A vs) (hrl : Rd .i64 w w.heap.size Al zs) :
    Calls Tryd.prog 3 #[.slice A n cap, .slice Al n capl] w fun e w' => e = .returned (.bool true) ∧ Below w.heap.size w w' := by
  have hTl := hT.lt
  have cL := isLits_any Al capl n w.heap.size zs w hL.len (by omega) hrl
  rw [hB] at cL
  have hp := items_probs hL vs
  have hpl := items_len hL vs
  obtain ⟨hcod, hby, hdl⟩ := done_codes (items zs vs n) (hp n (Nat.le_refl _))
  replace hT := hide hT
  replace hr := hide hr
  replace hrl := hide hrl
  replace hL := hide hL
  replace cL := hide cL
  replace hp := hide hp
  replace hpl := hide hpl
  replace hcod := hide hcod
  replace hby := hide hby
  replace hdl := hide hdl
  replace hvl := hide hvl
  have g1 : ¬ (2147483647 : Int) < (n : Int) := by omega
  clear hB
  go_enter Tryd.func3, Tryd.ntmps3
  go_wp2_with fail
  (with_reducible refine (cL.out).mono ?_)
  rintro e w1 ⟨rfl, hw1⟩
  subst hw1
  go_wp2_with fail
  refine (newBoolWriter_any w.heap.size w (Nat.le_refl _)).mono ?_
  rintro e w1 ⟨g, rfl, hO1, hB1⟩
  replace hO1 := hide hO1
  replace hB1 := hide hB1
  go_wp2
  go_loopg [6, 7] n (fun k u6 u7 wr => ∃ m, k + m = n ∧ u7 = .int .i64 m ∧ wr.ownsRow w.heap.size 3 1 u6 m ((itemVs zs vs m).map (Value.int .i64)) ∧ WObj wr w.heap.size g (WS.start.puts (items zs vs m)) ∧ Below w.heap.size w wr)
  case atStart => exact ⟨0, rfl, rfl, ⟨rfl, .inl ⟨rfl, rfl⟩⟩, hO1.out, hB1.out⟩
  case round =>
    obtain ⟨m, hm, rfl, hown, hO, hB⟩ := hrel
    have hne := own_ne_w hown hO
    clear hO1 hB1 cL
    cases gk with
    | zero =>
      have hm' : m = n := by omega
      subst hm'
      have hinv := WS.puts_tells (items zs vs m) _ _ WS.start_tells Iv.start_ok (hp.out m (Nat.le_refl _))
      have hlen0 := puts_len' (items zs vs m) (hp.out m (Nat.le_refl _))
      have hpl0 := hpl.out m (Nat.le_refl _)
      have hinv2 := hide hinv.inv
      have hlen1 : (WS.start.puts (items zs vs m)).out.length ≤ 50000000 := by omega
      have hdl1 : ((WS.start.puts (items zs vs m)).done.length : Int) ≤ 100000000 := by have := hdl.out; omega
      have hVl := itemVs_len zs vs m
      replace hown := hide hown
      replace hO := hide hO
      replace hB := hide hB
      replace hne := hide hne
      replace hVl := hide hVl
      clear hinv hlen0 hpl0
      go_wp2_with fail
      refine (done_anyK w.heap.size g _ _ _ hinv2.out hlen1 hO.out).mono ?_
      rintro e w2 ⟨v2, rfl, hown2, hBl⟩
      obtain ⟨A2, c2, rfl, _, _⟩ := own_len hown2
      have hown1 := hide (hBl.own hown.out (by decide) hne.out)
      have hB2 := hide (hB.out.trans hBl.toBelow)
      have hR2 := hide (Rd.ofOwn hown2)
      clear hBl hown hB hO hown2
      go_wp2_with fail
      refine (literals_any A2 Al c2 capl m _ zs vs w2 hL.out hn hby.out hdl1 hcod.out hR2.out ((hrl.out.below hB2.out).more hB2.out.size) (hT.out.below hB2.out hTl)).mono ?_
      rintro e w3 ⟨v3, rfl, hown3, hb3⟩
      obtain ⟨A3, c3, rfl, _, _⟩ := own_len hown3
      obtain ⟨A1, c1, rfl, _, _⟩ := own_len hown1.out
      have hown1' := hide ((Upd.ofBelow (S := []) hb3).own hown1.out (by simp))
      have hB3 := hide (hB2.out.trans (hb3.mono hB2.out.size))
      have cI := ints_same A3 A1 c3 c1 (itemVs zs vs m) w3 _ _ (by have := hVl.out; omega) (Rd.ofOwn hown3) (Rd.ofOwn hown1'.out)
      rw [hVl.out] at cI
      replace cI := hide cI
      clear hown1 hown1' hown3 hb3 hB2 hR2
      go_wp2_with fail
      (with_reducible refine (cI.out).mono ?_)
      rintro e w4 ⟨rfl, n4, rfl⟩
      have hB4 := hide (below_drewN hB3.out n4)
      clear hB3 cI
      go_wp2_with fail
      (with_reducible refine (readBool_any _ (hT.out.below hB4.out hTl)).mono ?_)
      rintro e w5 ⟨rfl, hb5⟩
      have hB5 := hide (hB4.out.trans (hb5.mono hB4.out.size))
      clear hB4 hb5
      go_wp2
      go_ret
      exact ⟨rfl, hB5.out⟩
    | succ k =>
      have hlt : (m : Int) < (n : Int) := by omega
      have hzl := hL.out.len
      have hvl' := hvl.out
      obtain ⟨bb, off, rfl, hbb, hcell⟩ := hrl.out.at_ (j := 3 * m) (by omega)
      obtain ⟨bv, offv, rfl, hbv, hcellv⟩ := hr.out.at_ (j := m) (by omega)
      have k0 := (hB.cell (p := ⟨bb, off + 3 * m, none⟩) hbb).trans (hcell (3 * m) (by omega))
      have k1 := (hB.cell (p := ⟨bb, off + (3 * m + 1), none⟩) hbb).trans (hcell (3 * m + 1) (by omega))
      have k2 := (hB.cell (p := ⟨bb, off + (3 * m + 2), none⟩) hbb).trans (hcell (3 * m + 2) (by omega))
      have kv := (hB.cell (p := ⟨bv, offv + m, none⟩) hbv).trans (hcellv m (by omega))
      rw [show off + 3 * m = off + m * 3 by omega] at k0
      rw [show off + (3 * m + 1) = off + m * 3 + 1 by omega] at k1
      rw [show off + (3 * m + 2) = off + m * 3 + 2 by omega] at k2
      have gc := hL.out.c m (by omega)
      have gp := hL.out.p m (by omega)
      have gs := hL.out.s m (by omega)
      have hVs := itemVs_succ zs vs m
      have hIs : items zs vs (m + 1) = items zs vs m ++ item zs vs m := rfl
      have hdn := hp.out m (by omega)
      have hdl2 := hpl.out m (by omega)
      unfold itemV at hVs
      unfold item at hIs
      clear hcell hcellv hzl hvl'
      generalize zs.getD (3 * m) 0 = ci at *
      generalize zs.getD (3 * m + 1) 0 = pi at *
      generalize zs.getD (3 * m + 2) 0 = si at *
      generalize vs.getD m 0 = v at *
      obtain ⟨c, rfl⟩ := Int.eq_ofNat_of_zero_le gc.1
      obtain ⟨p, rfl⟩ := Int.eq_ofNat_of_zero_le gp.1
      obtain ⟨s, rfl⟩ := Int.eq_ofNat_of_zero_le gs.1
      simp only [Int.toNat_natCast] at hVs hIs
      have hs24 : s ≤ 24 := by omega
      have hp255 : p ≤ 255 := by omega
      have gp2 := gp.2
      have gs2 := gs.2
      have hmask := mask_s v s hs24
      have hpw : (1 : Int) ≤ 2 ^ s ∧ (2 : Int) ^ s ≤ 16777216 := by
        have h1 : (0 : Int) < 2 ^ s := Int.pow_pos (by decide)
        have h2 : (2 : Nat) ^ s ≤ 2 ^ 24 := Nat.pow_le_pow_right (by decide) hs24
        have h3 := Int.ofNat_le.2 h2
        simp at h3
        omega
      obtain ⟨hpw1, hpw2⟩ := hpw
      have hx := mod_bd v s hs24
      have hx24 : (((v % 2 ^ s).toNat : Nat) : Int) ≤ 16777215 := by omega
      have hc3 : c = 0 ∨ c = 1 ∨ c = 2 := by omega
      have hwr := hB.size
      replace hown := hide hown
      replace hB := hide hB
      replace hO := hide hO
      replace hne := hide hne
      replace hdn := hide hdn
      clear gc gp gs hx
      rcases hc3 with rfl | rfl | rfl
      · rw [itemEv0] at hIs
        rw [itemVal_zero] at hVs
        generalize (v % 2 ^ s).toNat = x at *
        replace hVs := hide hVs
        replace hIs := hide hIs
        go_wp2
        go_quiet (fail)
        go_wp2_with fail
        (with_reducible refine (number_ev w.heap.size g x p s (items zs vs m) _ hx24 hs24 hdn.out (by omega) hp255 (WObj.drewN hO.out _)).mono ?_)
        rintro e w2 ⟨rfl, hO2, hBl⟩
        have hown2 := hide (hBl.own (own_drewN hown.out _) (by decide) hne.out)
        have hne2 := hide (own_ne_w hown2.out hO2)
        have hB2 := hide (Below.trans (below_drewN hB.out _) hBl.toBelow)
        replace k0 := (hBl.toBelow.cell (p := ⟨bb, off + m * 3, none⟩) hbb).trans k0
        replace k2 := (hBl.toBelow.cell (p := ⟨bb, off + m * 3 + 2, none⟩) hbb).trans k2
        replace kv := (hBl.toBelow.cell (p := ⟨bv, offv + m, none⟩) hbv).trans kv
        replace hO2 := hide hO2
        clear hBl hown hB hO
        have hsz := hB2.out.size
        go_wp2_with (at_builtin; refine wpList_push rfl (.tmp 101) (.tmp 103) _ rfl w.heap.size 3 _ 8 Tryd.underlying22 info_int rfl u6 m _ rfl hown2.out _ rfl rfl (by simp only [maxLen]; omega) (by omega) hsz ?_; intro v' w9 hown9 hg9; replace hown9 := hide hown9; replace hg9 := hide hg9)
        go_roundg k
        case measure => omega
        case rel =>
          refine ⟨m + 1, by omega, by go_num, by rw [hVs.out]; simpa using hown9.out, ?_, hB2.out.grown hg9.out hsz (fun k hk => (hown2.out.lt k hk).1)⟩
          rw [hIs.out]
          have hO9 := hO2.out.grown hg9.out (own_typ hown2.out) hne2.out
          simpa [bitsOf] using hO9
      · rw [itemEv1] at hIs
        rw [itemVal_sign 1 s v (by decide)] at hVs
        generalize (v % 2 ^ s).toNat = x at *
        unfold signEv at hIs
        by_cases hv : v < 0
        · simp only [hv, decide_true, if_true, Bool.false_eq_true, if_false] at hVs hIs
          have hvd := decide_eq_true hv
          replace hVs := hide hVs
          replace hIs := hide hIs
          go_wp2
          go_quiet (fail)
          go_wp2_with fail
          (with_reducible refine (number_ev w.heap.size g x p s (items zs vs m) _ hx24 hs24 hdn.out (by omega) hp255 (WObj.drewN hO.out _)).mono ?_)
          rintro e w2 ⟨rfl, hO2, hBl⟩
          have hown2 := hide (hBl.own (own_drewN hown.out _) (by decide) hne.out)
          have hne2 := hide (own_ne_w hown2.out hO2)
          have hB2 := hide (Below.trans (below_drewN hB.out _) hBl.toBelow)
          replace k0 := (hBl.toBelow.cell (p := ⟨bb, off + m * 3, none⟩) hbb).trans k0
          replace k2 := (hBl.toBelow.cell (p := ⟨bb, off + m * 3 + 2, none⟩) hbb).trans k2
          replace kv := (hBl.toBelow.cell (p := ⟨bv, offv + m, none⟩) hbv).trans kv
          replace hO2 := hide hO2
          clear hBl hown hB hO
          go_wp2_with fail
          (with_reducible refine (put_ev w.heap.size g ((items zs vs m) ++ bitsOf x p s) true p _ (hdn.out.append (bitsOf_probs x p s hp255)) (by simp [bitsOf_len]; omega) hp255 hO2.out).mono ?_)
          rintro e w3 ⟨rfl, hO3, hBl⟩
          have hown3 := hide (hBl.own hown2.out (by decide) hne2.out)
          have hne3 := hide (own_ne_w hown3.out hO3)
          have hB3 := hide (Below.trans hB2.out hBl.toBelow)
          replace k0 := (hBl.toBelow.cell (p := ⟨bb, off + m * 3, none⟩) hbb).trans k0
          replace k2 := (hBl.toBelow.cell (p := ⟨bb, off + m * 3 + 2, none⟩) hbb).trans k2
          replace kv := (hBl.toBelow.cell (p := ⟨bv, offv + m, none⟩) hbv).trans kv
          replace hO3 := hide hO3
          clear hBl hown2 hne2 hB2 hO2
          have hsz := hB3.out.size
          go_wp2_with (at_builtin; refine wpList_push rfl (.tmp 101) (.tmp 103) _ rfl w.heap.size 3 _ 8 Tryd.underlying22 info_int rfl u6 m _ rfl hown3.out _ rfl rfl (by simp only [maxLen]; omega) (by omega) hsz ?_; intro v' w9 hown9 hg9; replace hown9 := hide hown9; replace hg9 := hide hg9)
          go_roundg k
          case measure => omega
          case rel =>
            refine ⟨m + 1, by omega, by go_num, by rw [hVs.out]; simpa using hown9.out, ?_, hB3.out.grown hg9.out hsz (fun k hk => (hown3.out.lt k hk).1)⟩
            rw [hIs.out]
            have hO9 := hO3.out.grown hg9.out (own_typ hown3.out) hne3.out
            simpa [bitsOf] using hO9
        · simp only [hv, decide_false, if_true, Bool.false_eq_true, if_false] at hVs hIs
          have hvd := decide_eq_false hv
          replace hVs := hide hVs
          replace hIs := hide hIs
          go_wp2
          go_quiet (fail)
          go_wp2_with fail
          (with_reducible refine (number_ev w.heap.size g x p s (items zs vs m) _ hx24 hs24 hdn.out (by omega) hp255 (WObj.drewN hO.out _)).mono ?_)
          rintro e w2 ⟨rfl, hO2, hBl⟩
          have hown2 := hide (hBl.own (own_drewN hown.out _) (by decide) hne.out)
          have hne2 := hide (own_ne_w hown2.out hO2)
          have hB2 := hide (Below.trans (below_drewN hB.out _) hBl.toBelow)
          replace k0 := (hBl.toBelow.cell (p := ⟨bb, off + m * 3, none⟩) hbb).trans k0
          replace k2 := (hBl.toBelow.cell (p := ⟨bb, off + m * 3 + 2, none⟩) hbb).trans k2
          replace kv := (hBl.toBelow.cell (p := ⟨bv, offv + m, none⟩) hbv).trans kv
          replace hO2 := hide hO2
          clear hBl hown hB hO
          go_wp2_with fail
          (with_reducible refine (put_ev w.heap.size g ((items zs vs m) ++ bitsOf x p s) false p _ (hdn.out.append (bitsOf_probs x p s hp255)) (by simp [bitsOf_len]; omega) hp255 hO2.out).mono ?_)
          rintro e w3 ⟨rfl, hO3, hBl⟩
          have hown3 := hide (hBl.own hown2.out (by decide) hne2.out)
          have hne3 := hide (own_ne_w hown3.out hO3)
          have hB3 := hide (Below.trans hB2.out hBl.toBelow)
          replace k0 := (hBl.toBelow.cell (p := ⟨bb, off + m * 3, none⟩) hbb).trans k0
          replace k2 := (hBl.toBelow.cell (p := ⟨bb, off + m * 3 + 2, none⟩) hbb).trans k2
          replace kv := (hBl.toBelow.cell (p := ⟨bv, offv + m, none⟩) hbv).trans kv
          replace hO3 := hide hO3
          clear hBl hown2 hne2 hB2 hO2
          have hsz := hB3.out.size
          go_wp2_with (at_builtin; refine wpList_push rfl (.tmp 101) (.tmp 103) _ rfl w.heap.size 3 _ 8 Tryd.underlying22 info_int rfl u6 m _ rfl hown3.out _ rfl rfl (by simp only [maxLen]; omega) (by omega) hsz ?_; intro v' w9 hown9 hg9; replace hown9 := hide hown9; replace hg9 := hide hg9)
          go_roundg k
          case measure => omega
          case rel =>
            refine ⟨m + 1, by omega, by go_num, by rw [hVs.out]; simpa using hown9.out, ?_, hB3.out.grown hg9.out hsz (fun k hk => (hown3.out.lt k hk).1)⟩
            rw [hIs.out]
            have hO9 := hO3.out.grown hg9.out (own_typ hown3.out) hne3.out
            simpa [bitsOf] using hO9
      · rw [itemEv2] at hIs
        rw [itemVal_sign 2 s v (by decide)] at hVs
        generalize (v % 2 ^ s).toNat = x at *
        unfold optEv signEv at hIs
        by_cases hx0 : x = 0
        · subst hx0
          have hVs0 : itemVs zs vs (m + 1) = itemVs zs vs m ++ [0] := by rw [hVs]; split <;> rfl
          simp only [if_true] at hIs
          replace hVs := hide hVs0
          replace hIs := hide hIs
          clear hVs0
          simp only [Int.natCast_zero, Int.ofNat_eq_natCast] at hmask hx24
          go_wp2
          go_quiet (fail)
          go_wp2_with fail
          (with_reducible refine (put_ev w.heap.size g (items zs vs m) false p _ hdn.out (by omega) hp255 (WObj.drewN hO.out _)).mono ?_)
          rintro e w2 ⟨rfl, hO2, hBl⟩
          have hown2 := hide (hBl.own (own_drewN hown.out _) (by decide) hne.out)
          have hne2 := hide (own_ne_w hown2.out hO2)
          have hB2 := hide (Below.trans (below_drewN hB.out _) hBl.toBelow)
          replace k0 := (hBl.toBelow.cell (p := ⟨bb, off + m * 3, none⟩) hbb).trans k0
          replace k2 := (hBl.toBelow.cell (p := ⟨bb, off + m * 3 + 2, none⟩) hbb).trans k2
          replace kv := (hBl.toBelow.cell (p := ⟨bv, offv + m, none⟩) hbv).trans kv
          replace hO2 := hide hO2
          clear hBl hown hB hO
          have hsz := hB2.out.size
          go_wp2_with (at_builtin; refine wpList_push rfl (.tmp 68) (.tmp 69) _ rfl w.heap.size 3 _ 8 Tryd.underlying22 info_int rfl u6 m _ rfl hown2.out _ rfl rfl (by simp only [maxLen]; omega) (by omega) hsz ?_; intro v' w9 hown9 hg9; replace hown9 := hide hown9; replace hg9 := hide hg9)
          go_roundg k
          case measure => omega
          case rel =>
            refine ⟨m + 1, by omega, by go_num, by rw [hVs.out]; simpa using hown9.out, ?_, hB2.out.grown hg9.out hsz (fun k hk => (hown2.out.lt k hk).1)⟩
            rw [hIs.out]
            have hO9 := hO2.out.grown hg9.out (own_typ hown2.out) hne2.out
            simpa [bitsOf] using hO9
        · simp only [hx0, if_false] at hIs
          have hxi : ((x : Int) == 0) = false := by simp; omega
          have hxn : ((x : Int) != 0) = true := by simp; omega
          by_cases hv : v < 0
          · simp only [hv, decide_true, if_true, Bool.false_eq_true, if_false] at hVs hIs
            have hvd := decide_eq_true hv
            replace hVs := hide hVs
            replace hIs := hide hIs
            go_wp2
            go_quiet (fail)
            go_wp2_with fail
            (with_reducible refine (put_ev w.heap.size g (items zs vs m) true p _ hdn.out (by omega) hp255 (WObj.drewN hO.out _)).mono ?_)
            rintro e w2 ⟨rfl, hO2, hBl⟩
            have hown2 := hide (hBl.own (own_drewN hown.out _) (by decide) hne.out)
            have hne2 := hide (own_ne_w hown2.out hO2)
            have hB2 := hide (Below.trans (below_drewN hB.out _) hBl.toBelow)
            replace k0 := (hBl.toBelow.cell (p := ⟨bb, off + m * 3, none⟩) hbb).trans k0
            replace k2 := (hBl.toBelow.cell (p := ⟨bb, off + m * 3 + 2, none⟩) hbb).trans k2
            replace kv := (hBl.toBelow.cell (p := ⟨bv, offv + m, none⟩) hbv).trans kv
            replace hO2 := hide hO2
            clear hBl hown hB hO
            go_wp2_with fail
            (with_reducible refine (number_ev w.heap.size g x p s ((items zs vs m) ++ [(true, p)]) _ hx24 hs24 (hdn.out.append (Probs.one true p hp255)) (by simp [bitsOf_len]; omega) hp255 hO2.out).mono ?_)
            rintro e w3 ⟨rfl, hO3, hBl⟩
            have hown3 := hide (hBl.own hown2.out (by decide) hne2.out)
            have hne3 := hide (own_ne_w hown3.out hO3)
            have hB3 := hide (Below.trans hB2.out hBl.toBelow)
            replace k0 := (hBl.toBelow.cell (p := ⟨bb, off + m * 3, none⟩) hbb).trans k0
            replace k2 := (hBl.toBelow.cell (p := ⟨bb, off + m * 3 + 2, none⟩) hbb).trans k2
            replace kv := (hBl.toBelow.cell (p := ⟨bv, offv + m, none⟩) hbv).trans kv
            replace hO3 := hide hO3
            clear hBl hown2 hne2 hB2 hO2
            go_wp2_with fail
            (with_reducible refine (put_ev w.heap.size g (((items zs vs m) ++ [(true, p)]) ++ bitsOf x p s) true p _ ((hdn.out.append (Probs.one true p hp255)).append (bitsOf_probs x p s hp255)) (by simp [bitsOf_len]; omega) hp255 hO3.out).mono ?_)
            rintro e w4 ⟨rfl, hO4, hBl⟩
            have hown4 := hide (hBl.own hown3.out (by decide) hne3.out)
            have hne4 := hide (own_ne_w hown4.out hO4)
            have hB4 := hide (Below.trans hB3.out hBl.toBelow)
            replace k0 := (hBl.toBelow.cell (p := ⟨bb, off + m * 3, none⟩) hbb).trans k0
            replace k2 := (hBl.toBelow.cell (p := ⟨bb, off + m * 3 + 2, none⟩) hbb).trans k2
            replace kv := (hBl.toBelow.cell (p := ⟨bv, offv + m, none⟩) hbv).trans kv
            replace hO4 := hide hO4
            clear hBl hown3 hne3 hB3 hO3
            have hsz := hB4.out.size
            go_wp2_with (at_builtin; refine wpList_push rfl (.tmp 101) (.tmp 103) _ rfl w.heap.size 3 _ 8 Tryd.underlying22 info_int rfl u6 m _ rfl hown4.out _ rfl rfl (by simp only [maxLen]; omega) (by omega) hsz ?_; intro v' w9 hown9 hg9; replace hown9 := hide hown9; replace hg9 := hide hg9)
            go_roundg k
            case measure => omega
            case rel =>
              refine ⟨m + 1, by omega, by go_num, by rw [hVs.out]; simpa using hown9.out, ?_, hB4.out.grown hg9.out hsz (fun k hk => (hown4.out.lt k hk).1)⟩
              rw [hIs.out]
              have hO9 := hO4.out.grown hg9.out (own_typ hown4.out) hne4.out
              simpa [bitsOf] using hO9
          · simp only [hv, decide_false, if_true, Bool.false_eq_true, if_false] at hVs hIs
            have hvd := decide_eq_false hv
            replace hVs := hide hVs
            replace hIs := hide hIs
            go_wp2
            go_quiet (fail)
            go_wp2_with fail
            (with_reducible refine (put_ev w.heap.size g (items zs vs m) true p _ hdn.out (by omega) hp255 (WObj.drewN hO.out _)).mono ?_)
            rintro e w2 ⟨rfl, hO2, hBl⟩
            have hown2 := hide (hBl.own (own_drewN hown.out _) (by decide) hne.out)
            have hne2 := hide (own_ne_w hown2.out hO2)
            have hB2 := hide (Below.trans (below_drewN hB.out _) hBl.toBelow)
            replace k0 := (hBl.toBelow.cell (p := ⟨bb, off + m * 3, none⟩) hbb).trans k0
            replace k2 := (hBl.toBelow.cell (p := ⟨bb, off + m * 3 + 2, none⟩) hbb).trans k2
            replace kv := (hBl.toBelow.cell (p := ⟨bv, offv + m, none⟩) hbv).trans kv
            replace hO2 := hide hO2
            clear hBl hown hB hO
            go_wp2_with fail
            (with_reducible refine (number_ev w.heap.size g x p s ((items zs vs m) ++ [(true, p)]) _ hx24 hs24 (hdn.out.append (Probs.one true p hp255)) (by simp [bitsOf_len]; omega) hp255 hO2.out).mono ?_)
            rintro e w3 ⟨rfl, hO3, hBl⟩
            have hown3 := hide (hBl.own hown2.out (by decide) hne2.out)
            have hne3 := hide (own_ne_w hown3.out hO3)
            have hB3 := hide (Below.trans hB2.out hBl.toBelow)
            replace k0 := (hBl.toBelow.cell (p := ⟨bb, off + m * 3, none⟩) hbb).trans k0
            replace k2 := (hBl.toBelow.cell (p := ⟨bb, off + m * 3 + 2, none⟩) hbb).trans k2
            replace kv := (hBl.toBelow.cell (p := ⟨bv, offv + m, none⟩) hbv).trans kv
            replace hO3 := hide hO3
            clear hBl hown2 hne2 hB2 hO2
            go_wp2_with fail
            (with_reducible refine (put_ev w.heap.size g (((items zs vs m) ++ [(true, p)]) ++ bitsOf x p s) false p _ ((hdn.out.append (Probs.one true p hp255)).append (bitsOf_probs x p s hp255)) (by simp [bitsOf_len]; omega) hp255 hO3.out).mono ?_)
            rintro e w4 ⟨rfl, hO4, hBl⟩
            have hown4 := hide (hBl.own hown3.out (by decide) hne3.out)
            have hne4 := hide (own_ne_w hown4.out hO4)
            have hB4 := hide (Below.trans hB3.out hBl.toBelow)
            replace k0 := (hBl.toBelow.cell (p := ⟨bb, off + m * 3, none⟩) hbb).trans k0
            replace k2 := (hBl.toBelow.cell (p := ⟨bb, off + m * 3 + 2, none⟩) hbb).trans k2
            replace kv := (hBl.toBelow.cell (p := ⟨bv, offv + m, none⟩) hbv).trans kv
            replace hO4 := hide hO4
            clear hBl hown3 hne3 hB3 hO3
            have hsz := hB4.out.size
            go_wp2_with (at_builtin; refine wpList_push rfl (.tmp 101) (.tmp 103) _ rfl w.heap.size 3 _ 8 Tryd.underlying22 info_int rfl u6 m _ rfl hown4.out _ rfl rfl (by simp only [maxLen]; omega) (by omega) hsz ?_; intro v' w9 hown9 hg9; replace hown9 := hide hown9; replace hg9 := hide hg9)
            go_roundg k
            case measure => omega
            case rel =>
              refine ⟨m + 1, by omega, by go_num, by rw [hVs.out]; simpa using hown9.out, ?_, hB4.out.grown hg9.out hsz (fun k hk => (hown4.out.lt k hk).1)⟩
              rw [hIs.out]
              have hO9 := hO4.out.grown hg9.out (own_typ hown4.out) hne4.out
              simpa [bitsOf] using hO9

set_option maxRecDepth 100000 in
set_option maxHeartbeats 2000000 in
/-- The law, for every argument. -/
theorem literalsLaw_any (A Al : Option Addr) (cap capl n : Nat) (vs zs : List Int) (w : World) (hT : Luts w) (hv : vs.length ≤ 9223372036854775807) (hn : n ≤ 9223372036854775807) (hz : zs.length = n * 3)
    (hr : Rd .i64 w w.heap.size A vs) (hrl : Rd .i64 w w.heap.size Al zs) :
    Calls Tryd.prog 3 #[.slice A vs.length cap, .slice Al n capl] w fun e w' => e = .returned (.bool true) ∧ Below w.heap.size w w' := by
  by_cases c1 : (2147483647 : Int) < (vs.length : Int)
  · clear hr hrl hT
    go_enter Tryd.func3, Tryd.ntmps3
    go_wp2
    go_ret
    exact ⟨rfl, Below.refl _ _⟩
  by_cases c2 : (2147483647 : Int) < (n : Int)
  · clear hr hrl hT
    go_enter Tryd.func3, Tryd.ntmps3
    go_wp2
    go_ret
    exact ⟨rfl, Below.refl _ _⟩
  have cR := hide (readBool_any w hT)
  have cL := isLits_any Al capl n w.heap.size zs w hz (by omega) hrl
  cases hB : litsB zs n
  · rw [hB] at cL
    replace cL := hide cL
    clear hr hrl hT hz hB
    go_enter Tryd.func3, Tryd.ntmps3
    go_wp2_with fail
    (with_reducible refine (cL.out).mono ?_)
    rintro e w1 ⟨rfl, hw1⟩
    subst hw1
    go_wp2_with fail
    (with_reducible refine (cR.out).mono ?_)
    rintro e w2 ⟨rfl, hb2⟩
    go_wp2
    go_ret
    exact ⟨rfl, hb2⟩
  have hB' := hB
  simp only [litsB, Bool.and_eq_true, decide_eq_true_eq] at hB'
  by_cases c4 : vs.length = n
  · have hm := literalsLaw_main A Al cap capl n vs zs w hT hB'.1 c4 (lits_of hz hB'.2) hB hr hrl
    rw [c4]
    exact hm
  · have c5 : ¬ (vs.length : Int) = (n : Int) := by omega
    rw [hB] at cL
    replace cL := hide cL
    clear hr hrl hT hz hB hB' c4
    go_enter Tryd.func3, Tryd.ntmps3
    go_wp2_with fail
    (with_reducible refine (cL.out).mono ?_)
    rintro e w1 ⟨rfl, hw1⟩
    subst hw1
    go_wp2_with fail
    (with_reducible refine (cR.out).mono ?_)
    rintro e w2 ⟨rfl, hb2⟩
    go_wp2
    go_ret
    exact ⟨rfl, hb2⟩
end Go.Proofs.YthbidebcljegjaaDoor

/- 'hTree.insert', long codes: the walk. -/
import Derived.Test.YtpiapfahcoopbaaDoorInsDef
import Derived.BigRegion
import Derived.Deep.DeepCutAuto
import Derived.Deep.CutBlock
namespace Go.Proofs.YtpiapfahcoopbaaDoor
set_option linter.unusedSimpArgs false
set_option linter.unusedVariables false
open Go.RowKit Plain

set_option maxRecDepth 100000 in
set_option maxHeartbeats 8000000 in
theorem insert_long (g nb cap k l c : Nat) (L : List Nat) (ns : List Nd) (lt : Nat → Nat) (ae : Addr) (w : World) (hL : ∀ x ∈ L, x ≤ 15) (hk : kS L 15 ≤ 32768) (hU : Used L k) (hk4 : k < 4096) (hl : L.getD k 0 = l) (hc : c % 2 ^ l = codeG L k) (hcb : c ≤ 268500000) (hT : Tree L k ns) (hLu : LutK L k ns lt) (hM : TreeM w g nb cap ns lt) (hcap : cap ≤ 8191) (hcz : cap = 2 * nz L - 1) (hTab : TabH w ae)
    (hg1 : g ≠ 4) (hg2 : g ≠ 2) (hn1 : nb ≠ 4) (hn2 : nb ≠ 2) (h7 : ¬ l ≤ 7) :
    Calls Tryd.prog 67 #[.pointer (some ⟨g, 0, none⟩), .int .u32 k, .int .u32 c, .int .u32 l] w (InsPost g nb cap k L ae w) := by
  have hl15 : l ≤ 15 := by rw [← hl]; exact getD_mem_le hL k
  have hl1 : 1 ≤ l := by have := hU.ne; omega
  have hk4I : (k : Int) < 4096 := by omega
  have hl15I : (l : Int) ≤ 15 := by omega
  have hl1I : (1 : Int) ≤ (l : Int) := by omega
  have hcbI : (c : Int) ≤ 268500000 := by omega
  have hk65 : ¬ (65535 : Int) < (k : Int) := by omega
  have hl254 : ¬ (254 : Int) < (l : Int) := by omega
  have hm255 := and255
  have hm1 := and1
  have hgn := hM.ne
  have hgn' : ¬ nb = g := fun e => hgn e.symm
  have hcode := code_lt hL hk hU
  rw [hl] at hcode
  replace hcode := hide hcode
  replace hT := hide hT
  replace hLu := hide hLu
  replace hTab := hide hTab
  replace hU := hide hU
  replace hc := hide hc
  replace hl := hide hl
  replace hL := hide hL
  replace hk := hide hk
  replace hM := hide hM
  replace hcz := hide hcz
  have h7I : (7 : Int) < (l : Int) := by omega
  have hx := hTab.out.rev (c / 2 ^ (l - 7) % 256) (Nat.mod_lt _ (by decide))
  have eI : ((c : Int) / 2 ^ (l - 7) % 256).toNat = c / 2 ^ (l - 7) % 256 := by
    have : (c : Int) / 2 ^ (l - 7) % 256 = ((c / 2 ^ (l - 7) % 256 : Nat) : Int) := by simp
    rw [this, Int.toNat_natCast]
  have eV : ((revN (c / 2 ^ (l - 7) % 256) 8 : Nat) : Int) / 2 = ((revN (c / 2 ^ (l - 7)) 7 : Nat) : Int) := by
    have e1 : revN (c / 2 ^ (l - 7) % 256) 8 = revN (c / 2 ^ (l - 7)) 8 := revN_mod _ 8 8 (Nat.le_refl _)
    rw [e1, ← revN_div' (c / 2 ^ (l - 7)) (show 7 ≤ 8 by decide), Int.natCast_ediv]
    simp
  have hr8 : ((revN (c / 2 ^ (l - 7) % 256) 8 : Nat) : Int) < 256 := by have := revN_lt (c / 2 ^ (l - 7) % 256) 8; omega
  have hbk : codeG L k / 2 ^ (l - 7) = revN (revN (c / 2 ^ (l - 7)) 7) 7 := by
    rw [revN_back _ 7 (by decide), ← hc.out, pow_mod_div c l (l - 7) (by omega), show l - (l - 7) = 7 by omega]
  have hx128 : revN (c / 2 ^ (l - 7)) 7 < 128 := revN_lt _ _
  generalize revN (c / 2 ^ (l - 7) % 256) 8 = r8 at *
  generalize hgx : revN (c / 2 ^ (l - 7)) 7 = x0 at *
  replace hgx := hide hgx
  replace hbk := hide hbk
  have hLs0 : LutS L k 0 ns lt := by
    unfold LutS
    rw [if_neg (by rw [hl.out]; omega)]
    exact hLu.out
  replace hLs0 := hide hLs0
  have hxl : 7 < l → codeG L k / 2 ^ (l - 7) = revN x0 7 := fun _ => hbk.out
  have hxs : l ≤ 7 → revN x0 l = codeG L k := fun h => by omega
  clear hLu
  go_enter Tryd.func67, Tryd.ntmps67
  go_wp2
  clear hx eI eV hr8
  have hx128n : x0 < 128 := by rw [← hgx.out]; exact revN_lt _ _
  have hx128b : ((x0 : Nat) : Int) < 128 := by omega
  replace hxl := hide hxl
  replace hxs := hide hxs
  obtain ⟨rt, hrt1, hrt2, hrt3⟩ := hT.out.root
  go_loopg [3, 11, 12] l (fun r u3 u11 u12 wr => ∃ (n d : Nat) (ns' : List Nd) (nd : Nd) (lt' : Nat → Nat), r + d = l ∧ u3 = .int .u32 (r : Nat) ∧ u11 = .int .u32 (n : Nat) ∧ u12 = .int .i64 (7 - (d : Int)) ∧ ns'[n]? = some nd ∧ nd.d = d ∧ nd.v = codeG L k / 2 ^ r ∧ Tree L k ns' ∧ LutS L k d ns' lt' ∧ TreeM wr g nb cap ns' lt' ∧ Upd [g, nb] w wr)
  case atStart => exact ⟨0, 0, ns, rt, lt, rfl, rfl, rfl, rfl, hrt1, hrt2, by rw [hrt3, Nat.div_eq_of_lt hcode.out], hT.out, hLs0.out, hM.out, Upd.refl _ _⟩
  case round =>
    obtain ⟨n, d, ns', nd, lt', hrd, rfl, rfl, rfl, hn, hnd, hnv, hT', hLs, hM', hUp'⟩ := hrel
    clear hrt1 hrt2 hrt3 hLs0 hM
    have hmem : nd ∈ ns' := List.mem_of_getElem? hn
    have hnl := (List.getElem?_eq_some_iff.1 hn).1
    have hnlI : (n : Int) < (ns'.length : Int) := by omega
    have hnlN : ¬ (ns'.length : Int) < (n : Int) := by omega
    have hle := hM'.le
    have hn0 : (0 : Int) ≤ (n : Int) := by omega
    have hle' : (ns'.length : Int) ≤ 8191 := by omega
    have kSl := hM'.sl
    have kCh := hM'.ch hn
    have kLf := no_leaf hT' hU.out hl.out hmem hrd hnd hnv
    cases gk with
    | zero =>
      have hd : d = l := by omega
      subst hd
      rw [Nat.pow_zero, Nat.div_one] at hnv
      have h0 : nd.ch = 0 := by
        have h1 := no_inner hT' hU.out hl.out hmem hnd hnv
        rcases hT'.kind nd hmem with e | e | e
        · exact absurd e kLf
        · exact e
        · exact absurd e.1 h1
      rw [h0] at kCh
      have hT2 := hT'.settle hU.out hn h0 (by rw [hnd, hl.out]) hnv
      have hfin : LutK L (k + 1) ns' lt' := by
        unfold LutS at hLs
        rw [if_pos (by rw [hl.out]; omega)] at hLs
        exact hLs
      have hL2 := hfin.move (Tree.grow_label (s := k) hn)
      have hf1 := hM'.fnd (n * 2 + 1)
      have hf0 := hM'.fnd (n * 2)
      have kSy := hM'.sym hn
      have hM2' := hM'.grow hn k
      have hU2 := (hUp'.setCell (p := ⟨nb, n * 2 + 1, none⟩) (.inl (by simp)) (.int .i32 (-1))).setCell (p := ⟨nb, n * 2, none⟩) (.inl (by simp)) (.int .u32 k)
      replace hM2' := hide hM2'
      replace hU2 := hide hU2
      replace hT2 := hide hT2
      replace hL2 := hide hL2
      replace hrd := hide hrd
      clear hLs hfin hM' hUp' hnd hnv h0 hT'
      go_wp2
      go_ret
      exact ⟨hU2.out, .inl ⟨rfl, _, _, hT2.out, hL2.out, hM2'.out⟩⟩
    | succ r =>
      have e3 : ((r + 1 : Nat) : Int) - 1 = (r : Int) := by omega
      have hr0 : (0 : Int) < ((r + 1 : Nat) : Int) := by omega
      have hrb : ((r + 1 : Nat) : Int) ≤ 15 := by omega
      have hr15 : (r : Int) ≤ 15 := by omega
      have hr00 : (0 : Int) ≤ (r : Int) := by omega
      have hd00 : (0 : Int) ≤ (d : Int) := by omega
      have hd15 : (d : Int) ≤ 15 := by omega
      have hbit : (c : Int) / 2 ^ r % 2 = ((c / 2 ^ r % 2 : Nat) : Int) := by simp
      have hbitv : c / 2 ^ r % 2 = codeG L k / 2 ^ r % 2 := by rw [← hc.out, bit_mod c (show r < l by omega)]
      have hbitl : c / 2 ^ r % 2 < 2 := Nat.mod_lt _ (by decide)
      have hstep := begin_step (codeG L k) r
      rw [← hbitv, ← hnv] at hstep
      have hcl := hM'.lut x0 hx128n
      have hcf := hM'.fsl (1 + x0)
      generalize c / 2 ^ r % 2 = bit at *
      have hbitI : ((bit : Nat) : Int) < 2 := by omega
      have htop := begin_bd hU.out hl.out hrd (Nat.succ_pos r)
      rw [← hnv, ← hnd] at htop
      by_cases hpos : 0 < nd.ch
      · obtain ⟨c1, hc1⟩ : ∃ c1 : Nat, nd.ch = (c1 : Int) := ⟨nd.ch.toNat, by omega⟩
        obtain ⟨a, b, ha, hb, ha1, ha2, hb1, hb2⟩ := hT'.kids nd hmem c1 hc1 (by omega)
        have hc1b : c1 + 1 < ns'.length := (List.getElem?_eq_some_iff.1 hb).1
        have hc1I : (0 : Int) < (c1 : Int) := by omega
        have hc1J : (c1 : Int) ≤ 8191 := by omega
        have hq1 : ((c1 : Int) == -1) = false := by simp <;> omega
        have hq0 : ((c1 : Int) == 0) = false := by simp <;> omega
        rw [hc1] at kCh
        obtain ⟨nx, hnx, hx1, hx2⟩ : ∃ nx, ns'[c1 + bit]? = some nx ∧ nx.d = d + 1 ∧ nx.v = codeG L k / 2 ^ r := by
          rcases (by omega : bit = 0 ∨ bit = 1) with e | e
          · subst e; exact ⟨a, ha, by omega, by omega⟩
          · subst e; exact ⟨b, hb, by omega, by omega⟩
        have hi0 : 0 < c1 + bit := by omega
        have hCB : (c1 : Int) + (bit : Int) = ((c1 + bit : Nat) : Int) := by omega
        have hCBb : ((c1 + bit : Nat) : Int) ≤ 8192 := by omega
        generalize hcb9 : c1 + bit = n9 at *
        replace hcb9 := hide hcb9
        replace hnx := hide hnx
        replace hx1 := hide hx1
        replace hx2 := hide hx2
        replace hT' := hide hT'
        replace hM' := hide hM'
        replace hUp' := hide hUp'
        replace hstep := hide hstep
        replace hbitv := hide hbitv
        replace htop := hide htop
        replace hnd := hide hnd
        replace hnv := hide hnv
        replace hn := hide hn
        replace hc1 := hide hc1
        replace ha := hide ha
        replace hb := hide hb
        clear ha1 ha2 hb1 hb2 hmem kLf hpos
        by_cases h6 : d + 1 = 7
        · have hj0 : (7 - (d : Int) - 1 == 0) = true := by simp <;> omega
          have hd7 : d = 6 := by omega
          by_cases hz : lt' x0 = 0
          · have hL7 : LutS L k (d + 1) ns' (fun y => if y = x0 then n9 * 256 else lt' y) := by
              unfold LutS at hLs ⊢
              rw [if_pos (.inr (by omega))]
              by_cases h7c : l ≤ 7
              · rw [if_pos (.inl (by rw [hl.out]; exact h7c))] at hLs
                have := hLs.short x0 k hx128n hU.out (Nat.lt_succ_self _) (by rw [hl.out]; exact h7c) (by rw [hl.out]; exact hxs.out h7c)
                omega
              · rw [if_neg (by rw [hl.out]; omega)] at hLs
                have hcx := hxl.out (by omega)
                refine hLs.point hU.out (by rw [hl.out]; omega) x0 n9 nx hx128n (by rw [hl.out]; exact hcx) hnx.out hi0 (by have := hx1.out; omega) (by rw [hx2.out, ← hcx]; congr 2; omega) _ (fun x hx => ?_)
                by_cases hxx : x = x0
                · rw [if_pos hxx, if_pos ⟨hxx, hz⟩]
                · rw [if_neg hxx, if_neg (fun h => hxx h.1)]
            have hsh8 : (n9 : Int) * 256 = ((n9 * 256 : Nat) : Int) := by omega
            have hsh8b : ((n9 * 256 : Nat) : Int) ≤ 2097152 := by omega
            rw [hz] at hcl
            have hM8 := hide (hM'.out.setLut x0 hx128n (n9 * 256))
            replace hL7 := hide hL7
            generalize n9 * 256 = n98 at *
            clear hLs
            replace hrd := hide hrd
            replace hz := hide hz
            go_wp2
            go_roundg r
            case measure => omega
            case rel => exact ⟨n9, d + 1, ns', nx, _, by have := hrd.out; omega, rfl, by go_num, by congr 1; omega, hnx.out, hx1.out, hx2.out, hT'.out, hL7.out, hM8.out, hUp'.out.setCell (p := ⟨g, 1 + x0, none⟩) (.inl (by simp)) _⟩
          · have hL7 : LutS L k (d + 1) ns' lt' := by
              by_cases h7c : l ≤ 7
              · exact hLs.short (by rw [hl.out]; exact h7c) _
              · unfold LutS at hLs ⊢
                rw [if_pos (.inr (by omega))]
                rw [if_neg (by rw [hl.out]; omega)] at hLs
                have hcx := hxl.out (by omega)
                refine hLs.point hU.out (by rw [hl.out]; omega) x0 n9 nx hx128n (by rw [hl.out]; exact hcx) hnx.out hi0 (by have := hx1.out; omega) (by rw [hx2.out, ← hcx]; congr 2; omega) _ (fun x hx => ?_)
                rw [if_neg (fun h => hz h.2)]
            have hzI : ¬ ((lt' x0 : Nat) : Int) = 0 := by omega
            have hzq : (((lt' x0 : Nat) : Int) == 0) = false := by simp <;> omega
            replace hL7 := hide hL7
            replace hz := hide hz
            clear hLs
            replace hrd := hide hrd
            go_wp2
            go_roundg r
            case measure => omega
            case rel => exact ⟨n9, d + 1, ns', nx, lt', by have := hrd.out; omega, rfl, by go_num, by congr 1; omega, hnx.out, hx1.out, hx2.out, hT'.out, hL7.out, hM'.out, hUp'.out⟩
        · have hj0 : (7 - (d : Int) - 1 == 0) = false := by simp <;> omega
          have hLs' := hide (hLs.same h6)
          clear hLs
          replace hrd := hide hrd
          go_wp2
          go_roundg r
          case measure => omega
          case rel => exact ⟨n9, d + 1, ns', nx, lt', by have := hrd.out; omega, rfl, by go_num, by congr 1; omega, hnx.out, hx1.out, hx2.out, hT'.out, hLs'.out, hM'.out, hUp'.out⟩
      · have h0 : nd.ch = 0 := by
          rcases hT'.kind nd hmem with e | e | e
          · exact absurd e kLf
          · exact e
          · exact absurd e.1 hpos
        have hodd := hT'.size
        rw [h0] at kCh
        by_cases hfull : ns'.length = cap
        · have hbad : ¬ kS L 15 = 32768 := fun hw => by
            have := hT'.room hw hn h0 htop (by omega)
            have := hcz.out
            omega
          have hfullI : ((ns'.length : Nat) : Int) = (cap : Int) := by omega
          have hfq : ((cap : Int) == (cap : Int)) = true := by simp
          have herr := (hUp'.cell (p := ⟨2, 0, none⟩) hTab.out.lt.2 (by simp; omega)).trans hTab.out.err
          rw [hfull] at kSl hnlI hnlN
          replace hbad := hide hbad
          replace hUp' := hide hUp'
          clear hT' hLs hM' hnd hnv hn htop hstep hodd hfull hfullI h0 hle' hle hnl hcl hcf hbit hbitv
          go_wp2
          go_quiet (fail)
          go_wp2
          go_ret
          exact ⟨hUp'.out.drewN nq, .inr ⟨rfl, hbad.out⟩⟩
        · have hroom : ns'.length + 2 ≤ cap := by
            have := hcz.out
            have h1z : 1 ≤ nz L := by
              have : 0 < L.countP (fun x => x != 0) := by
                rw [List.countP_pos_iff]
                exact ⟨L[k]'hU.out.lt, List.getElem_mem _, by have := hU.out.ne; simp [hU.out.lt] at this; simpa using this⟩
              exact this
            omega
          have hT2 := hT'.split hn h0 htop (by omega)
          have hM2' := hM'.cut hn hroom
          have hlab := Tree.cut_label (nd := nd) hn
          have hLs2 := hLs.move hlab
          have hf1 := hM'.fnd (n * 2 + 1)
          have hf0 := hM'.fsl 0
          have hmm1 : (Tree.cut ns' n nd)[ns'.length]? = some ⟨nd.d + 1, 2 * nd.v, 0, 0⟩ := Tree.cut_a
          have hmm2 : (Tree.cut ns' n nd)[ns'.length + 1]? = some ⟨nd.d + 1, 2 * nd.v + 1, 0, 0⟩ := Tree.cut_b
          obtain ⟨nx, hnx, hx1, hx2⟩ : ∃ nx, (Tree.cut ns' n nd)[ns'.length + bit]? = some nx ∧ nx.d = d + 1 ∧ nx.v = codeG L k / 2 ^ r := by
            rcases (by omega : bit = 0 ∨ bit = 1) with e | e
            · subst e; exact ⟨_, hmm1, by show nd.d + 1 = d + 1; omega, by show 2 * nd.v = _; omega⟩
            · subst e; exact ⟨_, hmm2, by show nd.d + 1 = d + 1; omega, by show 2 * nd.v + 1 = _; omega⟩
          have hUq := hide hUp'
          have h1m : 0 < ns'.length := by omega
          generalize hnsc : Tree.cut ns' n nd = nc at *
          generalize hml : ns'.length = m at *
          have hmq : ((m : Int) == (cap : Int)) = false := by simp <;> omega
          have hcI : (cap : Int) ≤ 8191 := by omega
          have hroomI : (m : Int) + 2 ≤ (cap : Int) := by omega
          replace hT2 := hide hT2
          replace hM2' := hide hM2'
          replace hLs2 := hide hLs2
          replace hnx := hide hnx
          replace hx1 := hide hx1
          replace hx2 := hide hx2
          replace hml := hide hml
          replace hnsc := hide hnsc
          have i0 : 0 < m + bit := by omega
          replace hrd := hide hrd
          replace hbitv := hide hbitv
          clear hT' hM' hLs hlab hmm1 hmm2 hnd hnv hn htop hstep hodd hfull h0 hmem kLf hpos hUp'
          go_wp2
          go_quiet (fail)
          go_wp2
          have kSl2 : (wr.drewN nq).cell? ⟨g, 0, none⟩ = some (.slice (some ⟨nb, 0, none⟩) m cap) := kSl
          have kCh2 : (wr.drewN nq).cell? ⟨nb, n * 2 + 1, none⟩ = some (.int .i32 0) := kCh
          have hf12 : (wr.drewN nq).frozen? ⟨nb, n * 2 + 1, none⟩ = false := hf1
          have hf02 : (wr.drewN nq).frozen? ⟨g, 0, none⟩ = false := hf0
          have hcl2 : (wr.drewN nq).cell? ⟨g, 1 + x0, none⟩ = some (.int .u32 (lt' x0)) := hcl
          have hcf2 : (wr.drewN nq).frozen? ⟨g, 1 + x0, none⟩ = false := hcf
          have hM3 := hide (TreeM.to (w' := ((wr.drewN nq).setCell ⟨nb, n * 2 + 1, none⟩ (.int .i32 (m : Int))).setCell ⟨g, 0, none⟩ (.slice (some ⟨nb, 0, none⟩) (m + 2) cap)) hM2'.out rfl)
          have hU3 := hide (((hUq.out.drewN nq).setCell (p := ⟨nb, n * 2 + 1, none⟩) (.inl (by simp)) (.int .i32 (m : Int))).setCell (p := ⟨g, 0, none⟩) (.inl (by simp)) (.slice (some ⟨nb, 0, none⟩) (m + 2) cap))
          clear kSl kCh hf1 hf0 hcl hcf hM2'
          generalize wr.drewN nq = wq at *
          have hMB : (m : Int) + (bit : Int) = ((m + bit : Nat) : Int) := by omega
          have hMBb : ((m + bit : Nat) : Int) ≤ 8192 := by omega
          generalize hmb9 : m + bit = n9 at *
          replace hmb9 := hide hmb9
          by_cases h6 : d + 1 = 7
          · have hj0 : (7 - (d : Int) - 1 == 0) = true := by simp <;> omega
            by_cases hz : lt' x0 = 0
            · have hL7 : LutS L k (d + 1) nc (fun y => if y = x0 then n9 * 256 else lt' y) := by
                have hLs := hLs2.out
                unfold LutS at hLs ⊢
                rw [if_pos (.inr (by omega))]
                by_cases h7c : l ≤ 7
                · rw [if_pos (.inl (by rw [hl.out]; exact h7c))] at hLs
                  have := hLs.short x0 k hx128n hU.out (Nat.lt_succ_self _) (by rw [hl.out]; exact h7c) (by rw [hl.out]; exact hxs.out h7c)
                  omega
                · rw [if_neg (by rw [hl.out]; omega)] at hLs
                  have hcx := hxl.out (by omega)
                  have hrd' := hrd.out
                  refine hLs.point hU.out (by rw [hl.out]; omega) x0 n9 nx hx128n (by rw [hl.out]; exact hcx) hnx.out i0 (by have := hx1.out; omega) (by rw [hx2.out, ← hcx]; congr 2; omega) _ (fun x hx => ?_)
                  by_cases hxx : x = x0
                  · rw [if_pos hxx, if_pos ⟨hxx, hz⟩]
                  · rw [if_neg hxx, if_neg (fun h => hxx h.1)]
              have hsh8 : (n9 : Int) * 256 = ((n9 * 256 : Nat) : Int) := by omega
              have hsh8b : ((n9 * 256 : Nat) : Int) ≤ 2097152 := by omega
              rw [hz] at hcl2
              have hM8 := hide (hM3.out.setLut x0 hx128n (n9 * 256))
              have hU8 := hide (hU3.out.setCell (p := ⟨g, 1 + x0, none⟩) (.inl (by simp)) (.int .u32 ((n9 * 256 : Nat) : Int)))
              replace hL7 := hide hL7
              generalize n9 * 256 = n98 at *
              clear hLs2 hM3 hU3
              replace hz := hide hz
              go_region
              go_wp2
              go_region
              go_wp2
              go_roundg r
              case measure => omega
              case rel => exact ⟨n9, d + 1, nc, nx, _, by have := hrd.out; omega, rfl, by go_num, by congr 1; omega, hnx.out, hx1.out, hx2.out, hT2.out, hL7.out, hM8.out.to rfl, (hU8.out.drew).drew⟩
            · have hL7 : LutS L k (d + 1) nc lt' := by
                have hLs := hLs2.out
                by_cases h7c : l ≤ 7
                · exact hLs.short (by rw [hl.out]; exact h7c) _
                · unfold LutS at hLs ⊢
                  rw [if_pos (.inr (by omega))]
                  rw [if_neg (by rw [hl.out]; omega)] at hLs
                  have hcx := hxl.out (by omega)
                  have hrd' := hrd.out
                  refine hLs.point hU.out (by rw [hl.out]; omega) x0 n9 nx hx128n (by rw [hl.out]; exact hcx) hnx.out i0 (by have := hx1.out; omega) (by rw [hx2.out, ← hcx]; congr 2; omega) _ (fun x hx => ?_)
                  rw [if_neg (fun h => hz h.2)]
              have hzI : ¬ ((lt' x0 : Nat) : Int) = 0 := by omega
              have hzq : (((lt' x0 : Nat) : Int) == 0) = false := by simp <;> omega
              replace hL7 := hide hL7
              replace hz := hide hz
              clear hLs2
              go_region
              go_wp2
              go_region
              go_wp2
              go_roundg r
              case measure => omega
              case rel => exact ⟨n9, d + 1, nc, nx, lt', by have := hrd.out; omega, rfl, by go_num, by congr 1; omega, hnx.out, hx1.out, hx2.out, hT2.out, hL7.out, hM3.out.to rfl, (hU3.out.drew).drew⟩
          · have hj0 : (7 - (d : Int) - 1 == 0) = false := by simp <;> omega
            have hLs' := hide (hLs2.out.same h6)
            clear hLs2
            go_region
            go_wp2
            go_region
            go_wp2
            go_roundg r
            case measure => omega
            case rel => exact ⟨n9, d + 1, nc, nx, lt', by have := hrd.out; omega, rfl, by go_num, by congr 1; omega, hnx.out, hx1.out, hx2.out, hT2.out, hLs'.out, hM3.out.to rfl, (hU3.out.drew).drew⟩
end Go.Proofs.YtpiapfahcoopbaaDoor

/- 'hTree.insert', short codes: the walk. -/
import Derived.Test.YtpiapfahcoopbaaDoorInsDef
import Derived.BigRegion
import Derived.Deep.DeepCutAuto
import Derived.Deep.CutBlock
namespace Go.Proofs.YtpiapfahcoopbaaDoor
set_option linter.unusedSimpArgs false
set_option linter.unusedVariables false
open Go.RowKit Plain

set_option maxRecDepth 100000 in
set_option maxHeartbeats 8000000 in
theorem insert_short (g nb cap k l c : Nat) (L : List Nat) (ns : List Nd) (lt : Nat → Nat) (ae : Addr) (w : World) (hL : ∀ x ∈ L, x ≤ 15) (hk : kS L 15 ≤ 32768) (hU : Used L k) (hk4 : k < 4096) (hl : L.getD k 0 = l) (hc : c % 2 ^ l = codeG L k) (hcb : c ≤ 268500000) (hT : Tree L k ns) (hLu : LutK L k ns lt) (hM : TreeM w g nb cap ns lt) (hcap : cap ≤ 8191) (hcz : cap = 2 * nz L - 1) (hTab : TabH w ae)
    (hg1 : g ≠ 4) (hg2 : g ≠ 2) (hn1 : nb ≠ 4) (hn2 : nb ≠ 2) (h7 : l ≤ 7) :
    Calls Tryd.prog 67 #[.pointer (some ⟨g, 0, none⟩), .int .u32 k, .int .u32 c, .int .u32 l] w (InsPost g nb cap k L ae w) := by
  have hl15 : l ≤ 15 := by rw [← hl]; exact getD_mem_le hL k
  have hl1 : 1 ≤ l := by have := hU.ne; omega
  have hk4I : (k : Int) < 4096 := by omega
  have hl15I : (l : Int) ≤ 15 := by omega
  have hl1I : (1 : Int) ≤ (l : Int) := by omega
  have hcbI : (c : Int) ≤ 268500000 := by omega
  have hk65 : ¬ (65535 : Int) < (k : Int) := by omega
  have hl254 : ¬ (254 : Int) < (l : Int) := by omega
  have hm255 := and255
  have hm1 := and1
  have hgn := hM.ne
  have hgn' : ¬ nb = g := fun e => hgn e.symm
  have hcode := code_lt hL hk hU
  rw [hl] at hcode
  replace hcode := hide hcode
  replace hT := hide hT
  replace hLu := hide hLu
  replace hTab := hide hTab
  replace hU := hide hU
  replace hc := hide hc
  replace hl := hide hl
  replace hL := hide hL
  replace hk := hide hk
  replace hM := hide hM
  replace hcz := hide hcz
  have h7I : ¬ (7 : Int) < (l : Int) := by omega
  have hx := hTab.out.rev (c % 256) (Nat.mod_lt _ (by decide))
  have eI : ((c : Int) % 256).toNat = c % 256 := by omega
  have eV : ((revN (c % 256) 8 : Nat) : Int) / 2 ^ (8 - l) = ((revN c l : Nat) : Int) := by
    have e1 : revN (c % 256) 8 = revN c 8 := revN_mod c 8 8 (Nat.le_refl _)
    rw [e1, ← revN_div' c (show l ≤ 8 by omega), Int.natCast_ediv]
    simp
  have eT : ((8 : Int) - (l : Int)).toNat = 8 - l := by omega
  have eT7 : ((7 : Int) - (l : Int)).toNat = 7 - l := by omega
  have hr8 : ((revN (c % 256) 8 : Nat) : Int) < 256 := by have := revN_lt (c % 256) 8; omega
  generalize revN (c % 256) 8 = r8 at *
  have hx0 : revN c l < 2 ^ l := revN_lt c l
  have hx128 : revN c l < 128 := Nat.lt_of_lt_of_le (revN_lt c l) (Nat.pow_le_pow_right (by decide) h7)
  have hbk : revN (revN c l) l = codeG L k := by rw [revN_back c l (by omega)]; exact hc.out
  generalize hgx : revN c l = x0 at *
  replace hgx := hide hgx
  replace hbk := hide hbk
  have hor := or_val k l hk4 hl15
  have hpp : (0 : Int) ≤ 2 ^ (7 - l) ∧ (2 : Int) ^ (7 - l) ≤ 64 := ⟨Int.le_of_lt (Int.pow_pos (by decide)), by
    have : (2 : Nat) ^ (7 - l) ≤ 2 ^ 6 := Nat.pow_le_pow_right (by decide) (by omega)
    have h2 := Int.ofNat_le.2 this
    rw [Int.natCast_pow] at h2
    exact h2⟩
  go_enter Tryd.func67, Tryd.ntmps67
  go_wp2
  clear hx eI
  go_loopg [10] (2 ^ (7 - l)) (fun n ui wr => ∃ i : Nat, n + i = 2 ^ (7 - l) ∧ ui = .int .i64 i ∧ TreeM wr g nb cap ns (fillL k l x0 i lt) ∧ Upd [g, nb] w wr)
  case atStart => exact ⟨0, by simp, rfl, by rw [fillL_zero]; exact hM.out, Upd.refl _ _⟩
  case round =>
    obtain ⟨i, hi, rfl, hM2, hUp⟩ := hrel
    clear hM
    cases gk with
    | succ n =>
      have hiN : i < 2 ^ (7 - l) := by omega
      have hiI : (i : Int) < 2 ^ (7 - l) := by
        have := Int.ofNat_lt.2 hiN
        rw [Int.natCast_pow] at this
        exact this
      have hi64 : i < 64 := Nat.lt_of_lt_of_le hiN (Nat.pow_le_pow_right (by decide) (show 7 - l ≤ 6 by omega))
      have hi64I : (i : Int) < 64 := by omega
      have hsh := shl_bd i l (by omega) (by omega)
      have hj := join_bits x0 i l (by omega) hx0 (by omega)
      have hidx : x0 + i * 2 ^ l < 128 := by
        have h1 : (i + 1) * 2 ^ l ≤ 2 ^ (7 - l) * 2 ^ l := Nat.mul_le_mul_right _ hiN
        rw [← Nat.pow_add, show 7 - l + l = 7 by omega, Nat.add_mul, Nat.one_mul] at h1
        omega
      have hc1 := hM2.lut (x0 + i * 2 ^ l) hidx
      have hf1 := hM2.fsl (1 + (x0 + i * 2 ^ l))
      have hidxI : ((x0 + i * 2 ^ l : Nat) : Int) < 128 := by omega
      have hstep := fillL_succ k l x0 i lt hx0
      generalize hX : x0 + i * 2 ^ l = X at *
      replace hX := hide hX
      replace hM2 := hide hM2
      replace hUp := hide hUp
      replace hstep := hide hstep
      replace hi := hide hi
      go_wp2
      go_roundg n
      case measure => omega
      case rel => exact ⟨i + 1, by have := hi.out; omega, by go_num, by rw [← hstep.out]; exact hM2.out.setLut X hidx _, hUp.out.setCell (p := ⟨g, 1 + X, none⟩) (.inl (by simp)) _⟩
    | zero =>
      have hiI : ¬ (i : Int) < 2 ^ (7 - l) := by
        have : i = 2 ^ (7 - l) := by omega
        rw [this, Int.natCast_pow]
        exact Int.lt_irrefl _
      have hie : i = 2 ^ (7 - l) := by omega
      replace hie := hide hie
      have hLs0 : LutS L k 0 ns (fillL k l x0 i lt) := by
        unfold LutS
        rw [if_pos (.inl (by rw [hl.out]; exact h7))]
        refine hLu.out.fill hU.out (by rw [hl.out]; exact h7) _ (fun x hx => ?_)
        rw [hie.out, fillL_all k l x0 lt h7 x hx, hl.out]
        have hcr : revN x l = codeG L k ↔ x % 2 ^ l = x0 := by
          rw [revN_iff x _ l (by omega) hcode.out, ← hc.out, revN_mod c l l (Nat.le_refl _), hgx.out]
        by_cases hq : x % 2 ^ l = x0
        · rw [if_pos hq, if_pos (hcr.2 hq)]
        · rw [if_neg hq, if_neg (fun h => hq (hcr.1 h))]
      generalize hF : fillL k l x0 i lt = lt0 at *
      replace hF := hide hF
      replace hM2 := hide hM2
      replace hUp := hide hUp
      replace hi := hide hi
      replace hLs0 := hide hLs0
      clear hLu
      have hxl : 7 < l → codeG L k / 2 ^ (l - 7) = revN x0 7 := fun h => by omega
      have hxs : l ≤ 7 → revN x0 l = codeG L k := fun _ => hbk.out
      go_wp2
      clear hpp hiI hx0 hx128 hor eT eT7 eV hr8
      have hx128n : x0 < 128 := by rw [← hgx.out]; exact Nat.lt_of_lt_of_le (revN_lt c l) (Nat.pow_le_pow_right (by decide) h7)
      have hx128b : ((x0 : Nat) : Int) < 128 := by omega
      replace hxl := hide hxl
      replace hxs := hide hxs
      obtain ⟨rt, hrt1, hrt2, hrt3⟩ := hT.out.root
      go_loopg [3, 11, 12] l (fun r u3 u11 u12 wr => ∃ (n d : Nat) (ns' : List Nd) (nd : Nd) (lt' : Nat → Nat), r + d = l ∧ u3 = .int .u32 (r : Nat) ∧ u11 = .int .u32 (n : Nat) ∧ u12 = .int .i64 (7 - (d : Int)) ∧ ns'[n]? = some nd ∧ nd.d = d ∧ nd.v = codeG L k / 2 ^ r ∧ Tree L k ns' ∧ LutS L k d ns' lt' ∧ TreeM wr g nb cap ns' lt' ∧ Upd [g, nb] w wr)
      case atStart => exact ⟨0, 0, ns, rt, lt0, rfl, rfl, rfl, rfl, hrt1, hrt2, by rw [hrt3, Nat.div_eq_of_lt hcode.out], hT.out, hLs0.out, hM2.out, hUp.out⟩
      case round =>
        obtain ⟨n, d, ns', nd, lt', hrd, rfl, rfl, rfl, hn, hnd, hnv, hT', hLs, hM', hUp'⟩ := hrel
        clear hrt1 hrt2 hrt3 hLs0 hM2 hUp
        have hmem : nd ∈ ns' := List.mem_of_getElem? hn
        have hnl := (List.getElem?_eq_some_iff.1 hn).1
        have hnlI : (n : Int) < (ns'.length : Int) := by omega
        have hnlN : ¬ (ns'.length : Int) < (n : Int) := by omega
        have hle := hM'.le
        have hn0 : (0 : Int) ≤ (n : Int) := by omega
        have hle' : (ns'.length : Int) ≤ 8191 := by omega
        have kSl := hM'.sl
        have kCh := hM'.ch hn
        have kLf := no_leaf hT' hU.out hl.out hmem hrd hnd hnv
        cases gk with
        | zero =>
          have hd : d = l := by omega
          subst hd
          rw [Nat.pow_zero, Nat.div_one] at hnv
          have h0 : nd.ch = 0 := by
            have h1 := no_inner hT' hU.out hl.out hmem hnd hnv
            rcases hT'.kind nd hmem with e | e | e
            · exact absurd e kLf
            · exact e
            · exact absurd e.1 h1
          rw [h0] at kCh
          have hT2 := hT'.settle hU.out hn h0 (by rw [hnd, hl.out]) hnv
          have hfin : LutK L (k + 1) ns' lt' := by
            unfold LutS at hLs
            rw [if_pos (by rw [hl.out]; omega)] at hLs
            exact hLs
          have hL2 := hfin.move (Tree.grow_label (s := k) hn)
          have hf1 := hM'.fnd (n * 2 + 1)
          have hf0 := hM'.fnd (n * 2)
          have kSy := hM'.sym hn
          have hM2' := hM'.grow hn k
          have hU2 := (hUp'.setCell (p := ⟨nb, n * 2 + 1, none⟩) (.inl (by simp)) (.int .i32 (-1))).setCell (p := ⟨nb, n * 2, none⟩) (.inl (by simp)) (.int .u32 k)
          replace hM2' := hide hM2'
          replace hU2 := hide hU2
          replace hT2 := hide hT2
          replace hL2 := hide hL2
          replace hrd := hide hrd
          clear hLs hfin hM' hUp' hnd hnv h0 hT'
          go_wp2
          go_ret
          exact ⟨hU2.out, .inl ⟨rfl, _, _, hT2.out, hL2.out, hM2'.out⟩⟩
        | succ r =>
          have e3 : ((r + 1 : Nat) : Int) - 1 = (r : Int) := by omega
          have hr0 : (0 : Int) < ((r + 1 : Nat) : Int) := by omega
          have hrb : ((r + 1 : Nat) : Int) ≤ 15 := by omega
          have hr15 : (r : Int) ≤ 15 := by omega
          have hr00 : (0 : Int) ≤ (r : Int) := by omega
          have hd00 : (0 : Int) ≤ (d : Int) := by omega
          have hd15 : (d : Int) ≤ 15 := by omega
          have hbit : (c : Int) / 2 ^ r % 2 = ((c / 2 ^ r % 2 : Nat) : Int) := by simp
          have hbitv : c / 2 ^ r % 2 = codeG L k / 2 ^ r % 2 := by rw [← hc.out, bit_mod c (show r < l by omega)]
          have hbitl : c / 2 ^ r % 2 < 2 := Nat.mod_lt _ (by decide)
          have hstep := begin_step (codeG L k) r
          rw [← hbitv, ← hnv] at hstep
          have hcl := hM'.lut x0 hx128n
          have hcf := hM'.fsl (1 + x0)
          generalize c / 2 ^ r % 2 = bit at *
          have hbitI : ((bit : Nat) : Int) < 2 := by omega
          have htop := begin_bd hU.out hl.out hrd (Nat.succ_pos r)
          rw [← hnv, ← hnd] at htop
          by_cases hpos : 0 < nd.ch
          · obtain ⟨c1, hc1⟩ : ∃ c1 : Nat, nd.ch = (c1 : Int) := ⟨nd.ch.toNat, by omega⟩
            obtain ⟨a, b, ha, hb, ha1, ha2, hb1, hb2⟩ := hT'.kids nd hmem c1 hc1 (by omega)
            have hc1b : c1 + 1 < ns'.length := (List.getElem?_eq_some_iff.1 hb).1
            have hc1I : (0 : Int) < (c1 : Int) := by omega
            have hc1J : (c1 : Int) ≤ 8191 := by omega
            have hq1 : ((c1 : Int) == -1) = false := by simp <;> omega
            have hq0 : ((c1 : Int) == 0) = false := by simp <;> omega
            rw [hc1] at kCh
            obtain ⟨nx, hnx, hx1, hx2⟩ : ∃ nx, ns'[c1 + bit]? = some nx ∧ nx.d = d + 1 ∧ nx.v = codeG L k / 2 ^ r := by
              rcases (by omega : bit = 0 ∨ bit = 1) with e | e
              · subst e; exact ⟨a, ha, by omega, by omega⟩
              · subst e; exact ⟨b, hb, by omega, by omega⟩
            have hi0 : 0 < c1 + bit := by omega
            have hCB : (c1 : Int) + (bit : Int) = ((c1 + bit : Nat) : Int) := by omega
            have hCBb : ((c1 + bit : Nat) : Int) ≤ 8192 := by omega
            generalize hcb9 : c1 + bit = n9 at *
            replace hcb9 := hide hcb9
            replace hnx := hide hnx
            replace hx1 := hide hx1
            replace hx2 := hide hx2
            replace hT' := hide hT'
            replace hM' := hide hM'
            replace hUp' := hide hUp'
            replace hstep := hide hstep
            replace hbitv := hide hbitv
            replace htop := hide htop
            replace hnd := hide hnd
            replace hnv := hide hnv
            replace hn := hide hn
            replace hc1 := hide hc1
            replace ha := hide ha
            replace hb := hide hb
            clear ha1 ha2 hb1 hb2 hmem kLf hpos
            by_cases h6 : d + 1 = 7
            · have hj0 : (7 - (d : Int) - 1 == 0) = true := by simp <;> omega
              have hd7 : d = 6 := by omega
              by_cases hz : lt' x0 = 0
              · have hL7 : LutS L k (d + 1) ns' (fun y => if y = x0 then n9 * 256 else lt' y) := by
                  unfold LutS at hLs ⊢
                  rw [if_pos (.inr (by omega))]
                  by_cases h7c : l ≤ 7
                  · rw [if_pos (.inl (by rw [hl.out]; exact h7c))] at hLs
                    have := hLs.short x0 k hx128n hU.out (Nat.lt_succ_self _) (by rw [hl.out]; exact h7c) (by rw [hl.out]; exact hxs.out h7c)
                    omega
                  · rw [if_neg (by rw [hl.out]; omega)] at hLs
                    have hcx := hxl.out (by omega)
                    refine hLs.point hU.out (by rw [hl.out]; omega) x0 n9 nx hx128n (by rw [hl.out]; exact hcx) hnx.out hi0 (by have := hx1.out; omega) (by rw [hx2.out, ← hcx]; congr 2; omega) _ (fun x hx => ?_)
                    by_cases hxx : x = x0
                    · rw [if_pos hxx, if_pos ⟨hxx, hz⟩]
                    · rw [if_neg hxx, if_neg (fun h => hxx h.1)]
                have hsh8 : (n9 : Int) * 256 = ((n9 * 256 : Nat) : Int) := by omega
                have hsh8b : ((n9 * 256 : Nat) : Int) ≤ 2097152 := by omega
                rw [hz] at hcl
                have hM8 := hide (hM'.out.setLut x0 hx128n (n9 * 256))
                replace hL7 := hide hL7
                generalize n9 * 256 = n98 at *
                clear hLs
                replace hrd := hide hrd
                replace hz := hide hz
                go_wp2
                go_roundg r
                case measure => omega
                case rel => exact ⟨n9, d + 1, ns', nx, _, by have := hrd.out; omega, rfl, by go_num, by congr 1; omega, hnx.out, hx1.out, hx2.out, hT'.out, hL7.out, hM8.out, hUp'.out.setCell (p := ⟨g, 1 + x0, none⟩) (.inl (by simp)) _⟩
              · have hL7 : LutS L k (d + 1) ns' lt' := by
                  by_cases h7c : l ≤ 7
                  · exact hLs.short (by rw [hl.out]; exact h7c) _
                  · unfold LutS at hLs ⊢
                    rw [if_pos (.inr (by omega))]
                    rw [if_neg (by rw [hl.out]; omega)] at hLs
                    have hcx := hxl.out (by omega)
                    refine hLs.point hU.out (by rw [hl.out]; omega) x0 n9 nx hx128n (by rw [hl.out]; exact hcx) hnx.out hi0 (by have := hx1.out; omega) (by rw [hx2.out, ← hcx]; congr 2; omega) _ (fun x hx => ?_)
                    rw [if_neg (fun h => hz h.2)]
                have hzI : ¬ ((lt' x0 : Nat) : Int) = 0 := by omega
                have hzq : (((lt' x0 : Nat) : Int) == 0) = false := by simp <;> omega
                replace hL7 := hide hL7
                replace hz := hide hz
                clear hLs
                replace hrd := hide hrd
                go_wp2
                go_roundg r
                case measure => omega
                case rel => exact ⟨n9, d + 1, ns', nx, lt', by have := hrd.out; omega, rfl, by go_num, by congr 1; omega, hnx.out, hx1.out, hx2.out, hT'.out, hL7.out, hM'.out, hUp'.out⟩
            · have hj0 : (7 - (d : Int) - 1 == 0) = false := by simp <;> omega
              have hLs' := hide (hLs.same h6)
              clear hLs
              replace hrd := hide hrd
              go_wp2
              go_roundg r
              case measure => omega
              case rel => exact ⟨n9, d + 1, ns', nx, lt', by have := hrd.out; omega, rfl, by go_num, by congr 1; omega, hnx.out, hx1.out, hx2.out, hT'.out, hLs'.out, hM'.out, hUp'.out⟩
          · have h0 : nd.ch = 0 := by
              rcases hT'.kind nd hmem with e | e | e
              · exact absurd e kLf
              · exact e
              · exact absurd e.1 hpos
            have hodd := hT'.size
            rw [h0] at kCh
            by_cases hfull : ns'.length = cap
            · have hbad : ¬ kS L 15 = 32768 := fun hw => by
                have := hT'.room hw hn h0 htop (by omega)
                have := hcz.out
                omega
              have hfullI : ((ns'.length : Nat) : Int) = (cap : Int) := by omega
              have hfq : ((cap : Int) == (cap : Int)) = true := by simp
              have herr := (hUp'.cell (p := ⟨2, 0, none⟩) hTab.out.lt.2 (by simp; omega)).trans hTab.out.err
              rw [hfull] at kSl hnlI hnlN
              replace hbad := hide hbad
              replace hUp' := hide hUp'
              clear hT' hLs hM' hnd hnv hn htop hstep hodd hfull hfullI h0 hle' hle hnl hcl hcf hbit hbitv
              go_wp2
              go_quiet (fail)
              go_wp2
              go_ret
              exact ⟨hUp'.out.drewN nq, .inr ⟨rfl, hbad.out⟩⟩
            · have hroom : ns'.length + 2 ≤ cap := by
                have := hcz.out
                have h1z : 1 ≤ nz L := by
                  have : 0 < L.countP (fun x => x != 0) := by
                    rw [List.countP_pos_iff]
                    exact ⟨L[k]'hU.out.lt, List.getElem_mem _, by have := hU.out.ne; simp [hU.out.lt] at this; simpa using this⟩
                  exact this
                omega
              have hT2 := hT'.split hn h0 htop (by omega)
              have hM2' := hM'.cut hn hroom
              have hlab := Tree.cut_label (nd := nd) hn
              have hLs2 := hLs.move hlab
              have hf1 := hM'.fnd (n * 2 + 1)
              have hf0 := hM'.fsl 0
              have hmm1 : (Tree.cut ns' n nd)[ns'.length]? = some ⟨nd.d + 1, 2 * nd.v, 0, 0⟩ := Tree.cut_a
              have hmm2 : (Tree.cut ns' n nd)[ns'.length + 1]? = some ⟨nd.d + 1, 2 * nd.v + 1, 0, 0⟩ := Tree.cut_b
              obtain ⟨nx, hnx, hx1, hx2⟩ : ∃ nx, (Tree.cut ns' n nd)[ns'.length + bit]? = some nx ∧ nx.d = d + 1 ∧ nx.v = codeG L k / 2 ^ r := by
                rcases (by omega : bit = 0 ∨ bit = 1) with e | e
                · subst e; exact ⟨_, hmm1, by show nd.d + 1 = d + 1; omega, by show 2 * nd.v = _; omega⟩
                · subst e; exact ⟨_, hmm2, by show nd.d + 1 = d + 1; omega, by show 2 * nd.v + 1 = _; omega⟩
              have hUq := hide hUp'
              have h1m : 0 < ns'.length := by omega
              generalize hnsc : Tree.cut ns' n nd = nc at *
              generalize hml : ns'.length = m at *
              have hmq : ((m : Int) == (cap : Int)) = false := by simp <;> omega
              have hcI : (cap : Int) ≤ 8191 := by omega
              have hroomI : (m : Int) + 2 ≤ (cap : Int) := by omega
              replace hT2 := hide hT2
              replace hM2' := hide hM2'
              replace hLs2 := hide hLs2
              replace hnx := hide hnx
              replace hx1 := hide hx1
              replace hx2 := hide hx2
              replace hml := hide hml
              replace hnsc := hide hnsc
              have i0 : 0 < m + bit := by omega
              replace hrd := hide hrd
              replace hbitv := hide hbitv
              clear hT' hM' hLs hlab hmm1 hmm2 hnd hnv hn htop hstep hodd hfull h0 hmem kLf hpos hUp'
              go_wp2
              go_quiet (fail)
              go_wp2
              have kSl2 : (wr.drewN nq).cell? ⟨g, 0, none⟩ = some (.slice (some ⟨nb, 0, none⟩) m cap) := kSl
              have kCh2 : (wr.drewN nq).cell? ⟨nb, n * 2 + 1, none⟩ = some (.int .i32 0) := kCh
              have hf12 : (wr.drewN nq).frozen? ⟨nb, n * 2 + 1, none⟩ = false := hf1
              have hf02 : (wr.drewN nq).frozen? ⟨g, 0, none⟩ = false := hf0
              have hcl2 : (wr.drewN nq).cell? ⟨g, 1 + x0, none⟩ = some (.int .u32 (lt' x0)) := hcl
              have hcf2 : (wr.drewN nq).frozen? ⟨g, 1 + x0, none⟩ = false := hcf
              have hM3 := hide (TreeM.to (w' := ((wr.drewN nq).setCell ⟨nb, n * 2 + 1, none⟩ (.int .i32 (m : Int))).setCell ⟨g, 0, none⟩ (.slice (some ⟨nb, 0, none⟩) (m + 2) cap)) hM2'.out rfl)
              have hU3 := hide (((hUq.out.drewN nq).setCell (p := ⟨nb, n * 2 + 1, none⟩) (.inl (by simp)) (.int .i32 (m : Int))).setCell (p := ⟨g, 0, none⟩) (.inl (by simp)) (.slice (some ⟨nb, 0, none⟩) (m + 2) cap))
              clear kSl kCh hf1 hf0 hcl hcf hM2'
              generalize wr.drewN nq = wq at *
              have hMB : (m : Int) + (bit : Int) = ((m + bit : Nat) : Int) := by omega
              have hMBb : ((m + bit : Nat) : Int) ≤ 8192 := by omega
              generalize hmb9 : m + bit = n9 at *
              replace hmb9 := hide hmb9
              by_cases h6 : d + 1 = 7
              · have hj0 : (7 - (d : Int) - 1 == 0) = true := by simp <;> omega
                by_cases hz : lt' x0 = 0
                · have hL7 : LutS L k (d + 1) nc (fun y => if y = x0 then n9 * 256 else lt' y) := by
                    have hLs := hLs2.out
                    unfold LutS at hLs ⊢
                    rw [if_pos (.inr (by omega))]
                    by_cases h7c : l ≤ 7
                    · rw [if_pos (.inl (by rw [hl.out]; exact h7c))] at hLs
                      have := hLs.short x0 k hx128n hU.out (Nat.lt_succ_self _) (by rw [hl.out]; exact h7c) (by rw [hl.out]; exact hxs.out h7c)
                      omega
                    · rw [if_neg (by rw [hl.out]; omega)] at hLs
                      have hcx := hxl.out (by omega)
                      have hrd' := hrd.out
                      refine hLs.point hU.out (by rw [hl.out]; omega) x0 n9 nx hx128n (by rw [hl.out]; exact hcx) hnx.out i0 (by have := hx1.out; omega) (by rw [hx2.out, ← hcx]; congr 2; omega) _ (fun x hx => ?_)
                      by_cases hxx : x = x0
                      · rw [if_pos hxx, if_pos ⟨hxx, hz⟩]
                      · rw [if_neg hxx, if_neg (fun h => hxx h.1)]
                  have hsh8 : (n9 : Int) * 256 = ((n9 * 256 : Nat) : Int) := by omega
                  have hsh8b : ((n9 * 256 : Nat) : Int) ≤ 2097152 := by omega
                  rw [hz] at hcl2
                  have hM8 := hide (hM3.out.setLut x0 hx128n (n9 * 256))
                  have hU8 := hide (hU3.out.setCell (p := ⟨g, 1 + x0, none⟩) (.inl (by simp)) (.int .u32 ((n9 * 256 : Nat) : Int)))
                  replace hL7 := hide hL7
                  generalize n9 * 256 = n98 at *
                  clear hLs2 hM3 hU3
                  replace hz := hide hz
                  go_region
                  go_wp2
                  go_region
                  go_wp2
                  go_roundg r
                  case measure => omega
                  case rel => exact ⟨n9, d + 1, nc, nx, _, by have := hrd.out; omega, rfl, by go_num, by congr 1; omega, hnx.out, hx1.out, hx2.out, hT2.out, hL7.out, hM8.out.to rfl, (hU8.out.drew).drew⟩
                · have hL7 : LutS L k (d + 1) nc lt' := by
                    have hLs := hLs2.out
                    by_cases h7c : l ≤ 7
                    · exact hLs.short (by rw [hl.out]; exact h7c) _
                    · unfold LutS at hLs ⊢
                      rw [if_pos (.inr (by omega))]
                      rw [if_neg (by rw [hl.out]; omega)] at hLs
                      have hcx := hxl.out (by omega)
                      have hrd' := hrd.out
                      refine hLs.point hU.out (by rw [hl.out]; omega) x0 n9 nx hx128n (by rw [hl.out]; exact hcx) hnx.out i0 (by have := hx1.out; omega) (by rw [hx2.out, ← hcx]; congr 2; omega) _ (fun x hx => ?_)
                      rw [if_neg (fun h => hz h.2)]
                  have hzI : ¬ ((lt' x0 : Nat) : Int) = 0 := by omega
                  have hzq : (((lt' x0 : Nat) : Int) == 0) = false := by simp <;> omega
                  replace hL7 := hide hL7
                  replace hz := hide hz
                  clear hLs2
                  go_region
                  go_wp2
                  go_region
                  go_wp2
                  go_roundg r
                  case measure => omega
                  case rel => exact ⟨n9, d + 1, nc, nx, lt', by have := hrd.out; omega, rfl, by go_num, by congr 1; omega, hnx.out, hx1.out, hx2.out, hT2.out, hL7.out, hM3.out.to rfl, (hU3.out.drew).drew⟩
              · have hj0 : (7 - (d : Int) - 1 == 0) = false := by simp <;> omega
                have hLs' := hide (hLs2.out.same h6)
                clear hLs2
                go_region
                go_wp2
                go_region
                go_wp2
                go_roundg r
                case measure => omega
                case rel => exact ⟨n9, d + 1, nc, nx, lt', by have := hrd.out; omega, rfl, by go_num, by congr 1; omega, hnx.out, hx1.out, hx2.out, hT2.out, hLs'.out, hM3.out.to rfl, (hU3.out.drew).drew⟩
end Go.Proofs.YtpiapfahcoopbaaDoor

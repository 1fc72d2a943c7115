/- 'spec.Codes', 'lowest', and the law FnCodes: the walks. -/
import Derived.Test.YtpiapfahcoopbaaDoorCodesRef
import Derived.Test.YtpiapfahcoopbaaDoorStep
import Derived.Deep.RegionHeld3
namespace Go.Proofs.YtpiapfahcoopbaaDoor
set_option linter.unusedSimpArgs false
set_option linter.unusedVariables false
open Go.RowKit Plain

/-- The reference's codes, told up to length n and symbol m. -/
def codesP (L : List Nat) (n m : Nat) : List Int := (List.range L.length).map fun j => if (1 ≤ L.getD j 0 ∧ L.getD j 0 < n) ∨ (L.getD j 0 = n ∧ j < m) then ((codeG L j : Nat) : Int) else 0
theorem codesP_zero (L : List Nat) : codesP L 1 0 = List.replicate L.length 0 := by
  apply List.ext_getElem
  · simp [codesP]
  · intro i h1 h2
    simp only [codesP, List.getElem_map, List.getElem_replicate]
    rw [if_neg (by omega)]
theorem codesP_set (L : List Nat) (n m : Nat) (h : m < L.length) (hn : L.getD m 0 = n) (x : Int) (hx : x = ((codeG L m : Nat) : Int)) : (codesP L n m).set m x = codesP L n (m + 1) := by
  subst hx
  apply List.ext_getElem
  · simp [codesP]
  · intro i h1 h2
    simp only [codesP, List.getElem_map, List.getElem_set, List.getElem_range]
    by_cases hi : m = i
    · subst hi
      rw [if_pos rfl, if_pos (.inr ⟨hn, by omega⟩)]
    · rw [if_neg hi]
      by_cases h3 : (1 ≤ L.getD i 0 ∧ L.getD i 0 < n) ∨ (L.getD i 0 = n ∧ i < m)
      · rw [if_pos h3, if_pos (by rcases h3 with h3 | h3; exact .inl h3; exact .inr ⟨h3.1, by omega⟩)]
      · rw [if_neg h3, if_neg (by rintro (h4 | h4); exact h3 (.inl h4); exact h3 (.inr ⟨h4.1, by omega⟩))]
theorem codesP_same (L : List Nat) (n m : Nat) (hn : ¬ L.getD m 0 = n) : codesP L n (m + 1) = codesP L n m := by
  unfold codesP
  apply List.map_congr_left
  intro i _
  by_cases h3 : (1 ≤ L.getD i 0 ∧ L.getD i 0 < n) ∨ (L.getD i 0 = n ∧ i < m)
  · rw [if_pos h3, if_pos (by rcases h3 with h3 | h3; exact .inl h3; exact .inr ⟨h3.1, by omega⟩)]
  · rw [if_neg h3, if_neg ?_]
    rintro (h4 | h4)
    · exact h3 (.inl h4)
    · refine h3 (.inr ⟨h4.1, ?_⟩)
      rcases Nat.lt_or_ge i m with h5 | h5
      · exact h5
      · have e : i = m := by omega
        subst e
        exact absurd h4.1 hn
theorem codesP_next (L : List Nat) (n : Nat) (hn : 1 ≤ n) : codesP L n L.length = codesP L (n + 1) 0 := by
  unfold codesP
  apply List.map_congr_left
  intro i hi
  have hil : i < L.length := by simpa using hi
  by_cases h3 : (1 ≤ L.getD i 0 ∧ L.getD i 0 < n) ∨ (L.getD i 0 = n ∧ i < L.length)
  · rw [if_pos h3, if_pos (by rcases h3 with h3 | h3; exact .inl ⟨h3.1, by omega⟩; exact .inl ⟨by omega, by omega⟩)]
  · rw [if_neg h3, if_neg ?_]
    rintro (h4 | h4)
    · by_cases h5 : L.getD i 0 = n
      · exact h3 (.inr ⟨h5, hil⟩)
      · exact h3 (.inl ⟨h4.1, by omega⟩)
    · omega
def codesG (L : List Nat) : List Int := (List.range L.length).map fun j => ((codeG L j : Nat) : Int)
theorem codesP_all (L : List Nat) (hL : ∀ x ∈ L, x ≤ 15) : codesP L 16 0 = codesG L := by
  unfold codesP codesG
  apply List.map_congr_left
  intro i hi
  have hil : i < L.length := by simpa using hi
  have hx : L.getD i 0 ≤ 15 := hL _ (by simp [hil])
  by_cases h0 : L.getD i 0 = 0
  · rw [if_neg (by omega)]
    unfold codeG
    rw [if_pos h0]
    rfl
  · rw [if_pos (.inl ⟨by omega, by omega⟩)]
theorem codesG_len (L : List Nat) : (codesG L).length = L.length := by simp [codesG]
theorem codesP_len (L : List Nat) (n m : Nat) : (codesP L n m).length = L.length := by simp [codesP]
theorem gN_bd (L : List Nat) (n : Nat) (hl : L.length ≤ 4096) (hn : n ≤ 15) : gN L n ≤ 268435456 := by
  rcases n with _ | n
  · simp [gN]
  · have h1 := fN_bd L (n + 1) hl hn
    rw [fN_eq] at h1
    omega

set_option maxRecDepth 100000 in
set_option maxHeartbeats 4000000 in
theorem specCodes_any (A : Option Addr) (cap B : Nat) (L : List Nat) (w : World) (hl : (L.length : Int) ≤ 4096) (hL : ∀ x ∈ L, x ≤ 15) (hS : Rd .i64 w B A (ofN' L)) (hB : B ≤ w.heap.size) :
    Calls Tryd.prog 18 #[.slice A L.length cap] w fun e w' => ∃ v, e = .returned (.tuple #[v, .bool (madeB L)]) ∧ w'.ownsRow w.heap.size 3 1 v L.length ((codesG L).map (Value.int .i64)) ∧ Below w.heap.size w w' := by
  have cM := hide (made_any A cap B L w hl hL hS hB)
  replace hS := hide hS
  replace hL := hide hL
  go_enter Tryd.func18, Tryd.ntmps18
  go_wp2_with fail
  (with_reducible refine (cM.out).mono ?_)
  rintro e w1 ⟨v1, rfl, ho1, hb1⟩
  have hsz17 : (codeRow (fun c => if 1 ≤ c then ((cnt L c : Nat) : Int) else 0) v1).size = 17 := by simp [codeRow, rowF]
  have hone : (codeRow (fun c => if 1 ≤ c then ((cnt L c : Nat) : Int) else 0) v1).all (·.oneCell') = true := by
    obtain ⟨As, cs, rfl, _, _⟩ := own_len ho1
    rw [Array.all_eq_true_iff_forall_mem]
    intro v hv
    unfold codeRow rowF at hv
    simp at hv
    rcases hv with ⟨_, _, rfl⟩ | rfl <;> rfl
  generalize codeRow (fun c => if 1 ≤ c then ((cnt L c : Nat) : Int) else 0) v1 = CS at *
  replace hb1 := hide hb1
  generalize hok : madeB L = ok at *
  replace hok := hide hok
  clear ho1
  have hT : Hid ((w1.alloc (.cells (codeRow (fun _ => 0) (.slice none 0 0)) 75)).there w1.heap.size 0 17) := hide ((Blk.new w1 75 (codeRow (fun _ => 0) (.slice none 0 0))).there 17 (by simp [codeRow, rowF]))
  have hb2 : Below w.heap.size w (w1.alloc (.cells (codeRow (fun _ => 0) (.slice none 0 0)) 75)) := hb1.out.alloc hb1.out.size _
  have hbS := below_setCells (g := w1.heap.size) hb1.out.size CS.toList 0 hb2
  have hsS : w.heap.size ≤ ((w1.alloc (.cells (codeRow (fun _ => 0) (.slice none 0 0)) 75)).setCells w1.heap.size 0 CS.toList).heap.size := hbS.size
  replace hbS := hide hbS
  go_wp2_with (first | (refine wpList_store_mid rfl 75 (.tmp 4) (.tmp 13) rfl w1.heap.size 0 CS rfl rfl (by rw [hsz17]; exact hT.out) (by rw [hsz17]; exact size_code) hone ?_) | (refine wpList_makeN _ rfl (.tmp 16) (.tmp 16) 23 rfl w.heap.size 3 .i64 8 Tryd.underlying23 info_int .i64 .i64 _ _ L.length rfl rfl rfl rfl (by omega) (by simp only [maxLen]; omega) hsS ?_; intro w4 ho4 hg4 hz4; replace ho4 := hide ho4; replace hg4 := hide hg4))
  have hb4' := hide (hbS.out.grown hg4.out hsS (fun g h => by cases h))
  clear hbS hsS hb2 hT hone hsz17 hg4 hb1
  generalize ((w1.alloc (.cells #[.int .i64 0, .int .i64 0, .int .i64 0, .int .i64 0, .int .i64 0, .int .i64 0, .int .i64 0, .int .i64 0, .int .i64 0, .int .i64 0, .int .i64 0, .int .i64 0, .int .i64 0, .int .i64 0, .int .i64 0, .int .i64 0, .slice none 0 0] 75)).setCells w1.heap.size 0 CS.toList).heap.size = G at *
  have hGw : w.heap.size ≤ G := (ho4.out.lt _ rfl).1
  have hb4 := hb4'
  clear hb4'
  go_loopg [7, 8] 15 (fun k u7 u8 wr => ∃ n : Nat, k + n = 16 ∧ 1 ≤ n ∧ u8 = .int .i64 n ∧ u7 = .int .i64 ((gN L (n - 1) + if n - 1 = 0 then 0 else cnt L (n - 1) : Nat) : Int) ∧
    wr.ownsRow w.heap.size 3 1 (.slice (some ⟨G, 0, none⟩) L.length L.length) L.length ((codesP L n 0).map (Value.int .i64)) ∧ Below w.heap.size w wr)
  case atStart => exact ⟨1, rfl, Nat.le_refl _, rfl, rfl, by rw [codesP_zero]; exact ho4.out, hb4.out⟩
  case round =>
    obtain ⟨n, hn, hn1, rfl, rfl, hown, hbel⟩ := hrel
    obtain ⟨w5, hw5⟩ : ∃ w5, w5 = wr := ⟨_, rfl⟩
    subst hw5
    clear ho4 hb4
    cases gk with
    | zero =>
      have hn' : n = 16 := by omega
      subst hn'
      have hq : ¬ (16 : Int) ≤ 15 := by decide
      rw [codesP_all L hL.out] at hown
      replace hown := hide hown
      replace hbel := hide hbel
      go_wp2
      go_ret2
      exact ⟨_, by rw [hok.out]; rfl, hown.out, hbel.out⟩
    | succ k =>
      have hni : (n : Int) ≤ 15 := by omega
      have hgs : ((gN L (n - 1) + if n - 1 = 0 then 0 else cnt L (n - 1) : Nat) : Int) * 2 = ((gN L n : Nat) : Int) := by
        obtain ⟨q, rfl⟩ : ∃ q, n = q + 1 := ⟨n - 1, by omega⟩
        rw [Nat.add_sub_cancel, gN]
        omega
      have hgb := gN_bd L n (by omega) (by omega)
      have hgi : ((gN L n : Nat) : Int) ≤ 268435456 := by omega
      have hg2 : ((gN L (n - 1) + if n - 1 = 0 then 0 else cnt L (n - 1) : Nat) : Int) ≤ 268435456 := by omega
      generalize (gN L (n - 1) + if n - 1 = 0 then 0 else cnt L (n - 1) : Nat) = f at *
      have hn1i : (1 : Int) ≤ (n : Int) := by omega
      replace hown := hide hown
      replace hbel := hide hbel
      go_wp2
      clear hgs
      go_loopg [7, 9] L.length (fun k u7 u9 wr => ∃ m : Nat, k + m = L.length ∧ u9 = .int .i64 m ∧ u7 = .int .i64 ((gN L n + cntT L n m : Nat) : Int) ∧
        wr.ownsRow w.heap.size 3 1 (.slice (some ⟨G, 0, none⟩) L.length L.length) L.length ((codesP L n m).map (Value.int .i64)) ∧ Below w.heap.size w wr)
      case atStart => exact ⟨0, rfl, rfl, by rw [cntT_zero]; rfl, hown.out, hbel.out⟩
      case round =>
        obtain ⟨m, hm, rfl, rfl, hom, hbm⟩ := hrel
        clear hown hbel
        cases gk with
        | zero =>
          have hm' : m = L.length := by omega
          subst hm'
          have hmn : ¬ (L.length : Int) < (L.length : Int) := by omega
          rw [codesP_next L n hn1] at hom
          replace hom := hide hom
          replace hbm := hide hbm
          go_wp2
          go_roundg k
          case measure => omega
          case rel => exact ⟨n + 1, by omega, by omega, by go_num, by rw [cntT_all, Nat.add_sub_cancel, if_neg (by omega)]; go_num, hom.out, hbm.out⟩
        | succ k2 =>
          have hmn : m < L.length := by omega
          have hmi : (m : Int) < (L.length : Int) := by omega
          obtain ⟨b, off, rfl, hbb, hc⟩ := hS.out.at_ (j := m) (by rw [ofN'_len]; omega)
          have hx := (hbm.cell (p := ⟨b, off + m, none⟩) (by simp; omega)).trans (hc m (by rw [ofN'_len]; omega))
          rw [ofN'_get] at hx
          have hcs := cntT_succ L n m hmn
          have hst := codesP_set L n m hmn
          have hsm := codesP_same L n m
          have hcg : codeG L m = if L.getD m 0 = 0 then 0 else gN L (L.getD m 0) + cntT L (L.getD m 0) m := rfl
          have hct := cntT_le_m L n m
          clear hc
          generalize L.getD m 0 = x at *
          by_cases hxn : x = n
          · subst hxn
            have hq : ((x : Int) == (x : Int)) = true := by simp
            rw [if_neg (by omega)] at hcg
            rw [if_pos rfl] at hcs
            have hst' := hide (hst rfl _ (by rw [hcg]))
            have hcs' := hide hcs
            have hcell := own_cell hom m hmn
            have hfz := hom.frozenAt m
            have hGlt := (hom.lt _ rfl).2
            generalize hv : gN L x + cntT L x m = v at *
            have hvi : (v : Int) ≤ 268500000 := by omega
            replace hv := hide hv
            replace hom := hide hom
            replace hbm := hide hbm
            clear hst hsm hcg hcs
            go_wp2
            go_roundg k2
            case measure => omega
            case rel =>
              refine ⟨m + 1, by omega, by go_num, ?_, ?_, hbm.out.setCell (by simpa using hGw) _⟩
              · rw [hcs'.out, ← Nat.add_assoc, hv.out]
                go_num
              · rw [← hst'.out]
                exact own_set hom.out m _
          · have hq : ((x : Int) == (n : Int)) = false := beq_false_of_ne (by omega)
            rw [if_neg hxn] at hcs
            have hcs := hcs.trans (Nat.add_zero _)
            have hcs' := hide hcs
            have hsm' := hide (hsm hxn)
            replace hom := hide hom
            replace hbm := hide hbm
            clear hst hsm hcg hcs hct
            go_wp2
            go_roundg k2
            case measure => omega
            case rel => exact ⟨m + 1, by omega, by go_num, by rw [hcs'.out], by rw [hsm'.out]; exact hom.out, hbm.out⟩

theorem below_drew' {b : Nat} {w w' : World} (h : Below b w w') : Below b w w'.drew := ⟨h.os, h.tape, h.output, h.size, h.block⟩
/-- Of each number as many of the lowest bits as the lengths say. -/
def lowF (l : List Int) (L : List Nat) (m : Nat) : List Int := (List.range m).map fun j => l.getD j 0 % 2 ^ L.getD j 0
theorem lowF_succ (l : List Int) (L : List Nat) (m : Nat) : lowF l L (m + 1) = lowF l L m ++ [l.getD m 0 % 2 ^ L.getD m 0] := by simp [lowF, List.range_succ]
theorem lowF_len (l : List Int) (L : List Nat) (m : Nat) : (lowF l L m).length = m := by simp [lowF]
theorem low_same (L : List Nat) : lowF (codesF L) L L.length = lowF (codesG L) L L.length := by
  unfold lowF
  apply List.map_congr_left
  intro j hj
  have hj' : j < L.length := by simpa using hj
  have e1 : (codesF L).getD j 0 = ((codeF L j : Nat) : Int) := codesF_get L j hj'
  have e2 : (codesG L).getD j 0 = ((codeG L j : Nat) : Int) := by simp [codesG, hj']
  have h := code_low L j
  rw [e1, e2]
  have h2 := congrArg (fun x : Nat => (x : Int)) h
  simp only [Int.natCast_emod, Int.natCast_pow] at h2
  exact h2

set_option maxRecDepth 100000 in
set_option maxHeartbeats 4000000 in
theorem lowest_any (A As : Option Addr) (cap caps B : Nat) (l : List Int) (L : List Nat) (w : World) (hll : l.length = L.length) (hl : (L.length : Int) ≤ 4096) (hL : ∀ x ∈ L, x ≤ 15) (hS : Rd .i64 w B A l) (hSs : Rd .i64 w B As (ofN' L)) (hB : B ≤ w.heap.size) :
    Calls Tryd.prog 19 #[.slice A L.length cap, .slice As L.length caps] w fun e w' => ∃ v, e = .returned v ∧ w'.ownsRow w.heap.size 3 1 v L.length ((lowF l L L.length).map (Value.int .i64)) ∧ Below w.heap.size w w' := by
  replace hS := hide hS
  replace hSs := hide hSs
  replace hL := hide hL
  replace hll := hide hll
  go_enter Tryd.func19, Tryd.ntmps19
  go_wp2
  go_loopg [5, 6] L.length (fun k u5 u6 wr => ∃ m : Nat, k + m = L.length ∧ u6 = .int .i64 m ∧ wr.ownsRow w.heap.size 3 1 u5 m ((lowF l L m).map (Value.int .i64)) ∧ Below w.heap.size w wr)
  case atStart => exact ⟨0, rfl, rfl, ⟨rfl, .inl ⟨rfl, rfl⟩⟩, Below.refl _ _⟩
  case round =>
    obtain ⟨m, hm, rfl, hown, hbel⟩ := hrel
    cases gk with
    | zero =>
      have hm' : m = L.length := by omega
      subst hm'
      have hmn : ¬ (L.length : Int) < (L.length : Int) := by omega
      replace hown := hide hown
      replace hbel := hide hbel
      go_wp2
      go_ret
      exact ⟨_, rfl, hown.out, hbel.out⟩
    | succ k =>
      have hmn : m < L.length := by omega
      have hmi : (m : Int) < (L.length : Int) := by omega
      obtain ⟨b, off, rfl, hbb, hc⟩ := hS.out.at_ (j := m) (by rw [hll.out]; omega)
      have hx := (hbel.cell (p := ⟨b, off + m, none⟩) (by simp; omega)).trans (hc m (by rw [hll.out]; omega))
      obtain ⟨b2, off2, rfl, hbb2, hc2⟩ := hSs.out.at_ (j := m) (by rw [ofN'_len]; omega)
      have hx2 := (hbel.cell (p := ⟨b2, off2 + m, none⟩) (by simp; omega)).trans (hc2 m (by rw [ofN'_len]; omega))
      rw [ofN'_get] at hx2
      have hyb : L.getD m 0 ≤ 15 := hL.out _ (by simp [hmn])
      have hls := lowF_succ l L m
      clear hc hc2
      generalize l.getD m 0 = x at *
      generalize L.getD m 0 = y at *
      have hyi : (y : Int) ≤ 15 := by omega
      have hyt : ((y : Nat) : Int).toNat = y := by omega
      have hp0 : (0 : Int) < 2 ^ y := Int.pow_pos (by decide)
      have hpi : ((2 : Int) ^ y) ≤ 32768 := by
        have h4 := Int.ofNat_le.2 (Nat.pow_le_pow_right (show 0 < 2 by decide) hyb)
        rw [Int.natCast_pow, Int.natCast_pow] at h4
        exact h4
      have hmask := and_mask .i64 y (by show y < 64; omega) x
      have W1 : IntKind.i64.wrap ((2 : Int) ^ y) = 2 ^ y := IntWalk.i64_in _ (by omega)
      have W2 : IntKind.i64.wrap ((2 : Int) ^ y - 1) = 2 ^ y - 1 := IntWalk.i64_in _ (by omega)
      have hsz := hbel.size
      replace hls := hide hls
      replace hown := hide hown
      replace hbel := hide hbel
      have hbw : b < wr.heap.size := by omega
      have hbw2 : b2 < wr.heap.size := by omega
      have hbn : ¬ b = wr.heap.size := by omega
      have hbn' : ¬ wr.heap.size = b := by omega
      have hbn2 : ¬ b2 = wr.heap.size := by omega
      have hbn2' : ¬ wr.heap.size = b2 := by omega
      have hv : ∀ y, x % 2 ^ y = x % 2 ^ y := fun _ => rfl
      clear hv
      generalize hz : x % 2 ^ y = z at *
      have HC : ∀ j u, ([.int .i64 z] : List Value)[j]? = some u → (wr.alloc (.cells #[.int .i64 z] 3)).cell? ⟨wr.heap.size, j, none⟩ = some u := by
        intro j u hj
        rw [World.cell?_alloc_new]
        simpa using hj
      replace HC := hide HC
      replace hz := hide hz
      have hne3 : some b ≠ u5.ownBlock := fun e => by have := (hown.out.lt b e.symm).1; omega
      have hne4 : some b2 ≠ u5.ownBlock := fun e => by have := (hown.out.lt b2 e.symm).1; omega
      go_wp2
      go_region_held3 (fun W => W.cell? ⟨b, off + m, none⟩ = some (.int .i64 x) ∧ W.cell? ⟨b2, off2 + m, none⟩ = some (.int .i64 y))
        (first
          | go_keep
          | (go_split_ands
             refine ⟨?_, ?_⟩
             · rw [World.cell?_of_block (hg9.out.block b (by simp; omega) hne3)]
               simp [hbn, *]
             · rw [World.cell?_of_block (hg9.out.block b2 (by simp; omega) hne4)]
               simp [hbn2, *]))
        (first | (refine step_pushN (.tmp 19) (.tmp 31) 23 w.heap.size 3 (.int .i64 0) 8 Tryd.underlying23 info_int rfl u5 m 1 ((lowF l L m).map (Value.int .i64)) [.int .i64 z] rfl (by simp [Value.oneCell']) wr.heap.size (by simp only [maxLen]; omega) (by omega) ?_; refine ⟨⟨rfl, rfl, rfl, hown.out.alloc _, rfl, HC.out, by simp <;> omega⟩, ?_⟩; intro v' w9 hown9 hg9; replace hown9 := hide hown9; replace hg9 := hide hg9))
      go_wp2
      go_roundg k
      case measure => omega
      case rel =>
        refine ⟨m + 1, by omega, by go_num, by rw [hls.out]; simpa using hown9.out, (below_drew' (hbel.out.alloc hsz _)).grown hg9.out (by simp; omega) (fun k hk => (hown.out.lt k hk).1)⟩

theorem whole_made (L : List Nat) (hL : ∀ x ∈ L, x ≤ 15) (h : wholeB L = true) : madeB L = true ∧ 1 ≤ L.length := by
  unfold wholeB at h
  obtain ⟨h1, h2⟩ := of_decide_eq_true h
  have hk : kS L 15 = 32768 := (kS_eq L hL).trans h2
  have hle : nz L ≤ L.length := List.countP_le_length
  refine ⟨?_, by omega⟩
  unfold madeB
  rw [if_neg (by omega), if_neg (by omega)]
  exact decide_eq_true (frI_all L hk)

set_option maxRecDepth 100000 in
set_option maxHeartbeats 4000000 in
theorem codes_main (A : Option Addr) (cap : Nat) (L : List Nat) (w : World) (hl : (L.length : Int) ≤ 4096) (hL : ∀ x ∈ L, x ≤ 15) (hW : wholeB L = true) (hw : within 0 15 (ofN' L) = true) (hS : Rd .i64 w w.heap.size A (ofN' L)) :
    Calls Tryd.prog 5 #[.slice A L.length cap] w fun e w' => e = .returned (.bool true) ∧ Below w.heap.size w w' := by
  obtain ⟨hmd, hl1⟩ := whole_made L hL hW
  have cR := inRange_any A cap w.heap.size (ofN' L) 0 15 w (by rw [ofN'_len]; omega) hS
  rw [hw, ofN'_len] at cR
  have cW := isWhole_any A cap w.heap.size L w hl hL hS
  rw [hW] at cW
  have cI := hide (implCodes_any A cap L w hl1 hl hL hS)
  have cS := fun w1 (hb : Below w.heap.size w w1) => specCodes_any A cap w1.heap.size L w1 hl hL ((hS.below hb).more hb.size) (Nat.le_refl _)
  rw [hmd] at cS
  have cL := fun A1 c1 l w1 (hll : l.length = L.length) (h1 : Rd .i64 w1 w1.heap.size A1 l) (hb : Below w.heap.size w w1) => lowest_any A1 A c1 cap w1.heap.size l L w1 hll hl hL h1 ((hS.below hb).more hb.size) (Nat.le_refl _)
  replace cR := hide cR
  replace cW := hide cW
  replace cS := hide cS
  replace cL := hide cL
  have t2 : ¬ (2147483647 : Int) < (L.length : Int) := by omega
  have t4 : ¬ (4096 : Int) < (L.length : Int) := by omega
  have tq : ((L.length : Int) == (L.length : Int)) = true := by simp
  clear hL hW hw hS hmd hl1
  go_enter Tryd.func5, Tryd.ntmps5
  go_wp2_with fail
  (with_reducible refine (cR.out).mono ?_)
  rintro e w' ⟨rfl, rfl⟩
  go_wp2_with fail
  (with_reducible refine (cW.out).mono ?_)
  rintro e w' ⟨rfl, rfl⟩
  go_wp2_with fail
  (with_reducible refine (cI.out).mono ?_)
  rintro e w1 ⟨v1, rfl, ho1, hb1⟩
  obtain ⟨A1, c1, rfl, _, _⟩ := own_len ho1
  have hb1' := hide hb1
  replace ho1 := hide ho1
  clear hb1
  go_wp2_with fail
  (with_reducible refine (cS.out w1 hb1'.out).mono ?_)
  rintro e w2 ⟨v2, rfl, ho2, hb2⟩
  obtain ⟨A2, c2, rfl, _, _⟩ := own_len ho2
  have ho12 := hide ((Upd.ofBelow (S := []) hb2).own ho1.out (by simp))
  have hb2' := hide (hb1'.out.trans (hb2.mono hb1'.out.size))
  replace ho2 := hide ho2
  clear hb2 ho1 hb1' cS cI
  go_wp2_with fail
  (with_reducible refine (cL.out A1 c1 (codesF L) w2 (codesF_len L) (Rd.ofOwn ho12.out) hb2'.out).mono ?_)
  rintro e w3 ⟨v3, rfl, ho3, hb3⟩
  obtain ⟨A3, c3, rfl, _, _⟩ := own_len ho3
  have ho23 := hide ((Upd.ofBelow (S := []) hb3).own ho2.out (by simp))
  have hb3' := hide (hb2'.out.trans (hb3.mono hb2'.out.size))
  replace ho3 := hide ho3
  clear hb3 ho12 ho2
  go_wp2_with fail
  (with_reducible refine (cL.out A2 c2 (codesG L) w3 (codesG_len L) (Rd.ofOwn ho23.out) hb3'.out).mono ?_)
  rintro e w4 ⟨v4, rfl, ho4, hb4⟩
  obtain ⟨A4, c4, rfl, _, _⟩ := own_len ho4
  have ho34 := (Upd.ofBelow (S := []) hb4).own ho3.out (by simp)
  have hb4' := hide (hb3'.out.trans (hb4.mono hb3'.out.size))
  rw [low_same L] at ho34
  have cc := ints_same A3 A4 c3 c4 (lowF (codesG L) L L.length) w4 _ _ (by rw [lowF_len]; omega) (Rd.ofOwn ho34) (Rd.ofOwn ho4)
  rw [lowF_len] at cc
  replace cc := hide cc
  clear ho34 ho4 hb4 ho3 ho23
  go_wp2_with fail
  (with_reducible refine (cc.out).mono ?_)
  rintro e w5 ⟨rfl, n5, rfl⟩
  go_wp2_with fail
  refine (readSums_any _).mono ?_
  rintro e w6 ⟨rfl, rfl⟩
  go_wp2
  go_ret
  exact ⟨rfl, below_drewN hb4'.out _⟩

set_option maxRecDepth 100000 in
set_option maxHeartbeats 4000000 in
theorem codesLaw_any (A : Option Addr) (cap : Nat) (l0 : List Int) (w : World) (h0 : Rd .i64 w w.heap.size A l0) (hm0 : l0.length ≤ 9223372036854775807) :
    Calls Tryd.prog 5 #[.slice A l0.length cap] w fun e w' => e = .returned (.bool true) ∧ Below w.heap.size w w' := by
  have cR := inRange_any A cap w.heap.size l0 0 15 w hm0 h0
  have cQ := hide (readSums_any w)
  by_cases c2 : (2147483647 : Int) < (l0.length : Int)
  · clear h0 cR
    go_enter Tryd.func5, Tryd.ntmps5
    go_wp2
    go_ret
    exact ⟨rfl, Below.refl _ _⟩
  by_cases c4 : (4096 : Int) < (l0.length : Int)
  · clear h0 cR
    go_enter Tryd.func5, Tryd.ntmps5
    go_wp2_with fail
    (with_reducible refine (cQ.out).mono ?_)
    rintro e w' ⟨rfl, rfl⟩
    go_wp2
    go_ret
    exact ⟨rfl, Below.refl _ _⟩
  cases hW : within 0 15 l0
  · rw [hW] at cR
    replace cR := hide cR
    clear h0 hW
    go_enter Tryd.func5, Tryd.ntmps5
    go_wp2_with fail
    (with_reducible refine (cR.out).mono ?_)
    rintro e w' ⟨rfl, rfl⟩
    go_wp2_with fail
    (with_reducible refine (cQ.out).mono ?_)
    rintro e w' ⟨rfl, rfl⟩
    go_wp2
    go_ret
    exact ⟨rfl, Below.refl _ _⟩
  have e1 := natOf_back l0 (fun x hx => (within_all hW x hx).1)
  have hL : ∀ x ∈ natOf l0, x ≤ 15 := by intro x hx; unfold natOf at hx; rw [List.mem_map] at hx; obtain ⟨y, hy, rfl⟩ := hx; have := within_all hW y hy; omega
  have hl : ((natOf l0).length : Int) ≤ 4096 := by rw [natOf_len]; omega
  have h1 : Rd .i64 w w.heap.size A (ofN' (natOf l0)) := by rw [e1]; exact h0
  cases hT : wholeB (natOf l0)
  · have cW := isWhole_any A cap w.heap.size (natOf l0) w hl hL h1
    rw [hT, natOf_len] at cW
    rw [hW] at cR
    replace cR := hide cR
    replace cW := hide cW
    clear h0 hW e1 hL hl h1 hT
    go_enter Tryd.func5, Tryd.ntmps5
    go_wp2_with fail
    (with_reducible refine (cR.out).mono ?_)
    rintro e w' ⟨rfl, rfl⟩
    go_wp2_with fail
    (with_reducible refine (cW.out).mono ?_)
    rintro e w' ⟨rfl, rfl⟩
    go_wp2_with fail
    (with_reducible refine (cQ.out).mono ?_)
    rintro e w' ⟨rfl, rfl⟩
    go_wp2
    go_ret
    exact ⟨rfl, Below.refl _ _⟩
  · have k := codes_main A cap (natOf l0) w hl hL hT (by rw [e1]; exact hW) h1
    rw [natOf_len] at k
    exact k
end Go.Proofs.YtpiapfahcoopbaaDoor

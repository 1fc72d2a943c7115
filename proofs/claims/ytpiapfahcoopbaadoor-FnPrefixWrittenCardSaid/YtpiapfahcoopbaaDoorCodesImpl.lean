/- 'codeLengthsToCodes' and 'impl.Codes': the walks. -/
import Derived.Test.YtpiapfahcoopbaaDoorWords
import Derived.Test.YtpiapfahcoopbaaDoorMake
namespace Go.Proofs.YtpiapfahcoopbaaDoor
set_option linter.unusedSimpArgs false
set_option linter.unusedVariables false
open Go.RowKit Plain

/-- A row of n numbers, told by a function. -/
def rowF (k : IntKind) (F : Nat → Int) (n : Nat) : Array Value := ((List.range n).map (fun i => Value.int k (F i))).toArray
theorem rowF_get (k : IntKind) (F : Nat → Int) (n i : Nat) (h : i < n) : (rowF k F n)[i]? = some (.int k (F i)) := by simp [rowF, h]
theorem rowF_set (k : IntKind) (F : Nat → Int) (n c : Nat) (x : Int) : (rowF k F n).setIfInBounds c (.int k x) = rowF k (fun i => if i = c then x else F i) n := by
  apply Array.ext_getElem?
  intro i
  unfold rowF
  rw [Array.getElem?_setIfInBounds]
  by_cases hi : i < n
  · by_cases hc : c = i
    · subst hc; simp [hi]
    · have hc' : ¬ i = c := fun e => hc e.symm
      simp [hi, hc, hc']
  · by_cases hc : c = i
    · subst hc; simp [hi]
    · simp [hi, hc]
theorem rowF_congr (k : IntKind) {F G : Nat → Int} (n : Nat) (h : ∀ i, i < n → F i = G i) : rowF k F n = rowF k G n := by
  unfold rowF
  congr 1
  apply List.map_congr_left
  intro i hi
  rw [h i (by simpa using hi)]
theorem Blk.rowCell {w : World} {g : Nat} {t : TypeId} {k : IntKind} {F : Nat → Int} {n : Nat} (h : Blk w g t (rowF k F n)) (i : Nat) (hi : i < n) : w.cell? ⟨g, i, none⟩ = some (.int k (F i)) := (h.cell i).trans (rowF_get k F n i hi)
theorem Blk.rowSet {w : World} {g : Nat} {t : TypeId} {k : IntKind} {F G : Nat → Int} {n : Nat} (h : Blk w g t (rowF k F n)) (c : Nat) (x : Int) (hG : ∀ i, i < n → G i = if i = c then x else F i) : Blk (w.setCell ⟨g, c, none⟩ (.int k x)) g t (rowF k G n) := by
  have h1 := h.set_ c (.int k x)
  rw [rowF_set] at h1
  rw [rowF_congr k n hG]
  exact h1

/-- The codes told up to m. -/
def codesT (L : List Nat) (m : Nat) : List Int := (List.range L.length).map fun j => if j < m then ((codeF L j : Nat) : Int) else 0
theorem codesT_len (L : List Nat) (m : Nat) : (codesT L m).length = L.length := by simp [codesT]
theorem codesT_set (L : List Nat) (m : Nat) (h : m < L.length) (x : Int) (hx : x = ((codeF L m : Nat) : Int)) : (codesT L m).set m x = codesT L (m + 1) := by
  subst hx
  apply List.ext_getElem
  · simp [codesT]
  · intro i h1 h2
    simp [codesT] at h1
    rw [List.getElem_set]
    by_cases hi : m = i
    · subst hi; simp [codesT]
    · rw [if_neg hi]
      by_cases h3 : i < m
      · simp [codesT, h3, show i < m + 1 by omega]
      · simp [codesT, h3, show ¬ i < m + 1 by omega]
theorem codesT_same (L : List Nat) (m : Nat) (h0 : L.getD m 0 = 0) : codesT L (m + 1) = codesT L m := by
  unfold codesT
  apply List.map_congr_left
  intro i _
  by_cases hi : i = m
  · subst hi
    have e : codeF L i = 0 := by unfold codeF; rw [if_pos h0]
    simp [e]
  · by_cases h3 : i < m
    · rw [if_pos h3, if_pos (by omega)]
    · rw [if_neg h3, if_neg (by omega)]
theorem codesT_zero (L : List Nat) : codesT L 0 = List.replicate L.length 0 := by
  apply List.ext_getElem
  · simp [codesT]
  · intro i h1 h2; simp [codesT]
def codesF (L : List Nat) : List Int := (List.range L.length).map fun j => ((codeF L j : Nat) : Int)
theorem codesT_all (L : List Nat) : codesT L L.length = codesF L := by
  unfold codesT codesF
  apply List.map_congr_left
  intro i hi
  rw [if_pos (by simpa using hi)]

theorem fN_le (L : List Nat) (n : Nat) (hl : L.length ≤ 4096) : fN L n ≤ 8192 * (2 ^ n - 1) := by
  induction n with
  | zero => simp [fN]
  | succ n ih =>
    have h1 := cnt_le L n
    have h2 : 1 ≤ 2 ^ n := Nat.one_le_two_pow
    rw [fN, Nat.pow_succ]
    omega
theorem fN_bd (L : List Nat) (n : Nat) (hl : L.length ≤ 4096) (hn : n ≤ 15) : fN L n ≤ 268435456 := by
  have h1 := fN_le L n hl
  have h2 : 2 ^ n ≤ 2 ^ 15 := Nat.pow_le_pow_right (by decide) hn
  omega

set_option maxRecDepth 100000 in
set_option maxHeartbeats 4000000 in
theorem clc_any (A : Option Addr) (cap B : Nat) (L : List Nat) (w : World) (hl0 : 1 ≤ L.length) (hl : (L.length : Int) ≤ 4096) (hL : ∀ x ∈ L, x ≤ 15) (hS : Rd .u32 w B A (ofN' L)) (hB : B ≤ w.heap.size) :
    Calls Tryd.prog 54 #[.slice A L.length cap] w fun e w' => ∃ g c, e = .returned (.tuple #[.slice (some ⟨g, 0, none⟩) L.length c, .nilIface]) ∧ w'.ownsRow w.heap.size 59 1 (.slice (some ⟨g, 0, none⟩) L.length c) L.length ((codesF L).map (Value.int .u32)) ∧ Below w.heap.size w w' := by
  replace hS := hide hS
  replace hL := hide hL
  go_enter Tryd.func54, Tryd.ntmps54
  go_wp2
  go_loopg [4, 18] L.length (fun k u4 u18 wr => ∃ m mx : Nat, k + m = L.length ∧ u18 = .int .i64 m ∧ u4 = .int .u32 mx ∧ mx ≤ 15 ∧ w = wr)
  case atStart => exact ⟨0, 0, rfl, rfl, rfl, by omega, rfl⟩
  case round =>
    obtain ⟨m, mx, hm, rfl, rfl, hmx, rfl⟩ := hrel
    have hmxi : (mx : Int) ≤ 15 := by omega
    cases gk with
    | succ k =>
      have hmn : m < L.length := by omega
      have hmi : (m : Int) < (L.length : Int) := by omega
      obtain ⟨b, off, rfl, hbb, hc⟩ := hS.out.at_ (j := m) (by rw [ofN'_len]; omega)
      have hx := hc m (by rw [ofN'_len]; omega)
      rw [ofN'_get] at hx
      have hxb : L.getD m 0 ≤ 15 := hL.out _ (by simp [hmn])
      clear hc
      generalize L.getD m 0 = x at *
      have hxi : (x : Int) ≤ 15 := by omega
      have hx15 := hide hxb
      have hm15 := hide hmx
      by_cases h1 : mx < x
      · have h1i : (mx : Int) < (x : Int) := by omega
        go_wp2
        go_roundg k
        case measure => omega
        case rel => exact ⟨m + 1, x, by omega, by go_num, rfl, hx15.out, rfl⟩
      · have h1i : ¬ (mx : Int) < (x : Int) := by omega
        go_wp2
        go_roundg k
        case measure => omega
        case rel => exact ⟨m + 1, mx, by omega, by go_num, rfl, hm15.out, rfl⟩
    | zero =>
      have hm' : m = L.length := by omega
      subst hm'
      have hmn : ¬ (L.length : Int) < (L.length : Int) := by omega
      have hz : ((L.length : Int) == 0) = false := beq_false_of_ne (by omega)
      have hm15 : ¬ (15 : Int) < (mx : Int) := by omega
      go_wp2
      clear hm hmx hmxi hm15 hz hmn
      go_loopg [38] L.length (fun k u38 wr => ∃ m : Nat, k + m = L.length ∧ u38 = .int .i64 m ∧ Blk wr w.heap.size 115 (rowF .u32 (fun c => ((cntT L c m : Nat) : Int)) 16) ∧ Below w.heap.size w wr ∧ wr.heap.size = w.heap.size + 1)
      case atStart =>
        refine ⟨0, rfl, rfl, ?_, (Below.refl _ w).alloc (Nat.le_refl _) _, by simp⟩
        refine Blk.to (Blk.new w 115 _) rfl ?_
        simp only [cntT_zero]
        rfl
      case round =>
        obtain ⟨m, hm, rfl, hK7, hbel, hsz⟩ := hrel
        cases gk with
        | succ k =>
          have hmn : m < L.length := by omega
          have hmi : (m : Int) < (L.length : Int) := by omega
          obtain ⟨b, off, rfl, hbb, hc⟩ := hS.out.at_ (j := m) (by rw [ofN'_len]; omega)
          have hx := (hbel.cell (p := ⟨b, off + m, none⟩) (by simp; omega)).trans (hc m (by rw [ofN'_len]; omega))
          rw [ofN'_get] at hx
          have hxb : L.getD m 0 ≤ 15 := hL.out _ (by simp [hmn])
          have hcs := fun c => cntT_succ L c m hmn
          clear hc
          generalize L.getD m 0 = x at *
          have hxi : (x : Int) ≤ 15 := by omega
          have hcell := Blk.rowCell hK7 x (by omega)
          have hfz := Blk.frozen hK7 x
          have hcb := cntT_le_m L x m
          have hcs' := hide hcs
          clear hcs
          replace hK7 := hide hK7
          replace hbel := hide hbel
          have hcbi : ((cntT L x m : Nat) : Int) ≤ 4096 := by omega
          have hne : ¬ b = w.heap.size := by omega
          replace hsz := hide hsz
          go_wp2
          go_roundg k
          case measure => omega
          case rel =>
            refine ⟨m + 1, by omega, by go_num, ?_, hbel.out.setCell (by simp) _, by simpa using hsz.out⟩
            refine Blk.rowSet hK7.out x _ ?_
            intro i hi
            rw [hcs'.out]
            by_cases hix : i = x
            · subst hix; simp
            · rw [if_neg hix, if_neg (fun e => hix e.symm)]; simp
        | zero =>
          have hm' : m = L.length := by omega
          subst hm'
          have hmn : ¬ (L.length : Int) < (L.length : Int) := by omega
          simp only [cntT_all] at hK7
          have hK7' := hide hK7
          have hbel' := hide hbel
          clear hK7 hbel
          go_wp2
          obtain ⟨w1, hw1⟩ : ∃ w1, w1 = wr := ⟨_, rfl⟩
          subst hw1
          go_loopg [10, 12] 15 (fun k u10 u12 w2 => ∃ q : Nat, k + q = 16 ∧ 1 ≤ q ∧ u12 = .int .i64 q ∧ u10 = .int .u32 (fN L (q - 1) : Nat) ∧ Blk w2 (w.heap.size + 1) 115 (rowF .u32 (fun c => if 1 ≤ c ∧ c < q then ((fN L c : Nat) : Int) else 0) 16) ∧ Blk w2 w.heap.size 115 (rowF .u32 (fun c => ((cnt L c : Nat) : Int)) 16) ∧ Below w.heap.size w w2 ∧ w2.heap.size = w.heap.size + 2)
          case atStart =>
            refine ⟨1, rfl, Nat.le_refl _, rfl, rfl, ?_, hK7'.out.alloc _, hbel'.out.alloc (by omega) _, by simp; omega⟩
            have h := Blk.new w1 115 (rowF .u32 (fun c => if 1 ≤ c ∧ c < 1 then ((fN L c : Nat) : Int) else 0) 16)
            rw [hsz] at h
            refine Blk.to h ?_ rfl
            have e : rowF .u32 (fun c => if 1 ≤ c ∧ c < 1 then ((fN L c : Nat) : Int) else 0) 16 = rowF .u32 (fun _ => 0) 16 := rowF_congr _ _ (fun i _ => if_neg (by omega))
            rw [e]
            rfl
          case round =>
            obtain ⟨q, hq, hq1, rfl, rfl, hK11, hK7, hbel, hsz2⟩ := hrel
            clear hK7' hbel'
            cases gk with
            | succ k =>
              have hqi : (q : Int) < 16 := by omega
              have hq1i : (1 : Int) ≤ (q : Int) := by omega
              have hqt : ((q : Int) - 1).toNat = q - 1 := by omega
              have hq0 : (0 : Int) ≤ (q : Int) - 1 := by omega
              have hcell := Blk.rowCell hK7 (q - 1) (by omega)
              have hfz := Blk.frozen hK11 q
              have hcell2 := Blk.rowCell hK11 q (by omega)
              have hlN : L.length ≤ 4096 := by omega
              have hfb := fN_bd L (q - 1) hlN (by omega)
              have hcb := cnt_le L (q - 1)
              have hfs : ((fN L q : Nat) : Int) = (((fN L (q - 1) : Nat) : Int) + ((cnt L (q - 1) : Nat) : Int)) * 2 := by
                obtain ⟨p, rfl⟩ : ∃ p, q = p + 1 := ⟨q - 1, by omega⟩
                rw [fN, Nat.add_sub_cancel]
                omega
              have hfi : ((fN L (q - 1) : Nat) : Int) ≤ 268435456 := by omega
              have hci : ((cnt L (q - 1) : Nat) : Int) ≤ 4096 := by omega
              replace hfs := hide hfs
              replace hK7 := hide hK7
              replace hK11 := hide hK11
              replace hbel := hide hbel
              replace hsz2 := hide hsz2
              generalize hF : fN L (q - 1) = f at *
              generalize hC : cnt L (q - 1) = c1 at *
              replace hF := hide hF
              replace hC := hide hC
              go_wp2
              go_roundg k
              case measure => omega
              case rel =>
                refine ⟨q + 1, by omega, by omega, by go_num, ?_, ?_, hK7.out.far (by simp) _, hbel.out.setCell (by simp) _, by simpa using hsz2.out⟩
                · rw [Nat.add_sub_cancel, hfs.out]
                · rw [← hfs.out]
                  refine Blk.rowSet hK11.out q _ ?_
                  intro i hi
                  by_cases hix : i = q
                  · subst hix
                    rw [if_pos (by omega), if_pos rfl]
                  · rw [if_neg hix]
                    by_cases h1 : 1 ≤ i ∧ i < q
                    · rw [if_pos h1, if_pos (by omega)]
                    · rw [if_neg h1, if_neg (by omega)]
            | zero =>
              have hq' : q = 16 := by omega
              subst hq'
              have hlast : ∀ c, c < 16 → (if 1 ≤ c ∧ c < 16 then ((fN L c : Nat) : Int) else 0) = if 1 ≤ c then ((fN L c + cntT L c 0 : Nat) : Int) else 0 := by
                intro c hc
                rw [cntT_zero]
                by_cases h1 : 1 ≤ c
                · rw [if_pos ⟨h1, hc⟩, if_pos h1]; rfl
                · rw [if_neg (fun h => h1 h.1), if_neg h1]
              rw [rowF_congr .u32 16 hlast] at hK11
              have hK11' := hide hK11
              have hbel' := hide hbel
              obtain ⟨w2, hw2⟩ : ∃ w2, w2 = wr := ⟨_, rfl⟩
              subst hw2
              have hB2 : w.heap.size + 2 ≤ w2.heap.size := by omega
              have hsz2' := hide hsz2
              clear hlast hK11 hK7 hbel hsz2 hq hq1
              go_wp2_with (refine wpList_makeN _ rfl (.tmp 64) (.tmp 64) 69 rfl (w.heap.size + 2) 59 .u32 4 Tryd.underlying69 info_u32 .i64 .i64 _ _ L.length rfl rfl rfl rfl (by omega) (by simp only [maxLen]; omega) hB2 ?_; intro w4 ho4 hg4 hz4; replace ho4 := hide ho4; replace hg4 := hide hg4)
              have hb4 := hide (hbel'.out.grown hg4.out (by omega) (fun g h => by cases h))
              have hk4 := hide (hK11'.out.grown hg4.out (by simp))
              clear hbel' hK11'
              rw [hsz2'.out] at ho4 hz4 ⊢
              go_loopg [68] L.length (fun k u68 wr => ∃ m : Nat, k + m = L.length ∧ u68 = .int .i64 m ∧ Blk wr (w.heap.size + 1) 115 (rowF .u32 (fun c => if 1 ≤ c then ((fN L c + cntT L c m : Nat) : Int) else 0) 16) ∧
                wr.ownsRow (w.heap.size + 2) 59 1 (.slice (some ⟨w.heap.size + 2, 0, none⟩) L.length L.length) L.length ((codesT L m).map (Value.int .u32)) ∧ Below w.heap.size w wr)
              case atStart => exact ⟨0, rfl, rfl, hk4.out, by rw [codesT_zero]; exact ho4.out, hb4.out⟩
              case round =>
                obtain ⟨m, hm, rfl, hK, ho, hbel⟩ := hrel
                clear ho4 hb4 hk4 hg4
                cases gk with
                | zero =>
                  have hm' : m = L.length := by omega
                  subst hm'
                  have hmn : ¬ (L.length : Int) < (L.length : Int) := by omega
                  rw [codesT_all] at ho
                  replace ho := hide ho
                  replace hbel := hide hbel
                  clear hK
                  go_wp2
                  go_ret2
                  exact ⟨w.heap.size + 2, L.length, rfl, own_down ho.out (by omega), hbel.out⟩
                | succ k =>
                  have hmn : m < L.length := by omega
                  have hmi : (m : Int) < (L.length : Int) := by omega
                  obtain ⟨b, off, rfl, hbb, hc⟩ := hS.out.at_ (j := m) (by rw [ofN'_len]; omega)
                  have hx := (hbel.cell (p := ⟨b, off + m, none⟩) (by simp; omega)).trans (hc m (by rw [ofN'_len]; omega))
                  rw [ofN'_get] at hx
                  have hxb : L.getD m 0 ≤ 15 := hL.out _ (by simp [hmn])
                  have hcs := fun c => cntT_succ L c m hmn
                  have hsame := codesT_same L m
                  have hset := codesT_set L m hmn
                  have hcF : codeF L m = if L.getD m 0 = 0 then 0 else fN L (L.getD m 0) + cntT L (L.getD m 0) m := rfl
                  clear hc
                  generalize L.getD m 0 = x at *
                  by_cases h0 : x = 0
                  · subst h0
                    have h0i : ¬ (0 : Int) < ((0 : Nat) : Int) := by omega
                    have hsame' := hide (hsame rfl)
                    have hK' := hide hK
                    have ho' := hide ho
                    have hbel' := hide hbel
                    have hcs' := hide hcs
                    clear hsame hset hcF hK ho hbel hcs
                    go_wp2
                    go_roundg k
                    case measure => omega
                    case rel =>
                      refine ⟨m + 1, by omega, by go_num, ?_, by rw [hsame'.out]; exact ho'.out, hbel'.out⟩
                      refine Blk.to hK'.out rfl (rowF_congr _ _ ?_)
                      intro i hi
                      by_cases h1 : 1 ≤ i
                      · rw [if_pos h1, if_pos h1, hcs'.out, if_neg (by omega)]
                        rfl
                      · rw [if_neg h1, if_neg h1]
                  · have hx0 : (0 : Int) < (x : Int) := by omega
                    have hxi : (x : Int) ≤ 15 := by omega
                    have hcell := Blk.rowCell hK x (by omega)
                    rw [if_pos (by omega)] at hcell
                    have hfz := Blk.frozen hK x
                    have hfz2 := ho.frozenAt m
                    have hcm := own_cell ho m hmn
                    have hcb := cntT_le_m L x m
                    have hfb := fN_bd L x (by omega) hxb
                    rw [if_neg h0] at hcF
                    have hset' := hide (hset _ (by rw [hcF]))
                    have hK' := hide hK
                    have ho' := hide ho
                    have hbel' := hide hbel
                    have hcs' := hide hcs
                    clear hsame hset hcF hK ho hbel hcs h0
                    generalize hv : fN L x + cntT L x m = v at *
                    have hvi : (v : Int) ≤ 268500000 := by omega
                    replace hv := hide hv
                    clear hcb hfb
                    go_wp2
                    go_roundg k
                    case measure => omega
                    case rel =>
                      refine ⟨m + 1, by omega, by go_num, ?_, ?_, ?_⟩
                      · refine Blk.rowSet (hK'.out.far (by simp) _) x _ ?_
                        intro i hi
                        by_cases h1 : 1 ≤ i
                        · rw [if_pos h1, if_pos h1, hcs'.out]
                          by_cases hix : i = x
                          · subst hix
                            rw [if_pos rfl, if_pos rfl, ← hv.out]
                            omega
                          · rw [if_neg hix, if_neg (fun e => hix e.symm)]
                            rfl
                        · rw [if_neg h1, if_neg h1, if_neg (by omega)]
                      · rw [← hset'.out]
                        exact own_set_far (own_set ho'.out m _) (by simp [Value.ownBlock]) _
                      · exact (hbel'.out.setCell (by simp) _).setCell (by simp) _

theorem codesF_len (L : List Nat) : (codesF L).length = L.length := by simp [codesF]
theorem codesF_get (L : List Nat) (j : Nat) (h : j < L.length) : (codesF L).getD j 0 = ((codeF L j : Nat) : Int) := by simp [codesF, h]
theorem codeF_bd (L : List Nat) (j : Nat) (hl : L.length ≤ 4096) (hL : ∀ x ∈ L, x ≤ 15) : codeF L j ≤ 268500000 := by
  unfold codeF
  by_cases h : L.getD j 0 = 0
  · rw [if_pos h]; omega
  · rw [if_neg h]
    have hx : L.getD j 0 ≤ 15 := by
      rcases Nat.lt_or_ge j L.length with h1 | h1
      · exact hL _ (by simp [h1])
      · simp [h1] at h
    have h1 := fN_bd L _ hl hx
    have h2 := cntT_le L (L.getD j 0) j
    have h3 := cnt_le L (L.getD j 0)
    omega
theorem takeF (L : List Nat) (m : Nat) (h : m < L.length) : (codesF L).take (m + 1) = (codesF L).take m ++ [((codeF L m : Nat) : Int)] := by
  rw [List.take_succ_eq_append_getElem (by rw [codesF_len]; exact h)]
  simp [codesF]

set_option maxRecDepth 100000 in
set_option maxHeartbeats 4000000 in
theorem implCodes_any (A : Option Addr) (cap : Nat) (L : List Nat) (w : World) (hl0 : 1 ≤ L.length) (hl : (L.length : Int) ≤ 4096) (hL : ∀ x ∈ L, x ≤ 15) (hS : Rd .i64 w w.heap.size A (ofN' L)) :
    Calls Tryd.prog 17 #[.slice A L.length cap] w fun e w' => ∃ v, e = .returned (.tuple #[v, .bool true]) ∧ w'.ownsRow w.heap.size 3 1 v L.length ((codesF L).map (Value.int .i64)) ∧ Below w.heap.size w w' := by
  have cW := hide (words_any A cap L w (by omega) (fun x hx => Nat.le_trans (hL x hx) (by decide)) hS)
  have cC := fun A1 c1 (w1 : World) (h : Rd .u32 w1 w1.heap.size A1 (ofN' L)) => clc_any A1 c1 w1.heap.size L w1 hl0 hl hL h (Nat.le_refl _)
  have hbd := fun j => codeF_bd L j (by omega) hL
  replace cC := hide cC
  replace hbd := hide hbd
  clear hL hS
  go_enter Tryd.func17, Tryd.ntmps17
  go_wp2_with fail
  (with_reducible refine (cW.out).mono ?_)
  rintro e w1 ⟨v1, rfl, ho1, hb1⟩
  obtain ⟨A1, c1, rfl, _, _⟩ := own_len ho1
  have cC1 := hide (cC.out A1 c1 w1 (Rd.ofOwn ho1))
  have hb1' := hide hb1
  clear ho1 hb1
  go_wp2_with (first | (go_at_call 54; (with_reducible refine (cC1.out).mono ?_); rintro e w2 ⟨g, c, rfl, ho2, hb2⟩; replace ho2 := hide ho2; replace hb2 := hide hb2) | go_in)
  have hb3 := hide (hb1'.out.trans (hb2.out.mono hb1'.out.size))
  have hgs := (ho2.out.lt g rfl)
  clear hb1' hb2 cC1
  go_loopg [6, 17] L.length (fun k u6 u17 wr => ∃ m : Nat, k + m = L.length ∧ u17 = .int .i64 m ∧ wr.ownsRow w2.heap.size 3 1 u6 m (((codesF L).take m).map (Value.int .i64)) ∧ Below w2.heap.size w2 wr)
  case atStart => exact ⟨0, rfl, rfl, ⟨rfl, .inl ⟨rfl, rfl⟩⟩, Below.refl _ _⟩
  case round =>
    obtain ⟨m, hm, rfl, hown, hbel⟩ := hrel
    cases gk with
    | zero =>
      have hm' : m = L.length := by omega
      subst hm'
      have hmn : ¬ (L.length : Int) < (L.length : Int) := by omega
      rw [List.take_of_length_le (by rw [codesF_len]; exact Nat.le_refl _)] at hown
      replace hown := hide hown
      replace hbel := hide hbel
      go_wp2
      go_quiet (fail)
      go_wp2
      go_ret2
      exact ⟨_, rfl, own_down (own_drewN hown.out _) hb3.out.size, below_drewN (hb3.out.trans (hbel.out.mono hb3.out.size)) _⟩
    | succ k =>
      have hmn : m < L.length := by omega
      have hmi : (m : Int) < (L.length : Int) := by omega
      have hx := (hbel.cell (p := ⟨g, m, none⟩) hgs.2).trans (own_cell ho2.out m hmn)
      rw [codesF_get L m hmn] at hx
      have hxb := hbd.out m
      have htk := takeF L m hmn
      generalize codeF L m = x at *
      have hxi : (x : Int) ≤ 268500000 := by omega
      have hsz := hbel.size
      replace htk := hide htk
      replace hown := hide hown
      replace hbel := hide hbel
      go_wp2_with (at_builtin; refine wpList_push rfl (.tmp 21) (.tmp 24) _ rfl w2.heap.size 3 _ 8 Tryd.underlying23 info_int rfl u6 m _ rfl hown.out _ rfl rfl (by simp only [maxLen]; omega) (by omega) hsz ?_; intro v' w3 hown3 hg3; replace hown3 := hide hown3; replace hg3 := hide hg3)
      go_roundg k
      case measure => omega
      case rel => exact ⟨m + 1, by omega, by go_num, by rw [htk.out]; simpa using hown3.out, hbel.out.grown hg3.out hsz (fun g hg => (hown.out.lt g hg).1)⟩
end Go.Proofs.YtpiapfahcoopbaaDoor

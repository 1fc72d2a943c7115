/- 'made': the reference's code of lengths. The walk. -/
import Derived.Test.YtpiapfahcoopbaaDoorCodesImpl
import Derived.Test.YtpiapfahcoopbaaDoorRows2
namespace Go.Proofs.YtpiapfahcoopbaaDoor
set_option linter.unusedSimpArgs false
set_option linter.unusedVariables false
open Go.RowKit Plain

/-- A code in memory: sixteen counts, and the symbols. -/
def codeRow (F : Nat → Int) (v : Value) : Array Value := (rowF .i64 F 16).push v
theorem rowF_size (k : IntKind) (F : Nat → Int) (n : Nat) : (rowF k F n).size = n := by simp [rowF]
theorem codeRow_get (F : Nat → Int) (v : Value) (i : Nat) (h : i < 16) : (codeRow F v)[i]? = some (.int .i64 (F i)) := by
  unfold codeRow
  rw [Array.getElem?_push, rowF_size, if_neg (by omega), rowF_get _ _ _ _ h]
theorem codeRow_last (F : Nat → Int) (v : Value) : (codeRow F v)[16]? = some v := by
  unfold codeRow
  rw [Array.getElem?_push, rowF_size, if_pos rfl]
theorem codeRow_set (F G : Nat → Int) (v : Value) (c : Nat) (x : Int) (hc : c < 16) (hG : ∀ i, i < 16 → G i = if i = c then x else F i) : (codeRow F v).setIfInBounds c (.int .i64 x) = codeRow G v := by
  apply Array.ext_getElem?
  intro i
  rw [Array.getElem?_setIfInBounds]
  rcases Nat.lt_trichotomy i 16 with h | h | h
  · rw [codeRow_get G v i h, hG i h]
    by_cases hic : c = i
    · subst hic
      simp [codeRow, rowF]
      omega
    · rw [if_neg hic, codeRow_get F v i h, if_neg (fun e => hic e.symm)]
  · subst h
    rw [if_neg (by omega), codeRow_last, codeRow_last]
  · rw [if_neg (by omega), Array.getElem?_eq_none (by simp [codeRow, rowF]; omega), Array.getElem?_eq_none (by simp [codeRow, rowF]; omega)]
theorem codeRow_put (F : Nat → Int) (v v' : Value) : (codeRow F v).setIfInBounds 16 v' = codeRow F v' := by
  apply Array.ext_getElem?
  intro i
  rw [Array.getElem?_setIfInBounds]
  rcases Nat.lt_trichotomy i 16 with h | h | h
  · rw [if_neg (by omega), codeRow_get F v i h, codeRow_get F v' i h]
  · subst h
    rw [if_pos rfl, codeRow_last]
    simp [codeRow, rowF]
  · rw [if_neg (by omega), Array.getElem?_eq_none (by simp [codeRow, rowF]; omega), Array.getElem?_eq_none (by simp [codeRow, rowF]; omega)]
theorem codeRow_congr {F G : Nat → Int} (v : Value) (h : ∀ i, i < 16 → F i = G i) : codeRow F v = codeRow G v := by
  unfold codeRow
  rw [rowF_congr _ _ h]

theorem size_code : (Tryd.prog.info? 75).map (·.size) = some 17 := by kernel_rfl
/-- What 'made' says of lengths. -/
def madeB (L : List Nat) : Bool := if nz L = 0 then false else if nz L = 1 then true else decide (frI L 15 = 0)
theorem frI_neg (L : List Nat) (n m : Nat) (h : n ≤ m) (hn : frI L n < 0) : frI L m < 0 := by
  induction m with
  | zero => simp at h; subst h; exact hn
  | succ m ih =>
    rcases Nat.lt_or_ge n (m + 1) with h1 | h1
    · have := ih (by omega)
      rw [frI]
      omega
    · have : n = m + 1 := by omega
      subst this
      exact hn

def MadePost (L : List Nat) (w : World) (e : Ending) (w' : World) : Prop :=
  ∃ v, e = .returned (.tuple #[.agg (codeRow (fun c => if 1 ≤ c then ((cnt L c : Nat) : Int) else 0) v), .bool (madeB L)]) ∧
    w'.ownsRow w.heap.size 3 1 v (nz L) ((ofN' (symsU L 15)).map (Value.int .i64)) ∧ Below w.heap.size w w'

set_option maxRecDepth 100000 in
set_option maxHeartbeats 4000000 in
theorem made_any (A : Option Addr) (cap B : Nat) (L : List Nat) (w : World) (hl : (L.length : Int) ≤ 4096) (hL : ∀ x ∈ L, x ≤ 15) (hS : Rd .i64 w B A (ofN' L)) (hB : B ≤ w.heap.size) :
    Calls Tryd.prog 38 #[.slice A L.length cap] w (MadePost L w) := by
  replace hS := hide hS
  replace hL := hide hL
  go_enter Tryd.func38, Tryd.ntmps38
  go_wp2
  go_loopg [5] 15 (fun k u5 wr => ∃ n v, k + n = 16 ∧ 1 ≤ n ∧ u5 = .int .i64 (n : Nat) ∧ Blk wr (w.heap.size + 1) 75 (codeRow (fun c => if 1 ≤ c ∧ c < n then ((cnt L c : Nat) : Int) else 0) v) ∧
    wr.ownsRow (w.heap.size + 2) 3 1 v (cntS L (n - 1)) ((ofN' (symsU L (n - 1))).map (Value.int .i64)) ∧ Blk wr w.heap.size 75 (codeRow (fun _ => 0) (.slice none 0 0)) ∧ Below w.heap.size w wr ∧ w.heap.size + 2 ≤ wr.heap.size)
  case atStart =>
    refine ⟨1, .slice none 0 0, rfl, Nat.le_refl _, rfl, ?_, ⟨rfl, .inl ⟨rfl, rfl⟩⟩, ?_, ((Below.refl _ w).alloc (Nat.le_refl _) _).alloc (by simp) _, by simp⟩
    · rw [codeRow_congr (G := fun _ => 0) _ (fun i _ => if_neg (by omega))]
      have h := Blk.new (w.alloc (.cells (codeRow (fun _ => 0) (.slice none 0 0)) 75)) 75 (codeRow (fun _ => 0) (.slice none 0 0))
      rw [World.size_alloc] at h
      exact h
    · exact (Blk.new w 75 (codeRow (fun _ => 0) (.slice none 0 0))).alloc _
  case round =>
    obtain ⟨n, v, hn, hn1, rfl, hK, hown, hK2, hbel, hsz⟩ := hrel
    obtain ⟨w1, hw1⟩ : ∃ w1, w1 = wr := ⟨_, rfl⟩
    subst hw1
    cases gk with
    | succ k =>
      have hni : (n : Int) ≤ 15 := by omega
      have hn1i : (1 : Int) ≤ (n : Int) := by omega
      have hcl := cntS_le L (n - 1) hL.out (by omega)
      replace hK := hide hK
      replace hown := hide hown
      replace hK2 := hide hK2
      replace hbel := hide hbel
      go_wp2
      go_loopg [6] L.length (fun k u6 wr => ∃ m v, k + m = L.length ∧ u6 = .int .i64 (m : Nat) ∧ Blk wr (w.heap.size + 1) 75 (codeRow (fun c => if c = n then ((cntT L n m : Nat) : Int) else if 1 ≤ c ∧ c < n then ((cnt L c : Nat) : Int) else 0) v) ∧
        wr.ownsRow (w.heap.size + 2) 3 1 v (cntS L (n - 1) + cntT L n m) ((ofN' (symsU L (n - 1) ++ symsAt L n m)).map (Value.int .i64)) ∧ Blk wr w.heap.size 75 (codeRow (fun _ => 0) (.slice none 0 0)) ∧ Below w.heap.size w wr ∧ w.heap.size + 2 ≤ wr.heap.size)
      case atStart =>
        refine ⟨0, v, rfl, rfl, ?_, ?_, hK2.out, hbel.out, hsz⟩
        · refine Blk.to hK.out rfl (codeRow_congr v ?_)
          intro i _
          by_cases h : i = n
          · subst h; rw [if_pos rfl, cntT_zero, if_neg (by omega)]; rfl
          · rw [if_neg h]
        · rw [cntT_zero, Nat.add_zero]
          simpa [symsAt] using hown.out
      case round =>
        obtain ⟨m, v1, hm, rfl, hKm, hom, hK2m, hbm, hszm⟩ := hrel
        clear hK hown hK2 hbel
        cases gk with
        | zero =>
          have hm' : m = L.length := by omega
          subst hm'
          have hmn : ¬ (L.length : Int) < (L.length : Int) := by omega
          rw [cntT_all] at hom
          simp only [cntT_all] at hKm
          have hcS : cntS L (n + 1 - 1) = cntS L (n - 1) + cnt L n := by
            obtain ⟨q, rfl⟩ : ∃ q, n = q + 1 := ⟨n - 1, by omega⟩
            simp only [Nat.add_sub_cancel]
            rw [cntS]
          have hsU : symsU L (n + 1 - 1) = symsU L (n - 1) ++ symsAt L n L.length := by
            obtain ⟨q, rfl⟩ : ∃ q, n = q + 1 := ⟨n - 1, by omega⟩
            simp only [Nat.add_sub_cancel]
            rw [symsU]
          replace hcS := hide hcS
          replace hsU := hide hsU
          replace hKm := hide hKm
          replace hom := hide hom
          replace hK2m := hide hK2m
          replace hbm := hide hbm
          go_wp2
          go_roundg k
          case measure => omega
          case rel =>
            refine ⟨n + 1, v1, by omega, by omega, by go_num, ?_, by rw [hcS.out, hsU.out]; exact hom.out, hK2m.out, hbm.out, hszm⟩
            refine Blk.to hKm.out rfl (codeRow_congr v1 ?_)
            intro i _
            by_cases h : i = n
            · subst h; rw [if_pos ⟨hn1, by omega⟩, if_pos rfl]
            · rw [if_neg h]
              by_cases h2 : 1 ≤ i ∧ i < n
              · rw [if_pos h2, if_pos ⟨h2.1, by omega⟩]
              · rw [if_neg h2, if_neg (fun e => h2 ⟨e.1, by omega⟩)]
        | succ k2 =>
          have hmn : m < L.length := by omega
          have hmi : (m : Int) < (L.length : Int) := by omega
          obtain ⟨b, off, rfl, hbb, hc⟩ := hS.out.at_ (j := m) (by rw [ofN'_len]; omega)
          have hx := (hbm.cell (p := ⟨b, off + m, none⟩) (by simp; omega)).trans (hc m (by rw [ofN'_len]; omega))
          rw [ofN'_get] at hx
          have hcs := cntT_succ L n m hmn
          have hsa := symsAt_succ L n m
          clear hc
          generalize L.getD m 0 = x at *
          by_cases hxn : x = n
          · subst hxn
            have hq : ((x : Int) == (x : Int)) = true := by simp
            obtain ⟨As, cs, rfl, _, _⟩ := own_len hom
            rw [if_pos rfl] at hcs hsa
            have hcell := (hKm.cell x).trans (codeRow_get _ _ x (by omega))
            rw [if_pos rfl] at hcell
            have hcellS := (hKm.cell 16).trans (codeRow_last _ _)
            have hfx := hKm.frozen x
            have hf16 := hKm.frozen 16
            have hct := cntT_le_m L x m
            have hcti : ((cntT L x m : Nat) : Int) ≤ 4096 := by omega
            have hsum : cntS L (x - 1) + cntT L x m + 1 ≤ 9000 := by omega
            have hne16 : ¬ x = 16 := by omega
            have hne16' : ¬ 16 = x := by omega
            have hnb : (Value.slice As (cntS L (x - 1) + cntT L x m) cs).ownBlock ≠ some (w.heap.size + 1) := fun e => by have := (hom.lt _ e).1; omega
            have hom' := hide (own_set_far hom (p := ⟨w.heap.size + 1, x, none⟩) hnb (.int .i64 (((cntT L x m : Nat) : Int) + 1)))
            have hzB : w.heap.size + 2 ≤ (wr.setCell ⟨w.heap.size + 1, x, none⟩ (.int .i64 (((cntT L x m : Nat) : Int) + 1))).heap.size := by simpa using hszm
            have hlow := fun g hg => (hom'.out.lt g hg).1
            replace hlow := hide hlow
            replace hcs := hide hcs
            replace hsa := hide hsa
            have hK1 := hide (hKm.set_ x (.int .i64 (((cntT L x m : Nat) : Int) + 1)))
            have hK2' := hide (hK2m.far (p := ⟨w.heap.size + 1, x, none⟩) (by simp) (.int .i64 (((cntT L x m : Nat) : Int) + 1)))
            have hb1 := hide (hbm.setCell (p := ⟨w.heap.size + 1, x, none⟩) (by simp) (.int .i64 (((cntT L x m : Nat) : Int) + 1)))
            clear hKm hom hK2m hbm
            have hbx : Hid (wr.heap.size = (wr.setCell ⟨w.heap.size + 1, x, none⟩ (.int .i64 (((cntT L x m : Nat) : Int) + 1))).heap.size) := hide (by simp)
            go_wp2_with (at_builtin; refine wpList_pushB rfl (.tmp 33) (.tmp 35) _ rfl (w.heap.size + 2) 3 _ 8 Tryd.underlying23 info_int rfl (.slice As (cntS L (x - 1) + cntT L x m) cs) (cntS L (x - 1) + cntT L x m) _ rfl hom'.out _ rfl wr.heap.size hbx.out rfl (by simp only [maxLen]; omega) (by omega) hzB ?_; intro v' w3 hown3 hg3; obtain ⟨A3, c3, rfl, _, _⟩ := own_len hown3; have hfz3 := (World.frozen?_of_block (a := ⟨w.heap.size + 1, 16, none⟩) (hg3.block _ hK1.out.lt hnb.symm)).trans (hK1.out.frozen 16); have hcz3 := (World.cell?_of_block (a := ⟨w.heap.size + 1, 16, none⟩) (hg3.block _ hK1.out.lt hnb.symm)).trans ((hK1.out.cell 16).trans (by rw [Array.getElem?_setIfInBounds, if_neg hne16, codeRow_last])); replace hown3 := hide hown3; replace hg3 := hide hg3)
            go_roundg k2
            case measure => omega
            case rel =>
              have hbz := hb1.out.grown hg3.out (Nat.le_trans (by omega) hzB) (fun g hg => by have := hlow.out g hg; omega)
              have hg3s := hg3.out.size
              refine ⟨m + 1, .slice A3 (cntS L (x - 1) + cntT L x m + 1) c3, by omega, by go_num, ?_, ?_, ?_, hbz.setCell (by simp) _, by simp; omega⟩
              · have h5 := Blk.set_ (Blk.grown hK1.out hg3.out hnb) 16 (.slice A3 (cntS L (x - 1) + cntT L x m + 1) c3)
                refine Blk.to h5 rfl ?_
                rw [codeRow_set _ (fun c => if c = x then ((cntT L x (m + 1) : Nat) : Int) else if 1 ≤ c ∧ c < x then ((cnt L c : Nat) : Int) else 0) _ x _ (by omega), codeRow_put]
                intro i hi
                by_cases h : i = x
                · rw [if_pos h, if_pos h, hcs.out]; rfl
                · rw [if_neg h, if_neg h, if_neg h]
              · rw [hcs.out, hsa.out, ← List.append_assoc, ← Nat.add_assoc]
                have h6 := own_set_far hown3.out (p := ⟨w.heap.size + 1, 16, none⟩) (fun e => by have h9 : w.heap.size + 2 ≤ w.heap.size + 1 := (hown3.out.lt _ e).1; omega) (.slice A3 (cntS L (x - 1) + cntT L x m + 1) c3)
                unfold ofN' at h6 ⊢
                rw [List.map_append, List.map_append]
                exact h6
              · exact (hK2'.out.grown hg3.out (fun e => by have := hlow.out _ e; omega)).far (by simp) _
          · have hq : ((x : Int) == (n : Int)) = false := beq_false_of_ne (by omega)
            rw [if_neg hxn, Nat.add_zero] at hcs
            rw [if_neg hxn, List.append_nil] at hsa
            replace hcs := hide hcs
            replace hsa := hide hsa
            replace hKm := hide hKm
            replace hom := hide hom
            replace hK2m := hide hK2m
            replace hbm := hide hbm
            go_wp2
            go_roundg k2
            case measure => omega
            case rel => exact ⟨m + 1, v1, by omega, by go_num, by rw [hcs.out]; exact hKm.out, by rw [hcs.out, hsa.out]; exact hom.out, hK2m.out, hbm.out, hszm⟩
    | zero =>
      have hn' : n = 16 := by omega
      subst hn'
      replace hK := hide hK
      replace hown := hide hown
      replace hK2 := hide hK2
      replace hbel := hide hbel
      have hN := cntS_all L hL.out
      have e15 : 16 - 1 = 15 := rfl
      rw [e15, hN] at hown
      obtain ⟨As, cs, rfl, _, _⟩ := own_len hown.out
      have hK' : Blk w1 (w.heap.size + 1) 75 (codeRow (fun c => if 1 ≤ c then ((cnt L c : Nat) : Int) else 0) (.slice As (nz L) cs)) := by
        rw [codeRow_congr (G := fun c => if 1 ≤ c ∧ c < 16 then ((cnt L c : Nat) : Int) else 0)]
        · exact hK.out
        · intro i hi
          by_cases h : 1 ≤ i
          · rw [if_pos h, if_pos ⟨h, hi⟩]
          · rw [if_neg h, if_neg (fun e => h e.1)]
      clear hK
      have k16 : w1.cell? ⟨w.heap.size + 1, 16, none⟩ = some (.slice As (nz L) cs) := (hK'.cell 16).trans (by rw [codeRow_last])
      have hR := hide hK'.range
      have hT := hide (hK2.out.there 17 (by simp [codeRow, rowF]))
      have hsz17 : (codeRow (fun c => if 1 ≤ c then ((cnt L c : Nat) : Int) else 0) (.slice As (nz L) cs)).size = 17 := by simp [codeRow, rowF]
      have hone : (codeRow (fun c => if 1 ≤ c then ((cnt L c : Nat) : Int) else 0) (.slice As (nz L) cs)).all (·.oneCell') = true := by
        rw [Array.all_eq_true_iff_forall_mem]
        intro v hv
        unfold codeRow rowF at hv
        simp at hv
        rcases hv with ⟨_, _, rfl⟩ | rfl <;> rfl
      have hcn := fun i (h1 : 1 ≤ i) (h2 : i < 16) => (hK'.cell i).trans ((codeRow_get _ _ i h2).trans (by rw [if_pos h1]))
      replace hcn := hide hcn
      clear hK'
      generalize hCS : codeRow (fun c => if 1 ≤ c then ((cnt L c : Nat) : Int) else 0) (.slice As (nz L) cs) = CS at *
      have hCS' := hide hCS
      clear hCS
      have hnl : nz L ≤ L.length := by rw [← hN]; exact cntS_le L 15 hL.out (by decide)
      have hni : ((nz L : Nat) : Int) ≤ 4096 := by omega
      have hmd : madeB L = if nz L = 0 then false else if nz L = 1 then true else decide (frI L 15 = 0) := rfl
      replace hmd := hide hmd
      replace hN := hide hN
      by_cases h0 : nz L = 0
      · have t0 : (((nz L : Nat) : Int) == 0) = true := by rw [h0]; rfl
        replace h0 := hide h0
        go_wp2_with (first | (refine wpList_load_mid rfl 75 (.tmp 4) rfl (w.heap.size + 1) 0 rfl CS.toList _ hR.out Tryd.underlying75 rfl (by rw [Array.length_toList, hsz17]; exact size_code) ?_) | (refine wpList_store_mid rfl 75 (.tmp 2) (.tmp 42) rfl w.heap.size 0 CS.toList.toArray rfl rfl (by rw [Array.toArray_toList, hsz17]; exact hT.out) (by rw [Array.toArray_toList, hsz17]; exact size_code) (by rw [Array.toArray_toList]; exact hone) ?_) | fail)
        have hrr : (loadVar 75 ⟨w.heap.size, 0, none⟩).run Tryd.prog (w1.setCells w.heap.size 0 CS.toList) = .ok (.agg CS) (w1.setCells w.heap.size 0 CS.toList) := by
          have h9 := run_loadVar_mid (P := Tryd.prog) _ w.heap.size 0 75 CS.toList _ (World.rangeAt_setCells_same w1 w.heap.size 0 CS.toList (by rw [Array.length_toList, hsz17]; exact hT.out)) Tryd.underlying75 rfl (by rw [Array.length_toList, hsz17]; exact size_code)
          rw [Array.toArray_toList] at h9
          exact h9
        refine bodyPost_ret (ret_cell_tmp (x := .bool false) rfl rfl hrr rfl) rfl ⟨.slice As (nz L) cs, ?_, own_setCells_far (by rcases hown.out.2 with ⟨e, _⟩ | ⟨g, cap, cur, e, hg, _⟩ <;> rw [e] <;> simp [Value.ownBlock] <;> omega) _ _ (own_down hown.out (by omega)), below_setCells (Nat.le_refl _) _ _ hbel.out⟩
        rw [hCS'.out, hmd.out, if_pos h0.out]
      · have t0 : (((nz L : Nat) : Int) == 0) = false := beq_false_of_ne (by omega)
        by_cases h1 : nz L = 1
        · have t1 : (((nz L : Nat) : Int) == 1) = true := by rw [h1]; rfl
          replace h1 := hide h1
          replace h0 := hide h0
          go_wp2_with (first | (refine wpList_load_mid rfl 75 (.tmp 4) rfl (w.heap.size + 1) 0 rfl CS.toList _ hR.out Tryd.underlying75 rfl (by rw [Array.length_toList, hsz17]; exact size_code) ?_) | (refine wpList_store_mid rfl 75 (.tmp 2) (.tmp 47) rfl w.heap.size 0 CS.toList.toArray rfl rfl (by rw [Array.toArray_toList, hsz17]; exact hT.out) (by rw [Array.toArray_toList, hsz17]; exact size_code) (by rw [Array.toArray_toList]; exact hone) ?_) | fail)
          have hrr : (loadVar 75 ⟨w.heap.size, 0, none⟩).run Tryd.prog (w1.setCells w.heap.size 0 CS.toList) = .ok (.agg CS) (w1.setCells w.heap.size 0 CS.toList) := by
            have h9 := run_loadVar_mid (P := Tryd.prog) _ w.heap.size 0 75 CS.toList _ (World.rangeAt_setCells_same w1 w.heap.size 0 CS.toList (by rw [Array.length_toList, hsz17]; exact hT.out)) Tryd.underlying75 rfl (by rw [Array.length_toList, hsz17]; exact size_code)
            rw [Array.toArray_toList] at h9
            exact h9
          refine bodyPost_ret (ret_cell_tmp (x := .bool true) rfl rfl hrr rfl) rfl ⟨.slice As (nz L) cs, ?_, own_setCells_far (by rcases hown.out.2 with ⟨e, _⟩ | ⟨g, cap, cur, e, hg, _⟩ <;> rw [e] <;> simp [Value.ownBlock] <;> omega) _ _ (own_down hown.out (by omega)), below_setCells (Nat.le_refl _) _ _ hbel.out⟩
          rw [hCS'.out, hmd.out, if_neg h0.out, if_pos h1.out]
        · have t1 : (((nz L : Nat) : Int) == 1) = false := beq_false_of_ne (by omega)
          replace h1 := hide h1
          replace h0 := hide h0
          go_wp2
          go_loopg [7, 8] 15 (fun k u7 u8 wr => ∃ n : Nat, k + n = 16 ∧ 1 ≤ n ∧ u8 = .int .i64 n ∧ u7 = .int .i64 (frI L (n - 1)) ∧ 0 ≤ frI L (n - 1) ∧ w1 = wr)
          case atStart => exact ⟨1, rfl, Nat.le_refl _, rfl, rfl, by simp [frI], rfl⟩
          case round =>
            obtain ⟨n, hn, hn1, rfl, rfl, hfr, rfl⟩ := hrel
            cases gk with
            | zero =>
              have hn' : n = 16 := by omega
              subst hn'
              have e15' : 16 - 1 = 15 := rfl
              rw [e15'] at hfr ⊢
              by_cases hz : frI L 15 = 0
              · have tz : (frI L 15 == 0) = true := by rw [hz]; rfl
                replace hz := hide hz
                go_wp2_with (first | (refine wpList_load_mid rfl 75 (.tmp 4) rfl (w.heap.size + 1) 0 rfl CS.toList _ hR.out Tryd.underlying75 rfl (by rw [Array.length_toList, hsz17]; exact size_code) ?_) | (refine wpList_store_mid rfl 75 (.tmp 2) (.tmp 62) rfl w.heap.size 0 CS.toList.toArray rfl rfl (by rw [Array.toArray_toList, hsz17]; exact hT.out) (by rw [Array.toArray_toList, hsz17]; exact size_code) (by rw [Array.toArray_toList]; exact hone) ?_) | fail)
                have hrr : (loadVar 75 ⟨w.heap.size, 0, none⟩).run Tryd.prog (w1.setCells w.heap.size 0 CS.toList) = .ok (.agg CS) (w1.setCells w.heap.size 0 CS.toList) := by
                  have h9 := run_loadVar_mid (P := Tryd.prog) _ w.heap.size 0 75 CS.toList _ (World.rangeAt_setCells_same w1 w.heap.size 0 CS.toList (by rw [Array.length_toList, hsz17]; exact hT.out)) Tryd.underlying75 rfl (by rw [Array.length_toList, hsz17]; exact size_code)
                  rw [Array.toArray_toList] at h9
                  exact h9
                refine bodyPost_ret (ret_cell_tmp (x := .bool true) rfl rfl hrr rfl) rfl ⟨.slice As (nz L) cs, ?_, own_setCells_far (by rcases hown.out.2 with ⟨e, _⟩ | ⟨g, cap, cur, e, hg, _⟩ <;> rw [e] <;> simp [Value.ownBlock] <;> omega) _ _ (own_down hown.out (by omega)), below_setCells (Nat.le_refl _) _ _ hbel.out⟩
                rw [hCS'.out, hmd.out, if_neg h0.out, if_neg h1.out, decide_eq_true hz.out]
              · have tz : (frI L 15 == 0) = false := beq_false_of_ne hz
                replace hz := hide hz
                go_wp2_with (first | (refine wpList_load_mid rfl 75 (.tmp 4) rfl (w.heap.size + 1) 0 rfl CS.toList _ hR.out Tryd.underlying75 rfl (by rw [Array.length_toList, hsz17]; exact size_code) ?_) | (refine wpList_store_mid rfl 75 (.tmp 2) (.tmp 62) rfl w.heap.size 0 CS.toList.toArray rfl rfl (by rw [Array.toArray_toList, hsz17]; exact hT.out) (by rw [Array.toArray_toList, hsz17]; exact size_code) (by rw [Array.toArray_toList]; exact hone) ?_) | fail)
                have hrr : (loadVar 75 ⟨w.heap.size, 0, none⟩).run Tryd.prog (w1.setCells w.heap.size 0 CS.toList) = .ok (.agg CS) (w1.setCells w.heap.size 0 CS.toList) := by
                  have h9 := run_loadVar_mid (P := Tryd.prog) _ w.heap.size 0 75 CS.toList _ (World.rangeAt_setCells_same w1 w.heap.size 0 CS.toList (by rw [Array.length_toList, hsz17]; exact hT.out)) Tryd.underlying75 rfl (by rw [Array.length_toList, hsz17]; exact size_code)
                  rw [Array.toArray_toList] at h9
                  exact h9
                refine bodyPost_ret (ret_cell_tmp (x := .bool false) rfl rfl hrr rfl) rfl ⟨.slice As (nz L) cs, ?_, own_setCells_far (by rcases hown.out.2 with ⟨e, _⟩ | ⟨g, cap, cur, e, hg, _⟩ <;> rw [e] <;> simp [Value.ownBlock] <;> omega) _ _ (own_down hown.out (by omega)), below_setCells (Nat.le_refl _) _ _ hbel.out⟩
                rw [hCS'.out, hmd.out, if_neg h0.out, if_neg h1.out, decide_eq_false hz.out]
            | succ k =>
              have hni : (n : Int) ≤ 15 := by omega
              have hn1i : (1 : Int) ≤ (n : Int) := by omega
              have hcell := hcn.out n hn1 (by omega)
              have hle := frI_le L (n - 1) (by omega)
              have hp : (2 : Int) ^ (n - 1) ≤ 16384 := by
                have h4 := Int.ofNat_le.2 (Nat.pow_le_pow_right (show 0 < 2 by decide) (show n - 1 ≤ 14 by omega))
                rw [Int.natCast_pow, Int.natCast_pow] at h4
                exact h4
              have hcb := cnt_le L n
              have hfs : frI L n = 2 * frI L (n - 1) - ((cnt L n : Nat) : Int) := by
                obtain ⟨q, rfl⟩ : ∃ q, n = q + 1 := ⟨n - 1, by omega⟩
                rw [frI, Nat.add_sub_cancel]
              have hneg := frI_neg L n 15 (by omega)
              have hci : ((cnt L n : Nat) : Int) ≤ 4096 := by omega
              have hfl : frI L (n - 1) ≤ 16384 := by omega
              generalize hF : frI L (n - 1) = f at *
              replace hF := hide hF
              replace hneg := hide hneg
              by_cases hng : 2 * f - ((cnt L n : Nat) : Int) < 0
              · have hz : ¬ frI L 15 = 0 := by have := hneg.out (by rw [hfs]; exact hng); omega
                replace hz := hide hz
                replace hfs := hide hfs
                go_wp2_with (first | (refine wpList_load_mid rfl 75 (.tmp 4) rfl (w.heap.size + 1) 0 rfl CS.toList _ hR.out Tryd.underlying75 rfl (by rw [Array.length_toList, hsz17]; exact size_code) ?_) | (refine wpList_store_mid rfl 75 (.tmp 2) (.tmp 61) rfl w.heap.size 0 CS.toList.toArray rfl rfl (by rw [Array.toArray_toList, hsz17]; exact hT.out) (by rw [Array.toArray_toList, hsz17]; exact size_code) (by rw [Array.toArray_toList]; exact hone) ?_) | fail)
                have hrr : (loadVar 75 ⟨w.heap.size, 0, none⟩).run Tryd.prog (w1.setCells w.heap.size 0 CS.toList) = .ok (.agg CS) (w1.setCells w.heap.size 0 CS.toList) := by
                  have h9 := run_loadVar_mid (P := Tryd.prog) _ w.heap.size 0 75 CS.toList _ (World.rangeAt_setCells_same w1 w.heap.size 0 CS.toList (by rw [Array.length_toList, hsz17]; exact hT.out)) Tryd.underlying75 rfl (by rw [Array.length_toList, hsz17]; exact size_code)
                  rw [Array.toArray_toList] at h9
                  exact h9
                refine bodyPost_ret (ret_cell_tmp (x := .bool false) rfl rfl hrr rfl) rfl ⟨.slice As (nz L) cs, ?_, own_setCells_far (by rcases hown.out.2 with ⟨e, _⟩ | ⟨g, cap, cur, e, hg, _⟩ <;> rw [e] <;> simp [Value.ownBlock] <;> omega) _ _ (own_down hown.out (by omega)), below_setCells (Nat.le_refl _) _ _ hbel.out⟩
                rw [hCS'.out, hmd.out, if_neg h0.out, if_neg h1.out, decide_eq_false hz.out]
              · have hge : 0 ≤ frI L n := by rw [hfs]; omega
                replace hfs := hide hfs
                replace hge := hide hge
                go_wp2
                go_roundg k
                case measure => omega
                case rel => exact ⟨n + 1, by omega, by omega, by go_num, by rw [Nat.add_sub_cancel, hfs.out], by rw [Nat.add_sub_cancel]; exact hge.out, rfl⟩
end Go.Proofs.YtpiapfahcoopbaaDoor

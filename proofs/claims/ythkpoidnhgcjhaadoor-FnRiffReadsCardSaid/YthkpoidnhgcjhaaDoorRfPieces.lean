/- 'pieces.Read': the walk. -/
import Derived.Test.YthkpoidnhgcjhaaDoorRfDef
import Derived.Outline
import Derived.WalkLawsBesides
import Derived.RegionTactic
import Derived.Deep.QuietTactic
import Derived.BigQuiet
import Derived.Deep.RegionHeld3
import Derived.Deep.RegionLaw
import Derived.Deep.DeepCutAuto
import Derived.Deep.CutBlock
namespace Go.Proofs.YthkpoidnhgcjhaaDoor
set_option linter.unusedSimpArgs false
set_option linter.unusedVariables false
open Go.RowKit Plain

theorem size_u8 : (Tryd.prog.info? 5).map (·.size) = some 1 := by kernel_rfl

set_option maxRecDepth 100000 in
set_option maxHeartbeats 4000000 in
theorem pieces_any (B p d off L capd T : Nat) (cl : List Int) (bs : List Nat) (td : TypeId) (cs : Array Value) (ae : Addr) (w : World) (hb : Base w B p cl bs T) (hl : (bs.length : Int) ≤ 2147483647) (hcl : (cl.length : Int) ≤ 2147483647) (hT : (T : Int) ≤ 4611686018427387904)
    (hL0 : 1 ≤ L) (hL : (L : Int) ≤ 2147483647) (hd : Blk w d td cs) (hfit : off + L ≤ cs.size) (hLc : L ≤ capd) (hdp : d ≠ p) (hdB : B ≤ d) (hBw : B ≤ w.heap.size) (hE : w.cell? ⟨0, 0, none⟩ = some (.iface 122 (.pointer (some ae)))) (hEB : 0 < B) (hclw : ∀ x ∈ cl, -9223372036854775808 ≤ x ∧ x ≤ 9223372036854775807) :
    Calls Tryd.prog 55 #[.pointer (some ⟨p, 0, none⟩), .slice (some ⟨d, off, none⟩) L capd] w (ReadPost bs L d off td cs [d, p] (fun n w' => Base w' B p cl (bs.drop n) (T + 1)) ae w) := by
  obtain ⟨A, cap, C, capc, turn, h1, h2, h3, h4, h5⟩ := hb.h
  have hBp := hb.ge
  have c0 := h1.cell 0
  have c1 := h1.cell 1
  have c2 := h1.cell 2
  have f0 := h1.frozen 0
  have f2 := h1.frozen 2
  simp at c0 c1 c2
  replace h1 := hide h1
  replace h3 := hide h3
  replace h4 := hide h4
  replace hb := hide hb
  replace hd := hide hd
  replace hclw := hide hclw
  by_cases hz : bs.length = 0
  · have hq : ((bs.length : Int) == 0) = true := by rw [hz]; rfl
    have hnil : bs = [] := List.eq_nil_of_length_eq_zero hz
    have hb2 : Hid (∀ n, Base (w.drewN n) B p cl (bs.drop 0) (T + 1)) := hide fun n => ⟨⟨A, cap, C, capc, turn, h1.out, h2, h3.out, h4.out, by omega⟩, hBp⟩
    replace hnil := hide hnil
    replace hz := hide hz
    go_enter Tryd.func55, Tryd.ntmps55
    go_wp2
    go_quiet (fail)
    go_wp2
    go_ret2
    exact ⟨0, true, Nat.zero_le _, Nat.zero_le _, fun h => by have := hz.out; omega, fun _ => hz.out.symm, fun _ => rfl, rfl, ⟨cs, hd.out, by simpa using Fill.nil cs off⟩, (Upd.refl _ w).drewN _, hb2.out _⟩
  · have hq : ((bs.length : Int) == 0) = false := beq_false_of_ne (by omega)
    go_enter Tryd.func55, Tryd.ntmps55
    go_upto_if 22 with fail
    go_cut [7] (fun x7 wc => ∃ (cut : Int) (tn : Nat), x7 = .int .i64 cut ∧ (-9223372036854775808 ≤ cut ∧ cut ≤ 9223372036854775807) ∧ tn ≤ T + 1 ∧ Blk wc p 62 #[.slice A bs.length cap, .slice C cl.length capc, .int .i64 (tn : Nat)] ∧ Upd [p] w wc)
    case first =>
      by_cases hc0 : cl.length = 0
      · have hcz : ¬ (0 : Int) < (cl.length : Int) := by omega
        have hfin := Upd.refl [p] w
        replace hfin := hide hfin
        go_wp2
        go_meet
        exact ⟨0, turn, rfl, by omega, by omega, h1.out, hfin.out⟩
      · have hcz : (0 : Int) < (cl.length : Int) := by omega
        obtain ⟨b, o, rfl, hbb, hcc⟩ := h4.out.at_ (j := turn % cl.length) (Nat.mod_lt _ (by omega))
        have hx := hcc (turn % cl.length) (Nat.mod_lt _ (by omega))
        have hml : turn % cl.length < cl.length := Nat.mod_lt _ (by omega)
        have hmm : (turn : Int) % (cl.length : Int) = ((turn % cl.length : Nat) : Int) := by omega
        have htm : (turn : Int).tmod (cl.length : Int) = ((turn % cl.length : Nat) : Int) := by rw [Int.tmod_eq_emod_of_nonneg (by omega)]; exact hmm
        have hcw : -9223372036854775808 ≤ cl.getD (turn % cl.length) 0 ∧ cl.getD (turn % cl.length) 0 ≤ 9223372036854775807 := hclw.out _ (by rw [getD_eq _ _ hml]; exact List.getElem_mem _)
        generalize cl.getD (turn % cl.length) 0 = cut at *
        generalize turn % cl.length = ix at *
        have hixI : (ix : Int) < (cl.length : Int) := by omega
        have hix0 : (0 : Int) ≤ (ix : Int) := by omega
        have hlz : ¬ (cl.length : Int) = 0 := by omega
        have htI : (turn : Int) ≤ 4611686018427387904 := by omega
        replace hmm := hide hmm
        clear hcc
        go_wp2
        go_quiet (fail)
        go_wp2
        go_meet
        exact ⟨cut, turn + 1, rfl, hcw, by omega, Blk.to (Blk.set_ h1.out 2 (.int .i64 ((turn : Int) + 1))) rfl (by simp), ((Upd.refl [p] w).drewN nq).setCell (p := ⟨p, 2, none⟩) (by simp) _⟩
    case rest =>
      obtain ⟨cut, tn, rfl, hcb, htn, hK, hU⟩ := hcut
      go_upto_block 0 with fail
      go_cut [6] (fun x6 wd => ∃ n0 : Nat, x6 = .int .i64 n0 ∧ 1 ≤ n0 ∧ n0 ≤ L ∧ wc = wd)
      case first =>
        replace hK := hide hK
        replace hU := hide hU
        obtain ⟨hcb1, hcb2⟩ := hcb
        by_cases hp : 0 < cut
        · by_cases hm : cut ≤ (L : Int)
          · go_wp2
            all_goals
              go_meet
              exact ⟨cut.toNat, by congr 1; omega, by omega, by omega, rfl⟩
          · go_wp2
            all_goals
              go_meet
              exact ⟨L, rfl, by omega, by omega, rfl⟩
        · by_cases hn : cut < 0
          · by_cases hq : cut = -9223372036854775808
            · have hw : IntKind.i64.wrap (-cut) = cut := by rw [hq]; decide
              clear hq
              go_wp2
              all_goals
                go_meet
                exact ⟨L, rfl, by omega, by omega, rfl⟩
            · have hw : IntKind.i64.wrap (-cut) = -cut := IntWalk.i64_in _ (by omega)
              have hw0 : 0 < -cut := by omega
              by_cases hm : -cut ≤ (L : Int)
              · go_wp2
                all_goals
                  go_meet
                  exact ⟨(-cut).toNat, by congr 1; omega, by omega, by omega, rfl⟩
              · go_wp2
                all_goals
                  go_meet
                  exact ⟨L, rfl, by omega, by omega, rfl⟩
          · go_wp2
            all_goals
              go_meet
              exact ⟨L, rfl, by omega, by omega, rfl⟩
      case rest =>
        obtain ⟨n0, rfl, hn1, hnL, rfl⟩ := hcut
        obtain ⟨b, o, rfl, hbb, hcc⟩ := h3.out.at_ (j := 0) (by rw [ofNr_len]; omega)
        have hn0I : (1 : Int) ≤ (n0 : Int) := by omega
        have hnLI : (n0 : Int) ≤ (L : Int) := by omega
        have hncI : (n0 : Int) ≤ (capd : Int) := by omega
        have hLcI : (L : Int) ≤ (capd : Int) := by omega
        have k0 := hK.cell 0
        simp at k0
        obtain ⟨CL, hCL⟩ : ∃ CL, CL = (bs.take n0).map (fun (x : Nat) => Value.int .u8 (x : Int)) := ⟨_, rfl⟩
        have hln : CL.length = Nat.min bs.length n0 := by rw [hCL, List.length_map, List.length_take, Nat.min_comm]
        have hone : ∀ v ∈ CL, v.oneCell' = true := by
          intro v hv
          rw [hCL, List.mem_map] at hv
          obtain ⟨x, _, rfl⟩ := hv
          rfl
        have hsrc : ∀ j v, CL[j]? = some v → wc.cell? ((⟨b, o, none⟩ : Addr).add j) = some v := by
          intro j v hj
          have hjl := (List.getElem?_eq_some_iff.1 hj).1
          have hjb : j < bs.length := by rw [hln] at hjl; exact Nat.lt_of_lt_of_le hjl (Nat.min_le_left _ _)
          rw [Addr.add_lit, hU.cell (p := ⟨b, o + j, none⟩) (by show b < _; omega) (by simp; omega), hcc j (by rw [ofNr_len]; exact hjb), ofNr_get, ← hj, hCL]
          have hjn : j < n0 := by rw [hln] at hjl; exact Nat.lt_of_lt_of_le hjl (Nat.min_le_right _ _)
          simp [List.getElem?_take, hjn, hjb]
        have hdw := hd.out.upd hU (by simp; omega)
        have hU2 := hide (hU.wide (S := [d, p]) (by simp))
        have hsize : off + CL.length ≤ cs.size := by
          rw [hln]
          exact Nat.le_trans (Nat.add_le_add_left (Nat.min_le_right bs.length n0) off) (by omega)
        replace hCL := hide hCL
        replace hln := hide hln
        replace hone := hide hone
        replace hsrc := hide hsrc
        replace hdw := hide hdw
        replace hK := hide hK
        replace hU := hide hU
        replace hsize := hide hsize
        have hUr := hide (Upd.refl [d] wc)
        clear hcc c0 c1 c2 f0 f2
        go_wp2_with fail
        go_region_held3 (fun w' => w'.cell? ⟨p, 0, none⟩ = some (.slice (some ⟨b, o, none⟩) bs.length cap)) (first | go_keep | (rw [hu2.cell (p := ⟨p, 0, none⟩) (World.block_lt_of_cell? _ _ k0) (by simp; omega)]; exact k0)) (first | (refine step_copyU (.tmp 66) (.tmp 70) 25 25 5 Tryd.underlying25 size_u8 d off n0 capd ⟨b, o, none⟩ bs.length cap cs td CL hln.out hsize.out hone.out [d] wc (by simp) ?_; refine ⟨⟨rfl, rfl, rfl, rfl, hdw.out, hsrc.out, hUr.out.drew⟩, ?_⟩; intro w2 hB2 hu2))
        have hm1 : CL.length ≤ n0 := by rw [hln.out]; exact Nat.min_le_right _ _
        have hm2 : CL.length ≤ bs.length := by rw [hln.out]; exact Nat.min_le_left _ _
        have hm3 : 1 ≤ CL.length := by rw [hln.out]; exact Nat.le_min.2 ⟨by omega, hn1⟩
        have hFill : Fill cs (splice cs.toList off CL).toArray off (bs.take CL.length) := by
          have e : CL = (bs.take CL.length).map (fun (x : Nat) => Value.int .u8 (x : Int)) := by
            rcases Nat.le_total bs.length n0 with h | h
            · have : CL.length = bs.length := by rw [hln.out]; exact Nat.min_eq_left h
              rw [this, List.take_length]
              have := hCL.out
              rwa [List.take_of_length_le h] at this
            · have : CL.length = n0 := by rw [hln.out]; exact Nat.min_eq_right h
              rw [this]
              exact hCL.out
          have hl2 : (bs.take CL.length).length = CL.length := by rw [List.length_take]; exact Nat.min_eq_left hm2
          have := fill_splice cs off (bs.take CL.length) (by rw [hl2]; exact hsize.out)
          rwa [← e] at this
        generalize CL.length = m at *
        have hKw := hK.out.upd hu2 (by simp; omega)
        have g0 := hKw.cell 0
        have gf := hKw.frozen 0
        simp at g0
        have hUw := hide ((hU2.out.trans (hu2.wide (S := [d, p]) (by simp))))
        have hE2 := (hUw.out.cell (p := ⟨0, 0, none⟩) (World.block_lt_of_cell? _ _ hE) (by simp; omega)).trans hE
        replace hFill := hide hFill
        replace hB2 := hide hB2
        replace hKw := hide hKw
        have hmI : (m : Int) ≤ (bs.length : Int) := by omega
        have hmI1 : (1 : Int) ≤ (m : Int) := by omega
        have hmc : (m : Int) ≤ (cap : Int) := by omega
        have hlcI : (bs.length : Int) ≤ (cap : Int) := by omega
        have hsub : ((bs.length : Int) - (m : Int)) = ((bs.length - m : Nat) : Int) := by omega
        have hBase : ∀ (A' : Option Addr) (k c' : Nat) (wz : World), k = bs.length - m → k ≤ c' → wz.heap = (w2.setCell ⟨p, 0, none⟩ (.slice A' k c')).heap → (m < bs.length → A' = some ⟨b, o + m, none⟩) → Upd [d, p] w wz → Base wz B p cl (bs.drop m) (T + 1) := by
          intro A' k c' wz hk hkc hw hA hu
          subst hk
          refine ⟨⟨A', c', C, capc, tn, ?_, by rw [List.length_drop]; exact hkc, ?_, h4.out.upd hu hBw (by simp; omega), htn⟩, hBp⟩
          · have := Blk.set_ hKw.out 0 (.slice A' (bs.length - m) c')
            exact Blk.to this hw (by rw [List.length_drop]; rfl)
          · rcases Nat.lt_or_ge m bs.length with h | h
            · rw [hA h]
              have := h3.out.upd hu hBw (by simp; omega)
              obtain ⟨b', o', e, hb', hc'⟩ := this.at_ (j := 0) (by rw [ofNr_len]; omega)
              cases e
              refine Rd.ofCells hb' (fun j hj => ?_)
              rw [ofNr_len, List.length_drop] at hj
              rw [show o + m + j = o + (m + j) by omega, hc' (m + j) (by rw [ofNr_len]; omega), ofNr_get, ofNr_get]
              simp
            · rw [List.drop_eq_nil_of_le h]
              exact Rd.nil
        replace hBase := hide hBase
        replace hsub := hide hsub
        clear hdw hsrc hone hln hCL hU2 hU hK hsize hu2 hcb k0
        have hmax : ∀ k (wz : World) (V : Value), wz.heap = (w2.setCell ⟨p, 0, none⟩ V).heap → k = m → Upd [d, p] w wz → ∃ cs', Blk wz d td cs' ∧ Fill cs cs' off (bs.take k) := by
          intro k wz V hw hk hu
          subst hk
          exact ⟨_, Blk.to (Blk.far hB2.out (p := ⟨p, 0, none⟩) hdp V) hw rfl, hFill.out⟩
        replace hmax := hide hmax
        by_cases hcm : m = cap
        · have hbm : bs.length = m := by omega
          obtain rfl : cap = m := hcm.symm
          have hz0 : ((bs.length : Int) - (cap : Int)) = 0 := by omega
          by_cases hcn : cut < 0
          · go_wp2_with fail
            go_quiet (fail)
            go_wp2
            go_ret2
            have hu9 := (hUw.out.setCell (p := ⟨p, 0, none⟩) (by simp) (.slice (some ⟨b, o, none⟩) 0 0)).drewN nq
            exact ⟨cap, true, by omega, by omega, fun _ => hm3, fun _ => by omega, fun h => by omega, rfl, hmax.out cap _ _ rfl rfl hu9, hu9, hBase.out (some ⟨b, o, none⟩) 0 0 _ (by omega) (Nat.zero_le _) rfl (fun h => by omega) hu9⟩
          · go_wp2
            go_ret2
            have hu9 := (hUw.out.setCell (p := ⟨p, 0, none⟩) (by simp) (.slice (some ⟨b, o, none⟩) 0 0))
            exact ⟨cap, false, by omega, by omega, fun _ => hm3, (fun h => by cases h), fun h => by omega, rfl, hmax.out cap _ _ rfl rfl hu9, hu9, hBase.out (some ⟨b, o, none⟩) 0 0 _ (by omega) (Nat.zero_le _) rfl (fun h => by omega) hu9⟩
        · have hcmI : (m : Int) < (cap : Int) := by omega
          by_cases hcn : cut < 0
          · by_cases hbm : bs.length = m
            · have hz0 : ((bs.length : Int) - (m : Int)) = 0 := by omega
              go_wp2_with fail
              go_quiet (fail)
              go_wp2
              go_ret2
              have hu9 := (hUw.out.setCell (p := ⟨p, 0, none⟩) (by simp) (.slice (some ⟨b, o + m, none⟩) 0 (cap - m))).drewN nq
              exact ⟨m, true, by omega, by omega, fun _ => hm3, fun _ => by omega, fun h => by omega, rfl, hmax.out m _ _ rfl rfl hu9, hu9, hBase.out (some ⟨b, o + m, none⟩) 0 (cap - m) _ (by omega) (Nat.zero_le _) rfl (fun h => by omega) hu9⟩
            · have hzn : ¬ ((bs.length : Int) - (m : Int)) = 0 := by omega
              have hzq : (((bs.length - m : Nat) : Int) == 0) = false := beq_false_of_ne (by omega)
              go_wp2
              go_ret2
              have hu9 := (hUw.out.setCell (p := ⟨p, 0, none⟩) (by simp) (.slice (some ⟨b, o + m, none⟩) (bs.length - m) (cap - m)))
              exact ⟨m, false, by omega, by omega, fun _ => hm3, (fun h => by cases h), fun h => by omega, rfl, hmax.out m _ _ rfl rfl hu9, hu9, hBase.out (some ⟨b, o + m, none⟩) _ (cap - m) _ rfl (by omega) rfl (fun h => rfl) hu9⟩
          · go_wp2
            go_ret2
            have hu9 := (hUw.out.setCell (p := ⟨p, 0, none⟩) (by simp) (.slice (some ⟨b, o + m, none⟩) (bs.length - m) (cap - m)))
            exact ⟨m, false, by omega, by omega, fun _ => hm3, (fun h => by cases h), fun h => by omega, rfl, hmax.out m _ _ rfl rfl hu9, hu9, hBase.out (some ⟨b, o + m, none⟩) _ (cap - m) _ rfl (by omega) rfl (fun h => rfl) hu9⟩
end Go.Proofs.YthkpoidnhgcjhaaDoor

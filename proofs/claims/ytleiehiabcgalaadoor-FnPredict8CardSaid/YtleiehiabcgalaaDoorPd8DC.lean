/- 'predFunc8DC': the walk. -/
import Derived.Test.YtleiehiabcgalaaDoorPred8
import Derived.Deep.LoopGhost
import Derived.BigRegion
import Derived.Deep.RegionWith
import Derived.Deep.RegionHeld3
namespace Go.Proofs.YtleiehiabcgalaaDoor
set_option linter.unusedSimpArgs false
set_option linter.unusedVariables false
open Go.RowKit Plain

set_option maxRecDepth 100000 in
set_option maxHeartbeats 4000000 in
theorem predFunc8DC_any (g na : Nat) (cv : Int) (va vl : List Int) (cur : Array Value) (w : World) (hna : na ≤ 24) (hpa : 8 ≤ na) (hcv : 0 ≤ cv ∧ cv ≤ 255) (hva : ∀ k, 0 ≤ va.getD k 0 ∧ va.getD k 0 ≤ 255) (hvl : ∀ k, 0 ≤ vl.getD k 0 ∧ vl.getD k 0 ≤ 255) (hD : Blk w g 100 cur) (hS : Sq8 cur cv va vl na 8) :
    Calls Tryd.prog 36 #[.pointer (some ⟨g, 0, none⟩), .int .i64 1, .int .i64 8] w (Pred8 w g (fun a b => (8 + sum8 (fun k => va.getD k 0) 8 + sum8 (fun k => vl.getD k 0) 8) / 16)) := by
  have hg := hD.lt
  replace hva := hide hva
  replace hvl := hide hvl
  replace hD := hide hD
  replace hS := hide hS
  go_enter Tryd.func36, Tryd.ntmps36
  go_wp2
  have hsbA := sum8_bd (fun k => va.getD k 0) hva.out
  replace hsbA := hide hsbA
  go_loopg [6, 7] 8 (fun k us ui wr => ∃ i : Nat, k + i = 8 ∧ ui = .int .i64 i ∧ us = .int .u32 (8 + sum8 (fun k => va.getD k 0) i) ∧ w = wr)
  case atStart => exact ⟨0, rfl, rfl, by simp [sum8], rfl⟩
  case round =>
    obtain ⟨i, hi, rfl, rfl, rfl⟩ := hrel
    cases gk with
    | succ k =>
      have hin : i < 8 := by omega
      have hii : (i : Int) < 8 := by omega
      have hi0 : (0 : Int) ≤ (i : Int) := by omega
      have hc : w.cell? ⟨g, 1650 + (8 + i), none⟩ = some (.int .u8 (va.getD i 0)) := (hD.out.cell _).trans (by rw [show 1650 + (8 + i) = 1658 + i by omega]; exact hS.out.above i (by omega))
      have hb := hva.out i
      have hsb := hsbA.out i
      have hE : sum8 (fun k => va.getD k 0) (i + 1) = sum8 (fun k => va.getD k 0) i + va.getD i 0 := rfl
      replace hE := hide hE
      generalize hS0 : sum8 (fun k => va.getD k 0) i = S0 at *
      generalize hx : va.getD i 0 = x at *
      have V : IntKind.u32.wrap x = x := IntWalk.u32_in _ (by omega)
      replace hS0 := hide hS0
      replace hx := hide hx
      go_wp2
      go_roundg k
      case measure => omega
      case rel => exact ⟨i + 1, by omega, by go_num, by have q := hE.out; rw [q]; congr 1; first | omega | (rw [hS0.out, hx.out]; omega) | (have q2 := hS0.out; have q3 := hx.out; omega), rfl⟩
    | zero =>
      have hi8 : i = 8 := by omega
      subst hi8
      obtain ⟨SA, hSA⟩ : ∃ S, S = (8 + sum8 (fun k => va.getD k 0) 8) := ⟨_, rfl⟩
      have bA := hsbA.out 8
      rw [← hSA]
      replace hSA := hide hSA
      have bSA : 0 ≤ SA ∧ SA ≤ 2048 := by have := hSA.out; omega
      clear bA hsbA hi
      go_wp2
      have hsbL := sum8_bd (fun k => vl.getD k 0) hvl.out
      replace hsbL := hide hsbL
      go_loopg [6, 8] 8 (fun k us ui wr => ∃ i : Nat, k + i = 8 ∧ ui = .int .i64 i ∧ us = .int .u32 (SA + sum8 (fun k => vl.getD k 0) i) ∧ w = wr)
      case atStart => exact ⟨0, rfl, rfl, by simp [sum8], rfl⟩
      case round =>
        obtain ⟨i, hi, rfl, rfl, rfl⟩ := hrel
        cases gk with
        | succ k =>
          have hin : i < 8 := by omega
          have hii : (i : Int) < 8 := by omega
          have hi0 : (0 : Int) ≤ (i : Int) := by omega
          have hc := (hD.out.cell (1650 + (1 + i) * 32 + 7)).trans (hS.out.left i hin)
          have hb := hvl.out i
          have hsb := hsbL.out i
          obtain ⟨q1, q2⟩ := bSA
          have hE : sum8 (fun k => vl.getD k 0) (i + 1) = sum8 (fun k => vl.getD k 0) i + vl.getD i 0 := rfl
          replace hE := hide hE
          generalize hS0 : sum8 (fun k => vl.getD k 0) i = S0 at *
          generalize hx : vl.getD i 0 = x at *
          have V : IntKind.u32.wrap x = x := IntWalk.u32_in _ (by omega)
          replace hS0 := hide hS0
          replace hx := hide hx
          go_wp2
          go_roundg k
          case measure => omega
          case rel => exact ⟨i + 1, by omega, by go_num, by have q := hE.out; rw [q]; congr 1; first | omega | (rw [hS0.out, hx.out]; omega) | (have q2 := hS0.out; have q3 := hx.out; omega), rfl⟩
        | zero =>
          have hi8 : i = 8 := by omega
          subst hi8
          have bL := hsbL.out 8
          generalize hSL : SA + sum8 (fun k => vl.getD k 0) 8 = SL at *
          obtain ⟨q4, q5⟩ : 0 ≤ SL ∧ SL ≤ 10000 := by omega
          obtain ⟨q6, q7⟩ := bSA
          have bav : 0 ≤ SL / 16 ∧ SL / 16 ≤ 255 := by omega
          have V : IntKind.u8.wrap (SL / 16) = SL / 16 := IntWalk.u8_in _ (by omega)
          replace hSL := hide hSL
          clear bL hsbL
          go_wp2
          go_loopg [10] 8 (fun k uj wr => ∃ j : Nat, k + j = 8 ∧ uj = .int .i64 j ∧ Upd [g] w wr ∧ ∃ cur, Blk wr g 100 cur ∧ Sq8 cur cv va vl na 8 ∧ Fil8 cur (fun a b => (8 + sum8 (fun k => va.getD k 0) 8 + sum8 (fun k => vl.getD k 0) 8) / 16) j 0)
          case atStart => exact ⟨0, rfl, rfl, Upd.refl _ _, cur, hD.out, hS.out, Fil8.start _ _⟩
          case round =>
            obtain ⟨j, hj, rfl, hU, cu, hC, hQ, hF⟩ := hrel
            clear hD hS
            replace hU := hide hU
            replace hF := hide hF
            replace hC := hide hC
            replace hQ := hide hQ
            cases gk with
            | zero =>
              have hj8 : j = 8 := by omega
              subst hj8
              go_wp2
              go_end0
              exact ⟨rfl, hU.out, cu, hC.out, hQ.out.size, hF.out⟩
            | succ k =>
              have hjn : j < 8 := by omega
              have hjj : (j : Int) < 8 := by omega
              have hj0 : (0 : Int) ≤ (j : Int) := by omega

              obtain ⟨wo, hwo⟩ : ∃ wo : World, wo = wr := ⟨_, rfl⟩
              subst hwo
              go_wp2
              go_loopg [11] 8 (fun k ui wr => ∃ i : Nat, k + i = 8 ∧ ui = .int .i64 i ∧ Upd [g] w wr ∧ ∃ cur, Blk wr g 100 cur ∧ Sq8 cur cv va vl na 8 ∧ Fil8 cur (fun a b => (8 + sum8 (fun k => va.getD k 0) 8 + sum8 (fun k => vl.getD k 0) 8) / 16) j i)
              case atStart => exact ⟨0, rfl, rfl, hU.out, cu, hC.out, hQ.out, hF.out⟩
              case round =>
                obtain ⟨i, hi, rfl, hU2, c2, hC2, hQ2, hF2⟩ := hrel
                clear hU hC hQ hF
                replace hU2 := hide hU2
                replace hF2 := hide hF2
                cases gk with
                | zero =>
                  have hi8 : i = 8 := by omega
                  subst hi8
                  replace hC2 := hide hC2
                  replace hQ2 := hide hQ2
                  go_wp2
                  go_roundg k
                  case measure => omega
                  case rel => exact ⟨j + 1, by omega, by go_num, hU2.out, c2, hC2.out, hQ2.out, hF2.out.line⟩
                | succ k2 =>
                  have hin : i < 8 := by omega
                  have hii : (i : Int) < 8 := by omega
                  have hi0 : (0 : Int) ≤ (i : Int) := by omega
                  have hs2 := hQ2.size
                  obtain ⟨e1, h1⟩ : ∃ e, wr.cell? ⟨g, 1650 + (1 + j) * 32 + (8 + i), none⟩ = some e := ⟨_, (hC2.cell _).trans (Array.getElem?_eq_getElem (by omega))⟩
                  have f1 := hC2.frozen (1650 + (1 + j) * 32 + (8 + i))
                  skip
                  replace hC2 := hide hC2
                  replace hQ2 := hide hQ2
                  go_wp2
                  go_roundg k2
                  case measure => omega
                  case rel => exact ⟨i + 1, by omega, by go_num, hU2.out.setCell (p := ⟨g, 1650 + (1 + j) * 32 + (8 + i), none⟩) (.inl (by simp)) _, _, hC2.out.set_ _ _, hQ2.out.put hna hjn hin _, hF2.out.put hs2 hjn hin _ (by rw [← hSL.out, hSA.out])⟩
end Go.Proofs.YtleiehiabcgalaaDoor

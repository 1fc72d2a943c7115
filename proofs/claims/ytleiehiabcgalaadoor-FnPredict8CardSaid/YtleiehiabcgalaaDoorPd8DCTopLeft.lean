/- 'predFunc8DCTopLeft': the walk. -/
import Derived.Test.YtleiehiabcgalaaDoorPred8
import Derived.Deep.LoopGhost
import Derived.BigRegion
import Derived.Deep.RegionWith
import Derived.Deep.RegionHeld3
namespace Go.Proofs.YtleiehiabcgalaaDoor
set_option linter.unusedSimpArgs false
set_option linter.unusedVariables false
open Go.RowKit Plain

set_option maxRecDepth 100000 in
set_option maxHeartbeats 4000000 in
theorem predFunc8DCTopLeft_any (g na : Nat) (cv : Int) (va vl : List Int) (cur : Array Value) (w : World) (hna : na ≤ 24) (hpa : 8 ≤ na) (hcv : 0 ≤ cv ∧ cv ≤ 255) (hva : ∀ k, 0 ≤ va.getD k 0 ∧ va.getD k 0 ≤ 255) (hvl : ∀ k, 0 ≤ vl.getD k 0 ∧ vl.getD k 0 ≤ 255) (hD : Blk w g 100 cur) (hS : Sq8 cur cv va vl na 8) :
    Calls Tryd.prog 42 #[.pointer (some ⟨g, 0, none⟩), .int .i64 1, .int .i64 8] w (Pred8 w g (fun a b => 128)) := by
  have hg := hD.lt
  replace hva := hide hva
  replace hvl := hide hvl
  replace hD := hide hD
  replace hS := hide hS
  go_enter Tryd.func42, Tryd.ntmps42
  go_wp2
  go_loopg [6] 8 (fun k uj wr => ∃ j : Nat, k + j = 8 ∧ uj = .int .i64 j ∧ Upd [g] w wr ∧ ∃ cur, Blk wr g 100 cur ∧ Sq8 cur cv va vl na 8 ∧ Fil8 cur (fun a b => 128) j 0)
  case atStart => exact ⟨0, rfl, rfl, Upd.refl _ _, cur, hD.out, hS.out, Fil8.start _ _⟩
  case round =>
    obtain ⟨j, hj, rfl, hU, cu, hC, hQ, hF⟩ := hrel
    clear hD hS
    replace hU := hide hU
    replace hF := hide hF
    replace hC := hide hC
    replace hQ := hide hQ
    cases gk with
    | zero =>
      have hj8 : j = 8 := by omega
      subst hj8
      go_wp2
      go_end0
      exact ⟨rfl, hU.out, cu, hC.out, hQ.out.size, hF.out⟩
    | succ k =>
      have hjn : j < 8 := by omega
      have hjj : (j : Int) < 8 := by omega
      have hj0 : (0 : Int) ≤ (j : Int) := by omega

      obtain ⟨wo, hwo⟩ : ∃ wo : World, wo = wr := ⟨_, rfl⟩
      subst hwo
      go_wp2
      go_loopg [7] 8 (fun k ui wr => ∃ i : Nat, k + i = 8 ∧ ui = .int .i64 i ∧ Upd [g] w wr ∧ ∃ cur, Blk wr g 100 cur ∧ Sq8 cur cv va vl na 8 ∧ Fil8 cur (fun a b => 128) j i)
      case atStart => exact ⟨0, rfl, rfl, hU.out, cu, hC.out, hQ.out, hF.out⟩
      case round =>
        obtain ⟨i, hi, rfl, hU2, c2, hC2, hQ2, hF2⟩ := hrel
        clear hU hC hQ hF
        replace hU2 := hide hU2
        replace hF2 := hide hF2
        cases gk with
        | zero =>
          have hi8 : i = 8 := by omega
          subst hi8
          replace hC2 := hide hC2
          replace hQ2 := hide hQ2
          go_wp2
          go_roundg k
          case measure => omega
          case rel => exact ⟨j + 1, by omega, by go_num, hU2.out, c2, hC2.out, hQ2.out, hF2.out.line⟩
        | succ k2 =>
          have hin : i < 8 := by omega
          have hii : (i : Int) < 8 := by omega
          have hi0 : (0 : Int) ≤ (i : Int) := by omega
          have hs2 := hQ2.size
          obtain ⟨e1, h1⟩ : ∃ e, wr.cell? ⟨g, 1650 + (1 + j) * 32 + (8 + i), none⟩ = some e := ⟨_, (hC2.cell _).trans (Array.getElem?_eq_getElem (by omega))⟩
          have f1 := hC2.frozen (1650 + (1 + j) * 32 + (8 + i))
          skip
          replace hC2 := hide hC2
          replace hQ2 := hide hQ2
          go_wp2
          go_roundg k2
          case measure => omega
          case rel => exact ⟨i + 1, by omega, by go_num, hU2.out.setCell (p := ⟨g, 1650 + (1 + j) * 32 + (8 + i), none⟩) (.inl (by simp)) _, _, hC2.out.set_ _ _, hQ2.out.put hna hjn hin _, hF2.out.put hs2 hjn hin _ (rfl)⟩
end Go.Proofs.YtleiehiabcgalaaDoor

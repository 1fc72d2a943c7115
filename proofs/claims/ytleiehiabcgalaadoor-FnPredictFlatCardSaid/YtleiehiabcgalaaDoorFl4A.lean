/- The straight predicting functions of small blocks (VE, HE, RD, VR) where all around is one value: the walks. -/
import Derived.Test.YtleiehiabcgalaaDoorFlat4
import Derived.Deep.LoopGhost
import Derived.BigRegion
import Derived.Deep.RegionWith
import Derived.Deep.RegionHeld3
namespace Go.Proofs.YtleiehiabcgalaaDoor
set_option linter.unusedSimpArgs false
set_option linter.unusedVariables false
open Go.RowKit Plain
/-- So many rows are filled. -/
def RowsAtVE (cur : Array Value) (v : Int) (i : Nat) : Prop := cur.size = 2482 ∧ ∀ a b, b < 4 → a < 4 → a < i → cur[1650 + (1 + a) * 32 + (8 + b)]? = some (.int .u8 v)
theorem RowsAtVE.start {cur : Array Value} {v : Int} (h : cur.size = 2482) : RowsAtVE cur v 0 := ⟨h, fun a b _ _ h => by omega⟩
theorem RowsAtVE.fil {cur : Array Value} {v : Int} (h : RowsAtVE cur v 4) : Fil4 cur (fun _ _ => v) 4 0 := fun a b hb hc => h.2 a b hb (by omega) (by omega)
theorem RowsAtVE.step {cur : Array Value} {v : Int} {i : Nat} (h : RowsAtVE cur v i) (hi : i < 4) : RowsAtVE (((((cur).setIfInBounds (1650 + (1 + i) * 32 + 8) (.int .u8 v)).setIfInBounds (1650 + (1 + i) * 32 + 9) (.int .u8 v)).setIfInBounds (1650 + (1 + i) * 32 + 10) (.int .u8 v)).setIfInBounds (1650 + (1 + i) * 32 + 11) (.int .u8 v)) v (i + 1) := by
  have hs := h.1
  refine ⟨by simp only [Array.size_setIfInBounds]; exact hs, fun a b hb ha hc => ?_⟩
  have h2 := h.2 a b hb ha
  have e : ∀ (C : Array Value) (p q : Nat), C.size = 2482 → p < 2482 → C[q]? = some (.int .u8 v) ∨ p = q → (C.setIfInBounds p (.int .u8 v))[q]? = some (.int .u8 v) := by
    intro C p q hC hp h
    by_cases e : p = q
    · subst e; exact set_eq _ _ _ _ (by omega) rfl
    · rw [set_ne _ _ _ _ e]; rcases h with h | h
      · exact h
      · exact absurd h e
  by_cases ea : a < i
  · have h3 := h2 ea
    refine e _ _ _ (by simp only [Array.size_setIfInBounds]; exact hs) (by omega) (.inl (e _ _ _ (by simp only [Array.size_setIfInBounds]; exact hs) (by omega) (.inl (e _ _ _ (by simp only [Array.size_setIfInBounds]; exact hs) (by omega) (.inl (e _ _ _ hs (by omega) (.inl h3)))))))
  · have ei : a = i := by omega
    subst ei
    rcases (by omega : b = 0 ∨ b = 1 ∨ b = 2 ∨ b = 3) with rfl | rfl | rfl | rfl
    · refine e _ _ _ (by simp only [Array.size_setIfInBounds]; exact hs) (by omega) (.inl (e _ _ _ (by simp only [Array.size_setIfInBounds]; exact hs) (by omega) (.inl (e _ _ _ (by simp only [Array.size_setIfInBounds]; exact hs) (by omega) (.inl (e _ _ _ hs (by omega) (.inr (by omega))))))))
    · refine e _ _ _ (by simp only [Array.size_setIfInBounds]; exact hs) (by omega) (.inl (e _ _ _ (by simp only [Array.size_setIfInBounds]; exact hs) (by omega) (.inl (e _ _ _ (by simp only [Array.size_setIfInBounds]; exact hs) (by omega) (.inr (by omega))))))
    · refine e _ _ _ (by simp only [Array.size_setIfInBounds]; exact hs) (by omega) (.inl (e _ _ _ (by simp only [Array.size_setIfInBounds]; exact hs) (by omega) (.inr (by omega))))
    · refine e _ _ _ (by simp only [Array.size_setIfInBounds]; exact hs) (by omega) (.inr (by omega))
set_option maxRecDepth 100000 in
set_option maxHeartbeats 4000000 in
theorem predFunc4VEflat (g : Nat) (v : Int) (cur : Array Value) (w : World) (hv : 0 ≤ v) (hv2 : v ≤ 255) (hD : Blk w g 100 cur) (hS : Flat4 cur v) :
    Calls Tryd.prog 46 #[.pointer (some ⟨g, 0, none⟩), .int .i64 1, .int .i64 8] w (Pred4 w g (fun _ _ => v)) := by
  have hg := hD.lt
  have ht0 := (hD.cell 1657).trans (hS.top 0 (by decide))
  have ht1 := (hD.cell 1658).trans (hS.top 1 (by decide))
  have ht2 := (hD.cell 1659).trans (hS.top 2 (by decide))
  have ht3 := (hD.cell 1660).trans (hS.top 3 (by decide))
  have ht4 := (hD.cell 1661).trans (hS.top 4 (by decide))
  have ht5 := (hD.cell 1662).trans (hS.top 5 (by decide))
  have ht6 := (hD.cell 1663).trans (hS.top 6 (by decide))
  have ht7 := (hD.cell 1664).trans (hS.top 7 (by decide))
  have ht8 := (hD.cell 1665).trans (hS.top 8 (by decide))
  have hl0 := (hD.cell 1689).trans (hS.left 0 (by decide))
  have hl1 := (hD.cell 1721).trans (hS.left 1 (by decide))
  have hl2 := (hD.cell 1753).trans (hS.left 2 (by decide))
  have hl3 := (hD.cell 1785).trans (hS.left 3 (by decide))
  have V : IntKind.u8.wrap v = v := IntWalk.u8_in _ (by omega)
  have V2 : IntKind.i32.wrap v = v := IntWalk.i32_in _ (by omega)
  have Q4 : (v + 2 * v + v + 2) / 4 = v := by omega
  have Q2 : (v + v + 1) / 2 = v := by omega
  have hs := hS.size
  replace hD := hide hD
  replace hS := hide hS
  go_enter Tryd.func46, Tryd.ntmps46
  go_wp2
  clear ht0 ht1 ht2 ht3 ht4 ht5 ht6 ht7 ht8 hl0 hl1 hl2 hl3 Q4 Q2
  go_loopg [16] 4 (fun k ui wr => ∃ i : Nat, k + i = 4 ∧ ui = .int .i64 i ∧ Upd [g] w wr ∧ ∃ cur, Blk wr g 100 cur ∧ RowsAtVE cur v i)
  case atStart => exact ⟨0, rfl, rfl, Upd.refl _ _, cur, hD.out, RowsAtVE.start hs⟩
  case round =>
    obtain ⟨i, hi, rfl, hU, cu, hC, hF⟩ := hrel
    clear hD hS hs
    replace hU := hide hU
    have hcs := hF.1
    replace hF := hide hF
    cases gk with
    | zero =>
      have hi4 : i = 4 := by omega
      subst hi4
      replace hC := hide hC
      go_wp2
      go_end0
      exact ⟨rfl, hU.out, cu, hC.out, hF.out.1, hF.out.fil⟩
    | succ k =>
      have hin : i < 4 := by omega
      have hii : (i : Int) < 4 := by omega
      have hi0 : (0 : Int) ≤ (i : Int) := by omega
      have W1 : IntKind.i64.wrap (1 + (i : Int)) = 1 + (i : Int) := IntWalk.i64_in _ (by omega)
      obtain ⟨e0, hc0⟩ : ∃ e, wr.cell? ⟨g, 1650 + (1 + i) * 32 + 8, none⟩ = some e := ⟨_, (hC.cell _).trans (Array.getElem?_eq_getElem (by omega))⟩
      have hf0 := hC.frozen (1650 + (1 + i) * 32 + 8)
      obtain ⟨e1, hc1⟩ : ∃ e, wr.cell? ⟨g, 1650 + (1 + i) * 32 + 9, none⟩ = some e := ⟨_, (hC.cell _).trans (Array.getElem?_eq_getElem (by omega))⟩
      have hf1 := hC.frozen (1650 + (1 + i) * 32 + 9)
      obtain ⟨e2, hc2⟩ : ∃ e, wr.cell? ⟨g, 1650 + (1 + i) * 32 + 10, none⟩ = some e := ⟨_, (hC.cell _).trans (Array.getElem?_eq_getElem (by omega))⟩
      have hf2 := hC.frozen (1650 + (1 + i) * 32 + 10)
      obtain ⟨e3, hc3⟩ : ∃ e, wr.cell? ⟨g, 1650 + (1 + i) * 32 + 11, none⟩ = some e := ⟨_, (hC.cell _).trans (Array.getElem?_eq_getElem (by omega))⟩
      have hf3 := hC.frozen (1650 + (1 + i) * 32 + 11)
      replace hC := hide hC
      replace hcs := hide hcs
      go_wp2
      go_roundg k
      case measure => omega
      case rel => exact ⟨i + 1, by omega, by go_num, ((((hU.out).setCell (p := ⟨g, 1650 + (1 + i) * 32 + 8, none⟩) (.inl (by simp)) _).setCell (p := ⟨g, 1650 + (1 + i) * 32 + 9, none⟩) (.inl (by simp)) _).setCell (p := ⟨g, 1650 + (1 + i) * 32 + 10, none⟩) (.inl (by simp)) _).setCell (p := ⟨g, 1650 + (1 + i) * 32 + 11, none⟩) (.inl (by simp)) _, _, ((((hC.out).set_ (1650 + (1 + i) * 32 + 8) _).set_ (1650 + (1 + i) * 32 + 9) _).set_ (1650 + (1 + i) * 32 + 10) _).set_ (1650 + (1 + i) * 32 + 11) _, hF.out.step hin⟩
/-- So many columns are filled. -/
def RowsAtHE (cur : Array Value) (v : Int) (i : Nat) : Prop := cur.size = 2482 ∧ ∀ a b, b < 4 → a < 4 → b < i → cur[1650 + (1 + a) * 32 + (8 + b)]? = some (.int .u8 v)
theorem RowsAtHE.start {cur : Array Value} {v : Int} (h : cur.size = 2482) : RowsAtHE cur v 0 := ⟨h, fun a b _ _ h => by omega⟩
theorem RowsAtHE.fil {cur : Array Value} {v : Int} (h : RowsAtHE cur v 4) : Fil4 cur (fun _ _ => v) 4 0 := fun a b hb hc => h.2 a b hb (by omega) (by omega)
theorem RowsAtHE.step {cur : Array Value} {v : Int} {i : Nat} (h : RowsAtHE cur v i) (hi : i < 4) : RowsAtHE (((((cur).setIfInBounds (1682 + (8 + i)) (.int .u8 v)).setIfInBounds (1714 + (8 + i)) (.int .u8 v)).setIfInBounds (1746 + (8 + i)) (.int .u8 v)).setIfInBounds (1778 + (8 + i)) (.int .u8 v)) v (i + 1) := by
  have hs := h.1
  refine ⟨by simp only [Array.size_setIfInBounds]; exact hs, fun a b hb ha hc => ?_⟩
  have h2 := h.2 a b hb ha
  have e : ∀ (C : Array Value) (p q : Nat), C.size = 2482 → p < 2482 → C[q]? = some (.int .u8 v) ∨ p = q → (C.setIfInBounds p (.int .u8 v))[q]? = some (.int .u8 v) := by
    intro C p q hC hp h
    by_cases e : p = q
    · subst e; exact set_eq _ _ _ _ (by omega) rfl
    · rw [set_ne _ _ _ _ e]; rcases h with h | h
      · exact h
      · exact absurd h e
  by_cases ea : b < i
  · have h3 := h2 ea
    refine e _ _ _ (by simp only [Array.size_setIfInBounds]; exact hs) (by omega) (.inl (e _ _ _ (by simp only [Array.size_setIfInBounds]; exact hs) (by omega) (.inl (e _ _ _ (by simp only [Array.size_setIfInBounds]; exact hs) (by omega) (.inl (e _ _ _ hs (by omega) (.inl h3)))))))
  · have ei : b = i := by omega
    subst ei
    rcases (by omega : a = 0 ∨ a = 1 ∨ a = 2 ∨ a = 3) with rfl | rfl | rfl | rfl
    · refine e _ _ _ (by simp only [Array.size_setIfInBounds]; exact hs) (by omega) (.inl (e _ _ _ (by simp only [Array.size_setIfInBounds]; exact hs) (by omega) (.inl (e _ _ _ (by simp only [Array.size_setIfInBounds]; exact hs) (by omega) (.inl (e _ _ _ hs (by omega) (.inr (by omega))))))))
    · refine e _ _ _ (by simp only [Array.size_setIfInBounds]; exact hs) (by omega) (.inl (e _ _ _ (by simp only [Array.size_setIfInBounds]; exact hs) (by omega) (.inl (e _ _ _ (by simp only [Array.size_setIfInBounds]; exact hs) (by omega) (.inr (by omega))))))
    · refine e _ _ _ (by simp only [Array.size_setIfInBounds]; exact hs) (by omega) (.inl (e _ _ _ (by simp only [Array.size_setIfInBounds]; exact hs) (by omega) (.inr (by omega))))
    · refine e _ _ _ (by simp only [Array.size_setIfInBounds]; exact hs) (by omega) (.inr (by omega))
set_option maxRecDepth 100000 in
set_option maxHeartbeats 4000000 in
theorem predFunc4HEflat (g : Nat) (v : Int) (cur : Array Value) (w : World) (hv : 0 ≤ v) (hv2 : v ≤ 255) (hD : Blk w g 100 cur) (hS : Flat4 cur v) :
    Calls Tryd.prog 47 #[.pointer (some ⟨g, 0, none⟩), .int .i64 1, .int .i64 8] w (Pred4 w g (fun _ _ => v)) := by
  have hg := hD.lt
  have ht0 := (hD.cell 1657).trans (hS.top 0 (by decide))
  have ht1 := (hD.cell 1658).trans (hS.top 1 (by decide))
  have ht2 := (hD.cell 1659).trans (hS.top 2 (by decide))
  have ht3 := (hD.cell 1660).trans (hS.top 3 (by decide))
  have ht4 := (hD.cell 1661).trans (hS.top 4 (by decide))
  have ht5 := (hD.cell 1662).trans (hS.top 5 (by decide))
  have ht6 := (hD.cell 1663).trans (hS.top 6 (by decide))
  have ht7 := (hD.cell 1664).trans (hS.top 7 (by decide))
  have ht8 := (hD.cell 1665).trans (hS.top 8 (by decide))
  have hl0 := (hD.cell 1689).trans (hS.left 0 (by decide))
  have hl1 := (hD.cell 1721).trans (hS.left 1 (by decide))
  have hl2 := (hD.cell 1753).trans (hS.left 2 (by decide))
  have hl3 := (hD.cell 1785).trans (hS.left 3 (by decide))
  have V : IntKind.u8.wrap v = v := IntWalk.u8_in _ (by omega)
  have V2 : IntKind.i32.wrap v = v := IntWalk.i32_in _ (by omega)
  have Q4 : (v + 2 * v + v + 2) / 4 = v := by omega
  have Q2 : (v + v + 1) / 2 = v := by omega
  have hs := hS.size
  replace hD := hide hD
  replace hS := hide hS
  go_enter Tryd.func47, Tryd.ntmps47
  go_wp2
  clear ht0 ht1 ht2 ht3 ht4 ht5 ht6 ht7 ht8 hl0 hl1 hl2 hl3 Q4 Q2
  go_loopg [15] 4 (fun k ui wr => ∃ i : Nat, k + i = 4 ∧ ui = .int .i64 i ∧ Upd [g] w wr ∧ ∃ cur, Blk wr g 100 cur ∧ RowsAtHE cur v i)
  case atStart => exact ⟨0, rfl, rfl, Upd.refl _ _, cur, hD.out, RowsAtHE.start hs⟩
  case round =>
    obtain ⟨i, hi, rfl, hU, cu, hC, hF⟩ := hrel
    clear hD hS hs
    replace hU := hide hU
    have hcs := hF.1
    replace hF := hide hF
    cases gk with
    | zero =>
      have hi4 : i = 4 := by omega
      subst hi4
      replace hC := hide hC
      go_wp2
      go_end0
      exact ⟨rfl, hU.out, cu, hC.out, hF.out.1, hF.out.fil⟩
    | succ k =>
      have hin : i < 4 := by omega
      have hii : (i : Int) < 4 := by omega
      have hi0 : (0 : Int) ≤ (i : Int) := by omega
      have W1 : IntKind.i64.wrap (8 + (i : Int)) = 8 + (i : Int) := IntWalk.i64_in _ (by omega)
      obtain ⟨e0, hc0⟩ : ∃ e, wr.cell? ⟨g, 1682 + (8 + i), none⟩ = some e := ⟨_, (hC.cell _).trans (Array.getElem?_eq_getElem (by omega))⟩
      have hf0 := hC.frozen (1682 + (8 + i))
      obtain ⟨e1, hc1⟩ : ∃ e, wr.cell? ⟨g, 1714 + (8 + i), none⟩ = some e := ⟨_, (hC.cell _).trans (Array.getElem?_eq_getElem (by omega))⟩
      have hf1 := hC.frozen (1714 + (8 + i))
      obtain ⟨e2, hc2⟩ : ∃ e, wr.cell? ⟨g, 1746 + (8 + i), none⟩ = some e := ⟨_, (hC.cell _).trans (Array.getElem?_eq_getElem (by omega))⟩
      have hf2 := hC.frozen (1746 + (8 + i))
      obtain ⟨e3, hc3⟩ : ∃ e, wr.cell? ⟨g, 1778 + (8 + i), none⟩ = some e := ⟨_, (hC.cell _).trans (Array.getElem?_eq_getElem (by omega))⟩
      have hf3 := hC.frozen (1778 + (8 + i))
      replace hC := hide hC
      replace hcs := hide hcs
      go_wp2
      go_roundg k
      case measure => omega
      case rel => exact ⟨i + 1, by omega, by go_num, ((((hU.out).setCell (p := ⟨g, 1682 + (8 + i), none⟩) (.inl (by simp)) _).setCell (p := ⟨g, 1714 + (8 + i), none⟩) (.inl (by simp)) _).setCell (p := ⟨g, 1746 + (8 + i), none⟩) (.inl (by simp)) _).setCell (p := ⟨g, 1778 + (8 + i), none⟩) (.inl (by simp)) _, _, ((((hC.out).set_ (1682 + (8 + i)) _).set_ (1714 + (8 + i)) _).set_ (1746 + (8 + i)) _).set_ (1778 + (8 + i)) _, hF.out.step hin⟩
set_option maxRecDepth 100000 in
set_option maxHeartbeats 4000000 in
theorem predFunc4RDflat (g : Nat) (v : Int) (cur : Array Value) (w : World) (hv : 0 ≤ v) (hv2 : v ≤ 255) (hD : Blk w g 100 cur) (hS : Flat4 cur v) :
    Calls Tryd.prog 48 #[.pointer (some ⟨g, 0, none⟩), .int .i64 1, .int .i64 8] w (Pred4 w g (fun _ _ => v)) := by
  have hg := hD.lt
  have ht0 := (hD.cell 1657).trans (hS.top 0 (by decide))
  have ht1 := (hD.cell 1658).trans (hS.top 1 (by decide))
  have ht2 := (hD.cell 1659).trans (hS.top 2 (by decide))
  have ht3 := (hD.cell 1660).trans (hS.top 3 (by decide))
  have ht4 := (hD.cell 1661).trans (hS.top 4 (by decide))
  have ht5 := (hD.cell 1662).trans (hS.top 5 (by decide))
  have ht6 := (hD.cell 1663).trans (hS.top 6 (by decide))
  have ht7 := (hD.cell 1664).trans (hS.top 7 (by decide))
  have ht8 := (hD.cell 1665).trans (hS.top 8 (by decide))
  have hl0 := (hD.cell 1689).trans (hS.left 0 (by decide))
  have hl1 := (hD.cell 1721).trans (hS.left 1 (by decide))
  have hl2 := (hD.cell 1753).trans (hS.left 2 (by decide))
  have hl3 := (hD.cell 1785).trans (hS.left 3 (by decide))
  have V : IntKind.u8.wrap v = v := IntWalk.u8_in _ (by omega)
  have V2 : IntKind.i32.wrap v = v := IntWalk.i32_in _ (by omega)
  have Q4 : (v + 2 * v + v + 2) / 4 = v := by omega
  have Q2 : (v + v + 1) / 2 = v := by omega
  obtain ⟨e0, hc0⟩ : ∃ e, w.cell? ⟨g, 1690, none⟩ = some e := ⟨_, (hD.cell _).trans (Array.getElem?_eq_getElem (by rw [hS.size]; decide))⟩
  have hf0 := hD.frozen 1690
  obtain ⟨e1, hc1⟩ : ∃ e, w.cell? ⟨g, 1691, none⟩ = some e := ⟨_, (hD.cell _).trans (Array.getElem?_eq_getElem (by rw [hS.size]; decide))⟩
  have hf1 := hD.frozen 1691
  obtain ⟨e2, hc2⟩ : ∃ e, w.cell? ⟨g, 1692, none⟩ = some e := ⟨_, (hD.cell _).trans (Array.getElem?_eq_getElem (by rw [hS.size]; decide))⟩
  have hf2 := hD.frozen 1692
  obtain ⟨e3, hc3⟩ : ∃ e, w.cell? ⟨g, 1693, none⟩ = some e := ⟨_, (hD.cell _).trans (Array.getElem?_eq_getElem (by rw [hS.size]; decide))⟩
  have hf3 := hD.frozen 1693
  obtain ⟨e4, hc4⟩ : ∃ e, w.cell? ⟨g, 1722, none⟩ = some e := ⟨_, (hD.cell _).trans (Array.getElem?_eq_getElem (by rw [hS.size]; decide))⟩
  have hf4 := hD.frozen 1722
  obtain ⟨e5, hc5⟩ : ∃ e, w.cell? ⟨g, 1723, none⟩ = some e := ⟨_, (hD.cell _).trans (Array.getElem?_eq_getElem (by rw [hS.size]; decide))⟩
  have hf5 := hD.frozen 1723
  obtain ⟨e6, hc6⟩ : ∃ e, w.cell? ⟨g, 1724, none⟩ = some e := ⟨_, (hD.cell _).trans (Array.getElem?_eq_getElem (by rw [hS.size]; decide))⟩
  have hf6 := hD.frozen 1724
  obtain ⟨e7, hc7⟩ : ∃ e, w.cell? ⟨g, 1725, none⟩ = some e := ⟨_, (hD.cell _).trans (Array.getElem?_eq_getElem (by rw [hS.size]; decide))⟩
  have hf7 := hD.frozen 1725
  obtain ⟨e8, hc8⟩ : ∃ e, w.cell? ⟨g, 1754, none⟩ = some e := ⟨_, (hD.cell _).trans (Array.getElem?_eq_getElem (by rw [hS.size]; decide))⟩
  have hf8 := hD.frozen 1754
  obtain ⟨e9, hc9⟩ : ∃ e, w.cell? ⟨g, 1755, none⟩ = some e := ⟨_, (hD.cell _).trans (Array.getElem?_eq_getElem (by rw [hS.size]; decide))⟩
  have hf9 := hD.frozen 1755
  obtain ⟨e10, hc10⟩ : ∃ e, w.cell? ⟨g, 1756, none⟩ = some e := ⟨_, (hD.cell _).trans (Array.getElem?_eq_getElem (by rw [hS.size]; decide))⟩
  have hf10 := hD.frozen 1756
  obtain ⟨e11, hc11⟩ : ∃ e, w.cell? ⟨g, 1757, none⟩ = some e := ⟨_, (hD.cell _).trans (Array.getElem?_eq_getElem (by rw [hS.size]; decide))⟩
  have hf11 := hD.frozen 1757
  obtain ⟨e12, hc12⟩ : ∃ e, w.cell? ⟨g, 1786, none⟩ = some e := ⟨_, (hD.cell _).trans (Array.getElem?_eq_getElem (by rw [hS.size]; decide))⟩
  have hf12 := hD.frozen 1786
  obtain ⟨e13, hc13⟩ : ∃ e, w.cell? ⟨g, 1787, none⟩ = some e := ⟨_, (hD.cell _).trans (Array.getElem?_eq_getElem (by rw [hS.size]; decide))⟩
  have hf13 := hD.frozen 1787
  obtain ⟨e14, hc14⟩ : ∃ e, w.cell? ⟨g, 1788, none⟩ = some e := ⟨_, (hD.cell _).trans (Array.getElem?_eq_getElem (by rw [hS.size]; decide))⟩
  have hf14 := hD.frozen 1788
  obtain ⟨e15, hc15⟩ : ∃ e, w.cell? ⟨g, 1789, none⟩ = some e := ⟨_, (hD.cell _).trans (Array.getElem?_eq_getElem (by rw [hS.size]; decide))⟩
  have hf15 := hD.frozen 1789
  have hs := hS.size
  replace hs := hide hs
  replace hD := hide hD
  replace hS := hide hS
  go_enter Tryd.func48, Tryd.ntmps48
  go_wp2
  go_end0
  exact ⟨rfl, ((((((((((((((((Upd.refl _ _).setCell (p := ⟨g, 1690, none⟩) (.inl (by simp)) _).setCell (p := ⟨g, 1691, none⟩) (.inl (by simp)) _).setCell (p := ⟨g, 1692, none⟩) (.inl (by simp)) _).setCell (p := ⟨g, 1693, none⟩) (.inl (by simp)) _).setCell (p := ⟨g, 1722, none⟩) (.inl (by simp)) _).setCell (p := ⟨g, 1723, none⟩) (.inl (by simp)) _).setCell (p := ⟨g, 1724, none⟩) (.inl (by simp)) _).setCell (p := ⟨g, 1725, none⟩) (.inl (by simp)) _).setCell (p := ⟨g, 1754, none⟩) (.inl (by simp)) _).setCell (p := ⟨g, 1755, none⟩) (.inl (by simp)) _).setCell (p := ⟨g, 1756, none⟩) (.inl (by simp)) _).setCell (p := ⟨g, 1757, none⟩) (.inl (by simp)) _).setCell (p := ⟨g, 1786, none⟩) (.inl (by simp)) _).setCell (p := ⟨g, 1787, none⟩) (.inl (by simp)) _).setCell (p := ⟨g, 1788, none⟩) (.inl (by simp)) _).setCell (p := ⟨g, 1789, none⟩) (.inl (by simp)) _, _, ((((((((((((((((hD.out).set_ 1690 _).set_ 1691 _).set_ 1692 _).set_ 1693 _).set_ 1722 _).set_ 1723 _).set_ 1724 _).set_ 1725 _).set_ 1754 _).set_ 1755 _).set_ 1756 _).set_ 1757 _).set_ 1786 _).set_ 1787 _).set_ 1788 _).set_ 1789 _, by simpa using hs.out, PutAt.fil (((((((((((((((((PutAt.start hs.out).put 1690 (by decide)).put 1691 (by decide)).put 1692 (by decide)).put 1693 (by decide)).put 1722 (by decide)).put 1723 (by decide)).put 1724 (by decide)).put 1725 (by decide)).put 1754 (by decide)).put 1755 (by decide)).put 1756 (by decide)).put 1757 (by decide)).put 1786 (by decide)).put 1787 (by decide)).put 1788 (by decide)).put 1789 (by decide)) (by decide)⟩
set_option maxRecDepth 100000 in
set_option maxHeartbeats 4000000 in
theorem predFunc4VRflat (g : Nat) (v : Int) (cur : Array Value) (w : World) (hv : 0 ≤ v) (hv2 : v ≤ 255) (hD : Blk w g 100 cur) (hS : Flat4 cur v) :
    Calls Tryd.prog 49 #[.pointer (some ⟨g, 0, none⟩), .int .i64 1, .int .i64 8] w (Pred4 w g (fun _ _ => v)) := by
  have hg := hD.lt
  have ht0 := (hD.cell 1657).trans (hS.top 0 (by decide))
  have ht1 := (hD.cell 1658).trans (hS.top 1 (by decide))
  have ht2 := (hD.cell 1659).trans (hS.top 2 (by decide))
  have ht3 := (hD.cell 1660).trans (hS.top 3 (by decide))
  have ht4 := (hD.cell 1661).trans (hS.top 4 (by decide))
  have ht5 := (hD.cell 1662).trans (hS.top 5 (by decide))
  have ht6 := (hD.cell 1663).trans (hS.top 6 (by decide))
  have ht7 := (hD.cell 1664).trans (hS.top 7 (by decide))
  have ht8 := (hD.cell 1665).trans (hS.top 8 (by decide))
  have hl0 := (hD.cell 1689).trans (hS.left 0 (by decide))
  have hl1 := (hD.cell 1721).trans (hS.left 1 (by decide))
  have hl2 := (hD.cell 1753).trans (hS.left 2 (by decide))
  have hl3 := (hD.cell 1785).trans (hS.left 3 (by decide))
  have V : IntKind.u8.wrap v = v := IntWalk.u8_in _ (by omega)
  have V2 : IntKind.i32.wrap v = v := IntWalk.i32_in _ (by omega)
  have Q4 : (v + 2 * v + v + 2) / 4 = v := by omega
  have Q2 : (v + v + 1) / 2 = v := by omega
  obtain ⟨e0, hc0⟩ : ∃ e, w.cell? ⟨g, 1690, none⟩ = some e := ⟨_, (hD.cell _).trans (Array.getElem?_eq_getElem (by rw [hS.size]; decide))⟩
  have hf0 := hD.frozen 1690
  obtain ⟨e1, hc1⟩ : ∃ e, w.cell? ⟨g, 1691, none⟩ = some e := ⟨_, (hD.cell _).trans (Array.getElem?_eq_getElem (by rw [hS.size]; decide))⟩
  have hf1 := hD.frozen 1691
  obtain ⟨e2, hc2⟩ : ∃ e, w.cell? ⟨g, 1692, none⟩ = some e := ⟨_, (hD.cell _).trans (Array.getElem?_eq_getElem (by rw [hS.size]; decide))⟩
  have hf2 := hD.frozen 1692
  obtain ⟨e3, hc3⟩ : ∃ e, w.cell? ⟨g, 1693, none⟩ = some e := ⟨_, (hD.cell _).trans (Array.getElem?_eq_getElem (by rw [hS.size]; decide))⟩
  have hf3 := hD.frozen 1693
  obtain ⟨e4, hc4⟩ : ∃ e, w.cell? ⟨g, 1722, none⟩ = some e := ⟨_, (hD.cell _).trans (Array.getElem?_eq_getElem (by rw [hS.size]; decide))⟩
  have hf4 := hD.frozen 1722
  obtain ⟨e5, hc5⟩ : ∃ e, w.cell? ⟨g, 1723, none⟩ = some e := ⟨_, (hD.cell _).trans (Array.getElem?_eq_getElem (by rw [hS.size]; decide))⟩
  have hf5 := hD.frozen 1723
  obtain ⟨e6, hc6⟩ : ∃ e, w.cell? ⟨g, 1724, none⟩ = some e := ⟨_, (hD.cell _).trans (Array.getElem?_eq_getElem (by rw [hS.size]; decide))⟩
  have hf6 := hD.frozen 1724
  obtain ⟨e7, hc7⟩ : ∃ e, w.cell? ⟨g, 1725, none⟩ = some e := ⟨_, (hD.cell _).trans (Array.getElem?_eq_getElem (by rw [hS.size]; decide))⟩
  have hf7 := hD.frozen 1725
  obtain ⟨e8, hc8⟩ : ∃ e, w.cell? ⟨g, 1754, none⟩ = some e := ⟨_, (hD.cell _).trans (Array.getElem?_eq_getElem (by rw [hS.size]; decide))⟩
  have hf8 := hD.frozen 1754
  obtain ⟨e9, hc9⟩ : ∃ e, w.cell? ⟨g, 1755, none⟩ = some e := ⟨_, (hD.cell _).trans (Array.getElem?_eq_getElem (by rw [hS.size]; decide))⟩
  have hf9 := hD.frozen 1755
  obtain ⟨e10, hc10⟩ : ∃ e, w.cell? ⟨g, 1756, none⟩ = some e := ⟨_, (hD.cell _).trans (Array.getElem?_eq_getElem (by rw [hS.size]; decide))⟩
  have hf10 := hD.frozen 1756
  obtain ⟨e11, hc11⟩ : ∃ e, w.cell? ⟨g, 1757, none⟩ = some e := ⟨_, (hD.cell _).trans (Array.getElem?_eq_getElem (by rw [hS.size]; decide))⟩
  have hf11 := hD.frozen 1757
  obtain ⟨e12, hc12⟩ : ∃ e, w.cell? ⟨g, 1786, none⟩ = some e := ⟨_, (hD.cell _).trans (Array.getElem?_eq_getElem (by rw [hS.size]; decide))⟩
  have hf12 := hD.frozen 1786
  obtain ⟨e13, hc13⟩ : ∃ e, w.cell? ⟨g, 1787, none⟩ = some e := ⟨_, (hD.cell _).trans (Array.getElem?_eq_getElem (by rw [hS.size]; decide))⟩
  have hf13 := hD.frozen 1787
  obtain ⟨e14, hc14⟩ : ∃ e, w.cell? ⟨g, 1788, none⟩ = some e := ⟨_, (hD.cell _).trans (Array.getElem?_eq_getElem (by rw [hS.size]; decide))⟩
  have hf14 := hD.frozen 1788
  obtain ⟨e15, hc15⟩ : ∃ e, w.cell? ⟨g, 1789, none⟩ = some e := ⟨_, (hD.cell _).trans (Array.getElem?_eq_getElem (by rw [hS.size]; decide))⟩
  have hf15 := hD.frozen 1789
  have hs := hS.size
  replace hs := hide hs
  replace hD := hide hD
  replace hS := hide hS
  go_enter Tryd.func49, Tryd.ntmps49
  go_wp2
  go_end0
  exact ⟨rfl, ((((((((((((((((Upd.refl _ _).setCell (p := ⟨g, 1690, none⟩) (.inl (by simp)) _).setCell (p := ⟨g, 1691, none⟩) (.inl (by simp)) _).setCell (p := ⟨g, 1692, none⟩) (.inl (by simp)) _).setCell (p := ⟨g, 1693, none⟩) (.inl (by simp)) _).setCell (p := ⟨g, 1722, none⟩) (.inl (by simp)) _).setCell (p := ⟨g, 1723, none⟩) (.inl (by simp)) _).setCell (p := ⟨g, 1724, none⟩) (.inl (by simp)) _).setCell (p := ⟨g, 1725, none⟩) (.inl (by simp)) _).setCell (p := ⟨g, 1754, none⟩) (.inl (by simp)) _).setCell (p := ⟨g, 1755, none⟩) (.inl (by simp)) _).setCell (p := ⟨g, 1756, none⟩) (.inl (by simp)) _).setCell (p := ⟨g, 1757, none⟩) (.inl (by simp)) _).setCell (p := ⟨g, 1786, none⟩) (.inl (by simp)) _).setCell (p := ⟨g, 1787, none⟩) (.inl (by simp)) _).setCell (p := ⟨g, 1788, none⟩) (.inl (by simp)) _).setCell (p := ⟨g, 1789, none⟩) (.inl (by simp)) _, _, ((((((((((((((((hD.out).set_ 1690 _).set_ 1691 _).set_ 1692 _).set_ 1693 _).set_ 1722 _).set_ 1723 _).set_ 1724 _).set_ 1725 _).set_ 1754 _).set_ 1755 _).set_ 1756 _).set_ 1757 _).set_ 1786 _).set_ 1787 _).set_ 1788 _).set_ 1789 _, by simpa using hs.out, PutAt.fil (((((((((((((((((PutAt.start hs.out).put 1690 (by decide)).put 1691 (by decide)).put 1692 (by decide)).put 1693 (by decide)).put 1722 (by decide)).put 1723 (by decide)).put 1724 (by decide)).put 1725 (by decide)).put 1754 (by decide)).put 1755 (by decide)).put 1756 (by decide)).put 1757 (by decide)).put 1786 (by decide)).put 1787 (by decide)).put 1788 (by decide)).put 1789 (by decide)) (by decide)⟩
end Go.Proofs.YtleiehiabcgalaaDoor

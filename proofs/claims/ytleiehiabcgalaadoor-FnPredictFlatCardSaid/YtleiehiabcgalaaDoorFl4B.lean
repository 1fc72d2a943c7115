/- The straight predicting functions of small blocks (LD, VL, HD, HU) where all around is one value: the walks. -/
import Derived.Test.YtleiehiabcgalaaDoorFlat4
import Derived.Deep.LoopGhost
import Derived.BigRegion
import Derived.Deep.RegionWith
import Derived.Deep.RegionHeld3
namespace Go.Proofs.YtleiehiabcgalaaDoor
set_option linter.unusedSimpArgs false
set_option linter.unusedVariables false
open Go.RowKit Plain
set_option maxRecDepth 100000 in
set_option maxHeartbeats 4000000 in
theorem predFunc4LDflat (g : Nat) (v : Int) (cur : Array Value) (w : World) (hv : 0 ≤ v) (hv2 : v ≤ 255) (hD : Blk w g 100 cur) (hS : Flat4 cur v) :
    Calls Tryd.prog 50 #[.pointer (some ⟨g, 0, none⟩), .int .i64 1, .int .i64 8] w (Pred4 w g (fun _ _ => v)) := by
  have hg := hD.lt
  have ht0 := (hD.cell 1657).trans (hS.top 0 (by decide))
  have ht1 := (hD.cell 1658).trans (hS.top 1 (by decide))
  have ht2 := (hD.cell 1659).trans (hS.top 2 (by decide))
  have ht3 := (hD.cell 1660).trans (hS.top 3 (by decide))
  have ht4 := (hD.cell 1661).trans (hS.top 4 (by decide))
  have ht5 := (hD.cell 1662).trans (hS.top 5 (by decide))
  have ht6 := (hD.cell 1663).trans (hS.top 6 (by decide))
  have ht7 := (hD.cell 1664).trans (hS.top 7 (by decide))
  have ht8 := (hD.cell 1665).trans (hS.top 8 (by decide))
  have hl0 := (hD.cell 1689).trans (hS.left 0 (by decide))
  have hl1 := (hD.cell 1721).trans (hS.left 1 (by decide))
  have hl2 := (hD.cell 1753).trans (hS.left 2 (by decide))
  have hl3 := (hD.cell 1785).trans (hS.left 3 (by decide))
  have V : IntKind.u8.wrap v = v := IntWalk.u8_in _ (by omega)
  have V2 : IntKind.i32.wrap v = v := IntWalk.i32_in _ (by omega)
  have Q4 : (v + 2 * v + v + 2) / 4 = v := by omega
  have Q2 : (v + v + 1) / 2 = v := by omega
  obtain ⟨e0, hc0⟩ : ∃ e, w.cell? ⟨g, 1690, none⟩ = some e := ⟨_, (hD.cell _).trans (Array.getElem?_eq_getElem (by rw [hS.size]; decide))⟩
  have hf0 := hD.frozen 1690
  obtain ⟨e1, hc1⟩ : ∃ e, w.cell? ⟨g, 1691, none⟩ = some e := ⟨_, (hD.cell _).trans (Array.getElem?_eq_getElem (by rw [hS.size]; decide))⟩
  have hf1 := hD.frozen 1691
  obtain ⟨e2, hc2⟩ : ∃ e, w.cell? ⟨g, 1692, none⟩ = some e := ⟨_, (hD.cell _).trans (Array.getElem?_eq_getElem (by rw [hS.size]; decide))⟩
  have hf2 := hD.frozen 1692
  obtain ⟨e3, hc3⟩ : ∃ e, w.cell? ⟨g, 1693, none⟩ = some e := ⟨_, (hD.cell _).trans (Array.getElem?_eq_getElem (by rw [hS.size]; decide))⟩
  have hf3 := hD.frozen 1693
  obtain ⟨e4, hc4⟩ : ∃ e, w.cell? ⟨g, 1722, none⟩ = some e := ⟨_, (hD.cell _).trans (Array.getElem?_eq_getElem (by rw [hS.size]; decide))⟩
  have hf4 := hD.frozen 1722
  obtain ⟨e5, hc5⟩ : ∃ e, w.cell? ⟨g, 1723, none⟩ = some e := ⟨_, (hD.cell _).trans (Array.getElem?_eq_getElem (by rw [hS.size]; decide))⟩
  have hf5 := hD.frozen 1723
  obtain ⟨e6, hc6⟩ : ∃ e, w.cell? ⟨g, 1724, none⟩ = some e := ⟨_, (hD.cell _).trans (Array.getElem?_eq_getElem (by rw [hS.size]; decide))⟩
  have hf6 := hD.frozen 1724
  obtain ⟨e7, hc7⟩ : ∃ e, w.cell? ⟨g, 1725, none⟩ = some e := ⟨_, (hD.cell _).trans (Array.getElem?_eq_getElem (by rw [hS.size]; decide))⟩
  have hf7 := hD.frozen 1725
  obtain ⟨e8, hc8⟩ : ∃ e, w.cell? ⟨g, 1754, none⟩ = some e := ⟨_, (hD.cell _).trans (Array.getElem?_eq_getElem (by rw [hS.size]; decide))⟩
  have hf8 := hD.frozen 1754
  obtain ⟨e9, hc9⟩ : ∃ e, w.cell? ⟨g, 1755, none⟩ = some e := ⟨_, (hD.cell _).trans (Array.getElem?_eq_getElem (by rw [hS.size]; decide))⟩
  have hf9 := hD.frozen 1755
  obtain ⟨e10, hc10⟩ : ∃ e, w.cell? ⟨g, 1756, none⟩ = some e := ⟨_, (hD.cell _).trans (Array.getElem?_eq_getElem (by rw [hS.size]; decide))⟩
  have hf10 := hD.frozen 1756
  obtain ⟨e11, hc11⟩ : ∃ e, w.cell? ⟨g, 1757, none⟩ = some e := ⟨_, (hD.cell _).trans (Array.getElem?_eq_getElem (by rw [hS.size]; decide))⟩
  have hf11 := hD.frozen 1757
  obtain ⟨e12, hc12⟩ : ∃ e, w.cell? ⟨g, 1786, none⟩ = some e := ⟨_, (hD.cell _).trans (Array.getElem?_eq_getElem (by rw [hS.size]; decide))⟩
  have hf12 := hD.frozen 1786
  obtain ⟨e13, hc13⟩ : ∃ e, w.cell? ⟨g, 1787, none⟩ = some e := ⟨_, (hD.cell _).trans (Array.getElem?_eq_getElem (by rw [hS.size]; decide))⟩
  have hf13 := hD.frozen 1787
  obtain ⟨e14, hc14⟩ : ∃ e, w.cell? ⟨g, 1788, none⟩ = some e := ⟨_, (hD.cell _).trans (Array.getElem?_eq_getElem (by rw [hS.size]; decide))⟩
  have hf14 := hD.frozen 1788
  obtain ⟨e15, hc15⟩ : ∃ e, w.cell? ⟨g, 1789, none⟩ = some e := ⟨_, (hD.cell _).trans (Array.getElem?_eq_getElem (by rw [hS.size]; decide))⟩
  have hf15 := hD.frozen 1789
  have hs := hS.size
  replace hs := hide hs
  replace hD := hide hD
  replace hS := hide hS
  go_enter Tryd.func50, Tryd.ntmps50
  go_wp2
  go_end0
  exact ⟨rfl, ((((((((((((((((Upd.refl _ _).setCell (p := ⟨g, 1690, none⟩) (.inl (by simp)) _).setCell (p := ⟨g, 1691, none⟩) (.inl (by simp)) _).setCell (p := ⟨g, 1692, none⟩) (.inl (by simp)) _).setCell (p := ⟨g, 1693, none⟩) (.inl (by simp)) _).setCell (p := ⟨g, 1722, none⟩) (.inl (by simp)) _).setCell (p := ⟨g, 1723, none⟩) (.inl (by simp)) _).setCell (p := ⟨g, 1724, none⟩) (.inl (by simp)) _).setCell (p := ⟨g, 1725, none⟩) (.inl (by simp)) _).setCell (p := ⟨g, 1754, none⟩) (.inl (by simp)) _).setCell (p := ⟨g, 1755, none⟩) (.inl (by simp)) _).setCell (p := ⟨g, 1756, none⟩) (.inl (by simp)) _).setCell (p := ⟨g, 1757, none⟩) (.inl (by simp)) _).setCell (p := ⟨g, 1786, none⟩) (.inl (by simp)) _).setCell (p := ⟨g, 1787, none⟩) (.inl (by simp)) _).setCell (p := ⟨g, 1788, none⟩) (.inl (by simp)) _).setCell (p := ⟨g, 1789, none⟩) (.inl (by simp)) _, _, ((((((((((((((((hD.out).set_ 1690 _).set_ 1691 _).set_ 1692 _).set_ 1693 _).set_ 1722 _).set_ 1723 _).set_ 1724 _).set_ 1725 _).set_ 1754 _).set_ 1755 _).set_ 1756 _).set_ 1757 _).set_ 1786 _).set_ 1787 _).set_ 1788 _).set_ 1789 _, by simpa using hs.out, PutAt.fil (((((((((((((((((PutAt.start hs.out).put 1690 (by decide)).put 1691 (by decide)).put 1692 (by decide)).put 1693 (by decide)).put 1722 (by decide)).put 1723 (by decide)).put 1724 (by decide)).put 1725 (by decide)).put 1754 (by decide)).put 1755 (by decide)).put 1756 (by decide)).put 1757 (by decide)).put 1786 (by decide)).put 1787 (by decide)).put 1788 (by decide)).put 1789 (by decide)) (by decide)⟩
set_option maxRecDepth 100000 in
set_option maxHeartbeats 4000000 in
theorem predFunc4VLflat (g : Nat) (v : Int) (cur : Array Value) (w : World) (hv : 0 ≤ v) (hv2 : v ≤ 255) (hD : Blk w g 100 cur) (hS : Flat4 cur v) :
    Calls Tryd.prog 51 #[.pointer (some ⟨g, 0, none⟩), .int .i64 1, .int .i64 8] w (Pred4 w g (fun _ _ => v)) := by
  have hg := hD.lt
  have ht0 := (hD.cell 1657).trans (hS.top 0 (by decide))
  have ht1 := (hD.cell 1658).trans (hS.top 1 (by decide))
  have ht2 := (hD.cell 1659).trans (hS.top 2 (by decide))
  have ht3 := (hD.cell 1660).trans (hS.top 3 (by decide))
  have ht4 := (hD.cell 1661).trans (hS.top 4 (by decide))
  have ht5 := (hD.cell 1662).trans (hS.top 5 (by decide))
  have ht6 := (hD.cell 1663).trans (hS.top 6 (by decide))
  have ht7 := (hD.cell 1664).trans (hS.top 7 (by decide))
  have ht8 := (hD.cell 1665).trans (hS.top 8 (by decide))
  have hl0 := (hD.cell 1689).trans (hS.left 0 (by decide))
  have hl1 := (hD.cell 1721).trans (hS.left 1 (by decide))
  have hl2 := (hD.cell 1753).trans (hS.left 2 (by decide))
  have hl3 := (hD.cell 1785).trans (hS.left 3 (by decide))
  have V : IntKind.u8.wrap v = v := IntWalk.u8_in _ (by omega)
  have V2 : IntKind.i32.wrap v = v := IntWalk.i32_in _ (by omega)
  have Q4 : (v + 2 * v + v + 2) / 4 = v := by omega
  have Q2 : (v + v + 1) / 2 = v := by omega
  obtain ⟨e0, hc0⟩ : ∃ e, w.cell? ⟨g, 1690, none⟩ = some e := ⟨_, (hD.cell _).trans (Array.getElem?_eq_getElem (by rw [hS.size]; decide))⟩
  have hf0 := hD.frozen 1690
  obtain ⟨e1, hc1⟩ : ∃ e, w.cell? ⟨g, 1691, none⟩ = some e := ⟨_, (hD.cell _).trans (Array.getElem?_eq_getElem (by rw [hS.size]; decide))⟩
  have hf1 := hD.frozen 1691
  obtain ⟨e2, hc2⟩ : ∃ e, w.cell? ⟨g, 1692, none⟩ = some e := ⟨_, (hD.cell _).trans (Array.getElem?_eq_getElem (by rw [hS.size]; decide))⟩
  have hf2 := hD.frozen 1692
  obtain ⟨e3, hc3⟩ : ∃ e, w.cell? ⟨g, 1693, none⟩ = some e := ⟨_, (hD.cell _).trans (Array.getElem?_eq_getElem (by rw [hS.size]; decide))⟩
  have hf3 := hD.frozen 1693
  obtain ⟨e4, hc4⟩ : ∃ e, w.cell? ⟨g, 1722, none⟩ = some e := ⟨_, (hD.cell _).trans (Array.getElem?_eq_getElem (by rw [hS.size]; decide))⟩
  have hf4 := hD.frozen 1722
  obtain ⟨e5, hc5⟩ : ∃ e, w.cell? ⟨g, 1723, none⟩ = some e := ⟨_, (hD.cell _).trans (Array.getElem?_eq_getElem (by rw [hS.size]; decide))⟩
  have hf5 := hD.frozen 1723
  obtain ⟨e6, hc6⟩ : ∃ e, w.cell? ⟨g, 1724, none⟩ = some e := ⟨_, (hD.cell _).trans (Array.getElem?_eq_getElem (by rw [hS.size]; decide))⟩
  have hf6 := hD.frozen 1724
  obtain ⟨e7, hc7⟩ : ∃ e, w.cell? ⟨g, 1725, none⟩ = some e := ⟨_, (hD.cell _).trans (Array.getElem?_eq_getElem (by rw [hS.size]; decide))⟩
  have hf7 := hD.frozen 1725
  obtain ⟨e8, hc8⟩ : ∃ e, w.cell? ⟨g, 1754, none⟩ = some e := ⟨_, (hD.cell _).trans (Array.getElem?_eq_getElem (by rw [hS.size]; decide))⟩
  have hf8 := hD.frozen 1754
  obtain ⟨e9, hc9⟩ : ∃ e, w.cell? ⟨g, 1755, none⟩ = some e := ⟨_, (hD.cell _).trans (Array.getElem?_eq_getElem (by rw [hS.size]; decide))⟩
  have hf9 := hD.frozen 1755
  obtain ⟨e10, hc10⟩ : ∃ e, w.cell? ⟨g, 1756, none⟩ = some e := ⟨_, (hD.cell _).trans (Array.getElem?_eq_getElem (by rw [hS.size]; decide))⟩
  have hf10 := hD.frozen 1756
  obtain ⟨e11, hc11⟩ : ∃ e, w.cell? ⟨g, 1757, none⟩ = some e := ⟨_, (hD.cell _).trans (Array.getElem?_eq_getElem (by rw [hS.size]; decide))⟩
  have hf11 := hD.frozen 1757
  obtain ⟨e12, hc12⟩ : ∃ e, w.cell? ⟨g, 1786, none⟩ = some e := ⟨_, (hD.cell _).trans (Array.getElem?_eq_getElem (by rw [hS.size]; decide))⟩
  have hf12 := hD.frozen 1786
  obtain ⟨e13, hc13⟩ : ∃ e, w.cell? ⟨g, 1787, none⟩ = some e := ⟨_, (hD.cell _).trans (Array.getElem?_eq_getElem (by rw [hS.size]; decide))⟩
  have hf13 := hD.frozen 1787
  obtain ⟨e14, hc14⟩ : ∃ e, w.cell? ⟨g, 1788, none⟩ = some e := ⟨_, (hD.cell _).trans (Array.getElem?_eq_getElem (by rw [hS.size]; decide))⟩
  have hf14 := hD.frozen 1788
  obtain ⟨e15, hc15⟩ : ∃ e, w.cell? ⟨g, 1789, none⟩ = some e := ⟨_, (hD.cell _).trans (Array.getElem?_eq_getElem (by rw [hS.size]; decide))⟩
  have hf15 := hD.frozen 1789
  have hs := hS.size
  replace hs := hide hs
  replace hD := hide hD
  replace hS := hide hS
  go_enter Tryd.func51, Tryd.ntmps51
  go_wp2
  go_end0
  exact ⟨rfl, ((((((((((((((((Upd.refl _ _).setCell (p := ⟨g, 1690, none⟩) (.inl (by simp)) _).setCell (p := ⟨g, 1691, none⟩) (.inl (by simp)) _).setCell (p := ⟨g, 1692, none⟩) (.inl (by simp)) _).setCell (p := ⟨g, 1693, none⟩) (.inl (by simp)) _).setCell (p := ⟨g, 1722, none⟩) (.inl (by simp)) _).setCell (p := ⟨g, 1723, none⟩) (.inl (by simp)) _).setCell (p := ⟨g, 1724, none⟩) (.inl (by simp)) _).setCell (p := ⟨g, 1725, none⟩) (.inl (by simp)) _).setCell (p := ⟨g, 1754, none⟩) (.inl (by simp)) _).setCell (p := ⟨g, 1755, none⟩) (.inl (by simp)) _).setCell (p := ⟨g, 1756, none⟩) (.inl (by simp)) _).setCell (p := ⟨g, 1757, none⟩) (.inl (by simp)) _).setCell (p := ⟨g, 1786, none⟩) (.inl (by simp)) _).setCell (p := ⟨g, 1787, none⟩) (.inl (by simp)) _).setCell (p := ⟨g, 1788, none⟩) (.inl (by simp)) _).setCell (p := ⟨g, 1789, none⟩) (.inl (by simp)) _, _, ((((((((((((((((hD.out).set_ 1690 _).set_ 1691 _).set_ 1692 _).set_ 1693 _).set_ 1722 _).set_ 1723 _).set_ 1724 _).set_ 1725 _).set_ 1754 _).set_ 1755 _).set_ 1756 _).set_ 1757 _).set_ 1786 _).set_ 1787 _).set_ 1788 _).set_ 1789 _, by simpa using hs.out, PutAt.fil (((((((((((((((((PutAt.start hs.out).put 1690 (by decide)).put 1691 (by decide)).put 1692 (by decide)).put 1693 (by decide)).put 1722 (by decide)).put 1723 (by decide)).put 1724 (by decide)).put 1725 (by decide)).put 1754 (by decide)).put 1755 (by decide)).put 1756 (by decide)).put 1757 (by decide)).put 1786 (by decide)).put 1787 (by decide)).put 1788 (by decide)).put 1789 (by decide)) (by decide)⟩
set_option maxRecDepth 100000 in
set_option maxHeartbeats 4000000 in
theorem predFunc4HDflat (g : Nat) (v : Int) (cur : Array Value) (w : World) (hv : 0 ≤ v) (hv2 : v ≤ 255) (hD : Blk w g 100 cur) (hS : Flat4 cur v) :
    Calls Tryd.prog 52 #[.pointer (some ⟨g, 0, none⟩), .int .i64 1, .int .i64 8] w (Pred4 w g (fun _ _ => v)) := by
  have hg := hD.lt
  have ht0 := (hD.cell 1657).trans (hS.top 0 (by decide))
  have ht1 := (hD.cell 1658).trans (hS.top 1 (by decide))
  have ht2 := (hD.cell 1659).trans (hS.top 2 (by decide))
  have ht3 := (hD.cell 1660).trans (hS.top 3 (by decide))
  have ht4 := (hD.cell 1661).trans (hS.top 4 (by decide))
  have ht5 := (hD.cell 1662).trans (hS.top 5 (by decide))
  have ht6 := (hD.cell 1663).trans (hS.top 6 (by decide))
  have ht7 := (hD.cell 1664).trans (hS.top 7 (by decide))
  have ht8 := (hD.cell 1665).trans (hS.top 8 (by decide))
  have hl0 := (hD.cell 1689).trans (hS.left 0 (by decide))
  have hl1 := (hD.cell 1721).trans (hS.left 1 (by decide))
  have hl2 := (hD.cell 1753).trans (hS.left 2 (by decide))
  have hl3 := (hD.cell 1785).trans (hS.left 3 (by decide))
  have V : IntKind.u8.wrap v = v := IntWalk.u8_in _ (by omega)
  have V2 : IntKind.i32.wrap v = v := IntWalk.i32_in _ (by omega)
  have Q4 : (v + 2 * v + v + 2) / 4 = v := by omega
  have Q2 : (v + v + 1) / 2 = v := by omega
  obtain ⟨e0, hc0⟩ : ∃ e, w.cell? ⟨g, 1690, none⟩ = some e := ⟨_, (hD.cell _).trans (Array.getElem?_eq_getElem (by rw [hS.size]; decide))⟩
  have hf0 := hD.frozen 1690
  obtain ⟨e1, hc1⟩ : ∃ e, w.cell? ⟨g, 1691, none⟩ = some e := ⟨_, (hD.cell _).trans (Array.getElem?_eq_getElem (by rw [hS.size]; decide))⟩
  have hf1 := hD.frozen 1691
  obtain ⟨e2, hc2⟩ : ∃ e, w.cell? ⟨g, 1692, none⟩ = some e := ⟨_, (hD.cell _).trans (Array.getElem?_eq_getElem (by rw [hS.size]; decide))⟩
  have hf2 := hD.frozen 1692
  obtain ⟨e3, hc3⟩ : ∃ e, w.cell? ⟨g, 1693, none⟩ = some e := ⟨_, (hD.cell _).trans (Array.getElem?_eq_getElem (by rw [hS.size]; decide))⟩
  have hf3 := hD.frozen 1693
  obtain ⟨e4, hc4⟩ : ∃ e, w.cell? ⟨g, 1722, none⟩ = some e := ⟨_, (hD.cell _).trans (Array.getElem?_eq_getElem (by rw [hS.size]; decide))⟩
  have hf4 := hD.frozen 1722
  obtain ⟨e5, hc5⟩ : ∃ e, w.cell? ⟨g, 1723, none⟩ = some e := ⟨_, (hD.cell _).trans (Array.getElem?_eq_getElem (by rw [hS.size]; decide))⟩
  have hf5 := hD.frozen 1723
  obtain ⟨e6, hc6⟩ : ∃ e, w.cell? ⟨g, 1724, none⟩ = some e := ⟨_, (hD.cell _).trans (Array.getElem?_eq_getElem (by rw [hS.size]; decide))⟩
  have hf6 := hD.frozen 1724
  obtain ⟨e7, hc7⟩ : ∃ e, w.cell? ⟨g, 1725, none⟩ = some e := ⟨_, (hD.cell _).trans (Array.getElem?_eq_getElem (by rw [hS.size]; decide))⟩
  have hf7 := hD.frozen 1725
  obtain ⟨e8, hc8⟩ : ∃ e, w.cell? ⟨g, 1754, none⟩ = some e := ⟨_, (hD.cell _).trans (Array.getElem?_eq_getElem (by rw [hS.size]; decide))⟩
  have hf8 := hD.frozen 1754
  obtain ⟨e9, hc9⟩ : ∃ e, w.cell? ⟨g, 1755, none⟩ = some e := ⟨_, (hD.cell _).trans (Array.getElem?_eq_getElem (by rw [hS.size]; decide))⟩
  have hf9 := hD.frozen 1755
  obtain ⟨e10, hc10⟩ : ∃ e, w.cell? ⟨g, 1756, none⟩ = some e := ⟨_, (hD.cell _).trans (Array.getElem?_eq_getElem (by rw [hS.size]; decide))⟩
  have hf10 := hD.frozen 1756
  obtain ⟨e11, hc11⟩ : ∃ e, w.cell? ⟨g, 1757, none⟩ = some e := ⟨_, (hD.cell _).trans (Array.getElem?_eq_getElem (by rw [hS.size]; decide))⟩
  have hf11 := hD.frozen 1757
  obtain ⟨e12, hc12⟩ : ∃ e, w.cell? ⟨g, 1786, none⟩ = some e := ⟨_, (hD.cell _).trans (Array.getElem?_eq_getElem (by rw [hS.size]; decide))⟩
  have hf12 := hD.frozen 1786
  obtain ⟨e13, hc13⟩ : ∃ e, w.cell? ⟨g, 1787, none⟩ = some e := ⟨_, (hD.cell _).trans (Array.getElem?_eq_getElem (by rw [hS.size]; decide))⟩
  have hf13 := hD.frozen 1787
  obtain ⟨e14, hc14⟩ : ∃ e, w.cell? ⟨g, 1788, none⟩ = some e := ⟨_, (hD.cell _).trans (Array.getElem?_eq_getElem (by rw [hS.size]; decide))⟩
  have hf14 := hD.frozen 1788
  obtain ⟨e15, hc15⟩ : ∃ e, w.cell? ⟨g, 1789, none⟩ = some e := ⟨_, (hD.cell _).trans (Array.getElem?_eq_getElem (by rw [hS.size]; decide))⟩
  have hf15 := hD.frozen 1789
  have hs := hS.size
  replace hs := hide hs
  replace hD := hide hD
  replace hS := hide hS
  go_enter Tryd.func52, Tryd.ntmps52
  go_wp2
  go_end0
  exact ⟨rfl, ((((((((((((((((Upd.refl _ _).setCell (p := ⟨g, 1690, none⟩) (.inl (by simp)) _).setCell (p := ⟨g, 1691, none⟩) (.inl (by simp)) _).setCell (p := ⟨g, 1692, none⟩) (.inl (by simp)) _).setCell (p := ⟨g, 1693, none⟩) (.inl (by simp)) _).setCell (p := ⟨g, 1722, none⟩) (.inl (by simp)) _).setCell (p := ⟨g, 1723, none⟩) (.inl (by simp)) _).setCell (p := ⟨g, 1724, none⟩) (.inl (by simp)) _).setCell (p := ⟨g, 1725, none⟩) (.inl (by simp)) _).setCell (p := ⟨g, 1754, none⟩) (.inl (by simp)) _).setCell (p := ⟨g, 1755, none⟩) (.inl (by simp)) _).setCell (p := ⟨g, 1756, none⟩) (.inl (by simp)) _).setCell (p := ⟨g, 1757, none⟩) (.inl (by simp)) _).setCell (p := ⟨g, 1786, none⟩) (.inl (by simp)) _).setCell (p := ⟨g, 1787, none⟩) (.inl (by simp)) _).setCell (p := ⟨g, 1788, none⟩) (.inl (by simp)) _).setCell (p := ⟨g, 1789, none⟩) (.inl (by simp)) _, _, ((((((((((((((((hD.out).set_ 1690 _).set_ 1691 _).set_ 1692 _).set_ 1693 _).set_ 1722 _).set_ 1723 _).set_ 1724 _).set_ 1725 _).set_ 1754 _).set_ 1755 _).set_ 1756 _).set_ 1757 _).set_ 1786 _).set_ 1787 _).set_ 1788 _).set_ 1789 _, by simpa using hs.out, PutAt.fil (((((((((((((((((PutAt.start hs.out).put 1690 (by decide)).put 1691 (by decide)).put 1692 (by decide)).put 1693 (by decide)).put 1722 (by decide)).put 1723 (by decide)).put 1724 (by decide)).put 1725 (by decide)).put 1754 (by decide)).put 1755 (by decide)).put 1756 (by decide)).put 1757 (by decide)).put 1786 (by decide)).put 1787 (by decide)).put 1788 (by decide)).put 1789 (by decide)) (by decide)⟩
set_option maxRecDepth 100000 in
set_option maxHeartbeats 4000000 in
theorem predFunc4HUflat (g : Nat) (v : Int) (cur : Array Value) (w : World) (hv : 0 ≤ v) (hv2 : v ≤ 255) (hD : Blk w g 100 cur) (hS : Flat4 cur v) :
    Calls Tryd.prog 53 #[.pointer (some ⟨g, 0, none⟩), .int .i64 1, .int .i64 8] w (Pred4 w g (fun _ _ => v)) := by
  have hg := hD.lt
  have ht0 := (hD.cell 1657).trans (hS.top 0 (by decide))
  have ht1 := (hD.cell 1658).trans (hS.top 1 (by decide))
  have ht2 := (hD.cell 1659).trans (hS.top 2 (by decide))
  have ht3 := (hD.cell 1660).trans (hS.top 3 (by decide))
  have ht4 := (hD.cell 1661).trans (hS.top 4 (by decide))
  have ht5 := (hD.cell 1662).trans (hS.top 5 (by decide))
  have ht6 := (hD.cell 1663).trans (hS.top 6 (by decide))
  have ht7 := (hD.cell 1664).trans (hS.top 7 (by decide))
  have ht8 := (hD.cell 1665).trans (hS.top 8 (by decide))
  have hl0 := (hD.cell 1689).trans (hS.left 0 (by decide))
  have hl1 := (hD.cell 1721).trans (hS.left 1 (by decide))
  have hl2 := (hD.cell 1753).trans (hS.left 2 (by decide))
  have hl3 := (hD.cell 1785).trans (hS.left 3 (by decide))
  have V : IntKind.u8.wrap v = v := IntWalk.u8_in _ (by omega)
  have V2 : IntKind.i32.wrap v = v := IntWalk.i32_in _ (by omega)
  have Q4 : (v + 2 * v + v + 2) / 4 = v := by omega
  have Q2 : (v + v + 1) / 2 = v := by omega
  obtain ⟨e0, hc0⟩ : ∃ e, w.cell? ⟨g, 1690, none⟩ = some e := ⟨_, (hD.cell _).trans (Array.getElem?_eq_getElem (by rw [hS.size]; decide))⟩
  have hf0 := hD.frozen 1690
  obtain ⟨e1, hc1⟩ : ∃ e, w.cell? ⟨g, 1691, none⟩ = some e := ⟨_, (hD.cell _).trans (Array.getElem?_eq_getElem (by rw [hS.size]; decide))⟩
  have hf1 := hD.frozen 1691
  obtain ⟨e2, hc2⟩ : ∃ e, w.cell? ⟨g, 1692, none⟩ = some e := ⟨_, (hD.cell _).trans (Array.getElem?_eq_getElem (by rw [hS.size]; decide))⟩
  have hf2 := hD.frozen 1692
  obtain ⟨e3, hc3⟩ : ∃ e, w.cell? ⟨g, 1693, none⟩ = some e := ⟨_, (hD.cell _).trans (Array.getElem?_eq_getElem (by rw [hS.size]; decide))⟩
  have hf3 := hD.frozen 1693
  obtain ⟨e4, hc4⟩ : ∃ e, w.cell? ⟨g, 1722, none⟩ = some e := ⟨_, (hD.cell _).trans (Array.getElem?_eq_getElem (by rw [hS.size]; decide))⟩
  have hf4 := hD.frozen 1722
  obtain ⟨e5, hc5⟩ : ∃ e, w.cell? ⟨g, 1723, none⟩ = some e := ⟨_, (hD.cell _).trans (Array.getElem?_eq_getElem (by rw [hS.size]; decide))⟩
  have hf5 := hD.frozen 1723
  obtain ⟨e6, hc6⟩ : ∃ e, w.cell? ⟨g, 1724, none⟩ = some e := ⟨_, (hD.cell _).trans (Array.getElem?_eq_getElem (by rw [hS.size]; decide))⟩
  have hf6 := hD.frozen 1724
  obtain ⟨e7, hc7⟩ : ∃ e, w.cell? ⟨g, 1725, none⟩ = some e := ⟨_, (hD.cell _).trans (Array.getElem?_eq_getElem (by rw [hS.size]; decide))⟩
  have hf7 := hD.frozen 1725
  obtain ⟨e8, hc8⟩ : ∃ e, w.cell? ⟨g, 1754, none⟩ = some e := ⟨_, (hD.cell _).trans (Array.getElem?_eq_getElem (by rw [hS.size]; decide))⟩
  have hf8 := hD.frozen 1754
  obtain ⟨e9, hc9⟩ : ∃ e, w.cell? ⟨g, 1755, none⟩ = some e := ⟨_, (hD.cell _).trans (Array.getElem?_eq_getElem (by rw [hS.size]; decide))⟩
  have hf9 := hD.frozen 1755
  obtain ⟨e10, hc10⟩ : ∃ e, w.cell? ⟨g, 1756, none⟩ = some e := ⟨_, (hD.cell _).trans (Array.getElem?_eq_getElem (by rw [hS.size]; decide))⟩
  have hf10 := hD.frozen 1756
  obtain ⟨e11, hc11⟩ : ∃ e, w.cell? ⟨g, 1757, none⟩ = some e := ⟨_, (hD.cell _).trans (Array.getElem?_eq_getElem (by rw [hS.size]; decide))⟩
  have hf11 := hD.frozen 1757
  obtain ⟨e12, hc12⟩ : ∃ e, w.cell? ⟨g, 1786, none⟩ = some e := ⟨_, (hD.cell _).trans (Array.getElem?_eq_getElem (by rw [hS.size]; decide))⟩
  have hf12 := hD.frozen 1786
  obtain ⟨e13, hc13⟩ : ∃ e, w.cell? ⟨g, 1787, none⟩ = some e := ⟨_, (hD.cell _).trans (Array.getElem?_eq_getElem (by rw [hS.size]; decide))⟩
  have hf13 := hD.frozen 1787
  obtain ⟨e14, hc14⟩ : ∃ e, w.cell? ⟨g, 1788, none⟩ = some e := ⟨_, (hD.cell _).trans (Array.getElem?_eq_getElem (by rw [hS.size]; decide))⟩
  have hf14 := hD.frozen 1788
  obtain ⟨e15, hc15⟩ : ∃ e, w.cell? ⟨g, 1789, none⟩ = some e := ⟨_, (hD.cell _).trans (Array.getElem?_eq_getElem (by rw [hS.size]; decide))⟩
  have hf15 := hD.frozen 1789
  have hs := hS.size
  replace hs := hide hs
  replace hD := hide hD
  replace hS := hide hS
  go_enter Tryd.func53, Tryd.ntmps53
  go_wp2
  go_end0
  exact ⟨rfl, ((((((((((((((((Upd.refl _ _).setCell (p := ⟨g, 1690, none⟩) (.inl (by simp)) _).setCell (p := ⟨g, 1691, none⟩) (.inl (by simp)) _).setCell (p := ⟨g, 1692, none⟩) (.inl (by simp)) _).setCell (p := ⟨g, 1693, none⟩) (.inl (by simp)) _).setCell (p := ⟨g, 1722, none⟩) (.inl (by simp)) _).setCell (p := ⟨g, 1723, none⟩) (.inl (by simp)) _).setCell (p := ⟨g, 1724, none⟩) (.inl (by simp)) _).setCell (p := ⟨g, 1725, none⟩) (.inl (by simp)) _).setCell (p := ⟨g, 1754, none⟩) (.inl (by simp)) _).setCell (p := ⟨g, 1755, none⟩) (.inl (by simp)) _).setCell (p := ⟨g, 1756, none⟩) (.inl (by simp)) _).setCell (p := ⟨g, 1757, none⟩) (.inl (by simp)) _).setCell (p := ⟨g, 1786, none⟩) (.inl (by simp)) _).setCell (p := ⟨g, 1787, none⟩) (.inl (by simp)) _).setCell (p := ⟨g, 1788, none⟩) (.inl (by simp)) _).setCell (p := ⟨g, 1789, none⟩) (.inl (by simp)) _, _, ((((((((((((((((hD.out).set_ 1690 _).set_ 1691 _).set_ 1692 _).set_ 1693 _).set_ 1722 _).set_ 1723 _).set_ 1724 _).set_ 1725 _).set_ 1754 _).set_ 1755 _).set_ 1756 _).set_ 1757 _).set_ 1786 _).set_ 1787 _).set_ 1788 _).set_ 1789 _, by simpa using hs.out, PutAt.fil (((((((((((((((((PutAt.start hs.out).put 1690 (by decide)).put 1691 (by decide)).put 1692 (by decide)).put 1693 (by decide)).put 1722 (by decide)).put 1723 (by decide)).put 1724 (by decide)).put 1725 (by decide)).put 1754 (by decide)).put 1755 (by decide)).put 1756 (by decide)).put 1757 (by decide)).put 1786 (by decide)).put 1787 (by decide)).put 1788 (by decide)).put 1789 (by decide)) (by decide)⟩
end Go.Proofs.YtleiehiabcgalaaDoor

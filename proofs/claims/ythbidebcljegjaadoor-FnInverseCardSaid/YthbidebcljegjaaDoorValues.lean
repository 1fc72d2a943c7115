/- 'values' of the doors: the walk. -/
import Derived.Test.YthbidebcljegjaaDoorSquare
namespace Go.Proofs.YthbidebcljegjaaDoor
set_option linter.unusedSimpArgs false
set_option linter.unusedVariables false
open Go.RowKit Plain

set_option maxRecDepth 100000 in
set_option maxHeartbeats 4000000 in
theorem values_any (g : Nat) (F : Nat → Int) (cur : Array Value) (w : World) (hD : Blk w g 126 cur) (hsz : cur.size = 2482) (hy : ∀ a b, a < 4 → b < 4 → cur[1650 + (32 * (1 + a) + (8 + b))]? = some (.int .u8 (F (4 * a + b)))) :
    Calls Tryd.prog 67 #[.pointer (some ⟨g, 0, none⟩), .int .i64 4] w fun e w' => ∃ s, e = .returned s ∧ w'.ownsRow w.heap.size 5 1 s 16 ((rowL F 16).map (Value.int .u8)) ∧ Below w.heap.size w w' := by
  have hg := hD.lt
  replace hD := hide hD
  replace hy := hide hy
  go_enter Tryd.func67, Tryd.ntmps67
  go_wp2
  go_loopg [5, 6] 4 (fun k u5 u6 wr => ∃ j : Nat, k + j = 4 ∧ u6 = .int .i64 j ∧ wr.ownsRow w.heap.size 5 1 u5 (4 * j) ((rowL F (4 * j)).map (Value.int .u8)) ∧ Below w.heap.size w wr)
  case atStart => exact ⟨0, rfl, rfl, ⟨rfl, .inl ⟨rfl, rfl⟩⟩, Below.refl _ _⟩
  case round =>
    obtain ⟨j, hj, rfl, ho, hbel⟩ := hrel
    replace hbel := hide hbel
    replace ho := hide ho
    cases gk with
    | zero =>
      have hj4 : j = 4 := by omega
      subst hj4
      go_wp2
      go_ret
      exact ⟨_, rfl, ho.out, hbel.out⟩
    | succ k =>
      have hj4 : j < 4 := by omega
      have hjj : (j : Int) < 4 := by omega
      have hj0 : (0 : Int) ≤ (j : Int) := by omega
      have WJ : IntKind.i64.wrap (1 + (j : Int)) = 1 + (j : Int) := IntWalk.i64_in _ (by omega)
      have TJ : (1 + (j : Int)).toNat = 1 + j := by omega
      have LJ : 1 + (j : Int) < 26 := by omega
      have PJ : (0 : Int) ≤ 1 + (j : Int) := by omega
      have W12 : IntKind.i64.wrap 12 = 12 := rfl
      obtain ⟨i0, hi, hz, hz1, hz2⟩ := info_parts info_byte
      have hs : rowL F (4 * (j + 1)) = rowL F (4 * j) ++ [F (4 * j + 0), F (4 * j + 1), F (4 * j + 2), F (4 * j + 3)] := by
        rw [show 4 * (j + 1) = 4 * j + 1 + 1 + 1 + 1 by omega, rowL_succ, rowL_succ, rowL_succ, rowL_succ]
        simp [List.append_assoc, Nat.add_assoc]
      have hnews : Hid (∀ q u, ([.int .u8 (F (4 * j + 0)), .int .u8 (F (4 * j + 1)), .int .u8 (F (4 * j + 2)), .int .u8 (F (4 * j + 3))] : List Value)[q]? = some u → wr.cell? ((⟨g, 1650 + (1 + j) * 32 + 8, none⟩ : Addr).add q) = some u) := by
        refine hide ?_
        intro q u hq
        have hD2 := hD.out.below hbel.out hg
        have hyy := fun b (hb : b < 4) => (hD2.cell _).trans (hy.out j b hj4 hb)
        rw [Addr.add_lit, show 1650 + (1 + j) * 32 + 8 + q = 1650 + (32 * (1 + j) + (8 + q)) by omega]
        rcases (show q = 0 ∨ q = 1 ∨ q = 2 ∨ q = 3 ∨ 4 ≤ q by omega) with rfl | rfl | rfl | rfl | h
        · rw [hyy 0 (by decide)]; exact hq
        · rw [hyy 1 (by decide)]; exact hq
        · rw [hyy 2 (by decide)]; exact hq
        · rw [hyy 3 (by decide)]; exact hq
        · rw [List.getElem?_eq_none (by simpa using h)] at hq; cases hq
      replace hs := hide hs
      have hsW := hbel.out.size
      go_wp2_with (at_builtin; refine wpList_append_own _ rfl (.tmp 12) (.tmp 21) 33 rfl w.heap.size 5 i0 _ 1 1 Tryd.underlying33 hi hz hz1 hz2 rfl (by decide) u5 (4 * j) ((rowL F (4 * j)).map (Value.int .u8)) rfl ho.out ⟨g, 1650 + (1 + j) * 32 + 8, none⟩ 4 24 [.int .u8 (F (4 * j + 0)), .int .u8 (F (4 * j + 1)), .int .u8 (F (4 * j + 2)), .int .u8 (F (4 * j + 3))] rfl rfl hnews.out (by simp [Value.oneCell']) (by simp only [maxLen]; omega) (by omega) hsW ?_; intro v1 w1 hown1 hg1 _; replace hown1 := hide hown1; replace hg1 := hide hg1)
      go_roundg k
      case measure => omega
      case rel => exact ⟨j + 1, by omega, by go_num, by rw [hs.out, show 4 * (j + 1) = 4 * j + 4 by omega]; simpa using hown1.out, hbel.out.grown hg1.out hsW (fun k hk => (ho.out.lt k hk).1)⟩
end Go.Proofs.YthbidebcljegjaaDoor

/- 'values' of the doors at 8: the walk. -/
import Derived.Test.YtleiehiabcgalaaDoorDec
import Derived.Test.YtleiehiabcgalaaDoorRowf
namespace Go.Proofs.YtleiehiabcgalaaDoor
set_option linter.unusedSimpArgs false
set_option linter.unusedVariables false
open Go.RowKit Plain

theorem info_byteq8 : (Tryd.prog.info? 5).map (fun i => (i.zero, i.size, i.bytes)) = some (some (Value.int .u8 0), 1, 1) := by kernel_rfl
def rowQ8 (F : Nat → Int) (m : Nat) : List Int := (List.range m).map F
theorem rowQ8_add (F : Nat → Int) (m : Nat) : rowQ8 F (m + 8) = rowQ8 F m ++ (List.range 8).map (fun i => F (m + i)) := by
  unfold rowQ8
  rw [List.range_add, List.map_append, List.map_map]
  rfl

set_option maxRecDepth 100000 in
set_option maxHeartbeats 4000000 in
theorem values8_any (g : Nat) (F : Nat → Int) (cur : Array Value) (w : World) (hD : Blk w g 100 cur) (hsz : cur.size = 2482) (hy : ∀ a b, a < 8 → b < 8 → cur[1650 + (1 + a) * 32 + 8 + b]? = some (.int .u8 (F (8 * a + b)))) :
    Calls Tryd.prog 27 #[.pointer (some ⟨g, 0, none⟩), .int .i64 8] w fun e w' => ∃ s, e = .returned s ∧ w'.ownsRow w.heap.size 5 1 s 64 ((rowQ8 F 64).map (Value.int .u8)) ∧ Below w.heap.size w w' := by
  have hg := hD.lt
  replace hD := hide hD
  replace hy := hide hy
  go_enter Tryd.func27, Tryd.ntmps27
  go_wp2
  go_loopg [5, 6] 8 (fun k u5 u6 wr => ∃ j : Nat, k + j = 8 ∧ u6 = .int .i64 j ∧ wr.ownsRow w.heap.size 5 1 u5 (8 * j) ((rowQ8 F (8 * j)).map (Value.int .u8)) ∧ Below w.heap.size w wr)
  case atStart => exact ⟨0, rfl, rfl, ⟨rfl, .inl ⟨rfl, rfl⟩⟩, Below.refl _ _⟩
  case round =>
    obtain ⟨j, hj, rfl, ho, hbel⟩ := hrel
    replace hbel := hide hbel
    replace ho := hide ho
    cases gk with
    | zero =>
      have hj4 : j = 8 := by omega
      subst hj4
      go_wp2
      go_ret
      exact ⟨_, rfl, ho.out, hbel.out⟩
    | succ k =>
      have hj4 : j < 8 := by omega
      have hjj : (j : Int) < 8 := by omega
      have hj0 : (0 : Int) ≤ (j : Int) := by omega
      have WJ : IntKind.i64.wrap (1 + (j : Int)) = 1 + (j : Int) := IntWalk.i64_in _ (by omega)
      have TJ : (1 + (j : Int)).toNat = 1 + j := by omega
      have LJ : 1 + (j : Int) < 26 := by omega
      have PJ : (0 : Int) ≤ 1 + (j : Int) := by omega
      have W12 : IntKind.i64.wrap 16 = 16 := rfl
      obtain ⟨i0, hi, hz, hz1, hz2⟩ := info_parts info_byteq8
      have hs : rowQ8 F (8 * (j + 1)) = rowQ8 F (8 * j) ++ (List.range 8).map (fun i => F (8 * j + i)) := by
        rw [show 8 * (j + 1) = 8 * j + 8 by omega]
        exact rowQ8_add F _
      have hnl : (((List.range 8).map (fun i => F (8 * j + i))).map (Value.int .u8)).length = 8 := by simp
      have hnews : Hid (∀ q u, (((List.range 8).map (fun i => F (8 * j + i))).map (Value.int .u8))[q]? = some u → wr.cell? ((⟨g, 1650 + (1 + j) * 32 + 8, none⟩ : Addr).add q) = some u) := by
        refine hide ?_
        intro q u hq
        have hqN : q < 8 := by
          have := (List.getElem?_eq_some_iff.1 hq).1
          simpa using this
        have hD2 := hD.out.below hbel.out hg
        rw [Addr.add_lit, hD2.cell, hy.out j q hj4 hqN]
        simpa [hqN] using hq
      have hone : ∀ u ∈ ((List.range 8).map (fun i => F (8 * j + i))).map (Value.int .u8), u.oneCell' = true := by
        intro u hu
        obtain ⟨z, _, rfl⟩ := List.mem_map.1 hu
        rfl
      generalize hNL : (List.range 8).map (fun i => F (8 * j + i)) = NL at *
      replace hs := hide hs
      replace hNL := hide hNL
      replace hnl := hide hnl
      replace hone := hide hone
      have hsW := hbel.out.size
      go_wp2_with (at_builtin; refine wpList_append_own _ rfl (.tmp 12) (.tmp 21) 22 rfl w.heap.size 5 i0 _ 1 1 Tryd.underlying22 hi hz hz1 hz2 rfl (by decide) u5 (8 * j) ((rowQ8 F (8 * j)).map (Value.int .u8)) rfl ho.out ⟨g, 1650 + (1 + j) * 32 + 8, none⟩ 8 24 (NL.map (Value.int .u8)) rfl hnl.out hnews.out (by intro u hu; exact hone.out u hu) (by simp only [maxLen]; omega) (by omega) hsW ?_; intro v1 w1 hown1 hg1 _; replace hown1 := hide hown1; replace hg1 := hide hg1)
      go_roundg k
      case measure => omega
      case rel => exact ⟨j + 1, by omega, by go_num, by rw [hs.out, show 8 * (j + 1) = 8 * j + 8 by omega, List.map_append]; exact hown1.out, hbel.out.grown hg1.out hsW (fun k hk => (ho.out.lt k hk).1)⟩
end Go.Proofs.YtleiehiabcgalaaDoor

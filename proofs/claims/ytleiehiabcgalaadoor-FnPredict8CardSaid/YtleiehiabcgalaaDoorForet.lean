/- 'foretoldLarge' of the reference at 8: the walks. -/
import Derived.Test.YtleiehiabcgalaaDoorPred8
import Derived.Test.YtleiehiabcgalaaDoorVal8
import Derived.Test.YtleiehiabcgalaaDoorTwo
import Derived.Deep.LoopGhost
import Derived.Deep.QuietTactic
import Derived.BigQuiet
import Derived.Deep.RegionHeld3
import Derived.Deep.DeepCutAuto
import Derived.Deep.CutBlock
namespace Go.Proofs.YtleiehiabcgalaaDoor
set_option linter.unusedSimpArgs false
set_option linter.unusedVariables false
open Go.RowKit Plain

theorem ret_i8 {a b : Int} (h : a = b) : Ending.returned (.int .i64 a) = .returned (.int .i64 b) := by rw [h]
theorem within8_any (n : Int) (w : World) : Calls Tryd.prog 43 #[.int .i64 n, .int .i64 0, .int .i64 255] w fun e w' => e = .returned (.int .i64 (clp8 n)) ∧ w = w' := by
  unfold clp8
  go_enter Tryd.func43, Tryd.ntmps43
  by_cases h1 : n < 0
  · have h2 : n ≤ 255 := by omega
    go_wp2
    all_goals
      go_ret
      refine ⟨ret_i8 ?_, rfl⟩
      (repeat' split) <;> omega
  · by_cases h2 : 255 < n
    · go_wp2
      all_goals
        go_ret
        refine ⟨ret_i8 ?_, rfl⟩
        (repeat' split) <;> omega
    · go_wp2
      all_goals
        go_ret
        refine ⟨ret_i8 ?_, rfl⟩
        (repeat' split) <;> omega
theorem byteOf_any (x : Int) (w : World) : Calls Tryd.prog 30 #[.int .i64 x] w fun e w' => e = .returned (.int .i64 (clp8 x)) ∧ w = w' := by
  have c := within8_any x w
  replace c := hide c
  generalize clp8 x = y at *
  go_enter Tryd.func30, Tryd.ntmps30
  go_wp2_with (first | (go_at_call 43; refine c.out.mono ?_; rintro e w' ⟨rfl, rfl⟩) | fail)
  go_ret
  exact ⟨rfl, rfl⟩
theorem info_int8 : (Tryd.prog.info? 3).map (fun i => (i.zero, i.size, i.bytes)) = some (some (Value.int .i64 0), 1, 8) := by kernel_rfl
theorem rowQ8_succ (F : Nat → Int) (m : Nat) : rowQ8 F (m + 1) = rowQ8 F m ++ [F m] := by simp [rowQ8, List.range_succ]
theorem rowQ8_len (F : Nat → Int) (m : Nat) : (rowQ8 F m).length = m := by simp [rowQ8]
theorem below_drewN8 {b : Nat} {w w' : World} (h : Below b w w') (n : Nat) : Below b w (w'.drewN n) := ⟨h.os, h.tape, h.output, h.size, h.block⟩
theorem clp8_ends (x : Int) : 0 ≤ clp8 x ∧ clp8 x ≤ 255 := by unfold clp8; split; omega; split <;> omega

set_option maxRecDepth 100000 in
set_option maxHeartbeats 4000000 in
theorem foretoldDC (Aa Al : Option Addr) (ca cl B : Nat) (cv : Int) (va vl : List Int) (w : World) (hB : B ≤ w.heap.size) (hla : va.length = 8) (hll : vl.length = 8) (hcv : 0 ≤ cv ∧ cv ≤ 255) (hva : ∀ k, 0 ≤ va.getD k 0 ∧ va.getD k 0 ≤ 255) (hvl : ∀ k, 0 ≤ vl.getD k 0 ∧ vl.getD k 0 ≤ 255) (hra : Rd .i64 w B Aa va) (hrl : Rd .i64 w B Al vl) :
    Calls Tryd.prog 29 #[.int .i64 0, .slice Aa 8 ca, .slice Al 8 cl, .int .i64 cv, .agg #[.bool true, .bool true]] w fun e w' => ∃ s, e = .returned s ∧ w'.ownsRow w.heap.size 3 1 s 64 ((rowQ8 (fun q => (fun a b => (8 + sum8 (fun k => va.getD k 0) 8 + sum8 (fun k => vl.getD k 0) 8) / 16) (q / 8) (q % 8)) 64).map (Value.int .i64)) ∧ Below w.heap.size w w' := by
  obtain ⟨ba, oa, rfl, hba, hca⟩ := hra.at_ (j := 0) (by omega)
  obtain ⟨bl, ol, rfl, hbl, hcl⟩ := hrl.at_ (j := 0) (by omega)
  obtain ⟨hcv1, hcv2⟩ := hcv
  have hIn : Blk (w.alloc (.cells #[.bool true, .bool true] 51)) w.heap.size 51 #[.bool true, .bool true] := Blk.new w _ _
  have hI0 := hIn.cell 0
  have hI1 := hIn.cell 1
  simp only [List.getElem?_toArray, List.getElem?_cons_zero, List.getElem?_cons_succ] at hI0 hI1
  have hb1 := (Below.refl w.heap.size w).alloc (Nat.le_refl _) (.cells #[.bool true, .bool true] 51)
  have hsA := sum8_bd (fun k => va.getD k 0) hva
  have hsL := sum8_bd (fun k => vl.getD k 0) hvl
  have hca' : ∀ j, j < 8 → (w.alloc (.cells #[.bool true, .bool true] 51)).cell? ⟨ba, oa + j, none⟩ = some (.int .i64 (va.getD j 0)) := fun j hj => (hb1.cell (p := ⟨ba, oa + j, none⟩) (by show ba < _; omega)).trans (hca j (by omega))
  have hcl' : ∀ j, j < 8 → (w.alloc (.cells #[.bool true, .bool true] 51)).cell? ⟨bl, ol + j, none⟩ = some (.int .i64 (vl.getD j 0)) := fun j hj => (hb1.cell (p := ⟨bl, ol + j, none⟩) (by show bl < _; omega)).trans (hcl j (by omega))
  have hba' : ba < w.heap.size := by omega
  have hbl' : bl < w.heap.size := by omega
  clear hca hcl hra hrl hba hbl hB hIn
  replace hca' := hide hca'
  replace hcl' := hide hcl'
  replace hsA := hide hsA
  replace hsL := hide hsL
  replace hva := hide hva
  replace hvl := hide hvl
  replace hla := hide hla
  replace hll := hide hll
  replace hb1 := hide hb1
  go_enter Tryd.func29, Tryd.ntmps29
  go_wp2
  generalize hw1 : w.alloc (.cells #[.bool true, .bool true] 51) = w1 at *
  replace hw1 := hide hw1
  go_loopg [12, 13, 14] 8 (fun k us un ui wr => ∃ i : Nat, k + i = 8 ∧ ui = .int .i64 i ∧ us = .int .i64 (sum8 (fun k => va.getD k 0) i + sum8 (fun k => vl.getD k 0) i) ∧ un = .int .i64 (2 * (i : Int)) ∧ w1 = wr)
  case atStart => exact ⟨0, rfl, rfl, by simp [sum8], by simp, rfl⟩
  case round =>
    obtain ⟨i, hi, rfl, rfl, rfl, rfl⟩ := hrel
    cases gk with
    | succ k =>
      have hin : i < 8 := by omega
      have hii : (i : Int) < 8 := by omega
      have hi0 : (0 : Int) ≤ (i : Int) := by omega
      have ka := hca'.out i hin
      have kl := hcl'.out i hin
      have bA := hsA.out i
      have bL := hsL.out i
      have bx := hva.out i
      have by' := hvl.out i
      have eA : sum8 (fun k => va.getD k 0) (i + 1) = sum8 (fun k => va.getD k 0) i + va.getD i 0 := rfl
      have eL : sum8 (fun k => vl.getD k 0) (i + 1) = sum8 (fun k => vl.getD k 0) i + vl.getD i 0 := rfl
      replace eA := hide eA
      replace eL := hide eL
      generalize hA0 : sum8 (fun k => va.getD k 0) i = A0 at *
      generalize hL0 : sum8 (fun k => vl.getD k 0) i = L0 at *
      generalize hx0 : va.getD i 0 = x0 at *
      generalize hy0 : vl.getD i 0 = y0 at *
      replace hA0 := hide hA0
      replace hL0 := hide hL0
      replace hx0 := hide hx0
      replace hy0 := hide hy0
      clear hca' hcl' hva hvl hsA hsL
      go_wp2
      go_roundg k
      case measure => omega
      case rel => exact ⟨i + 1, by omega, by go_num, by have q1 := eA.out; have q2 := eL.out; have q3 := hA0.out; have q4 := hL0.out; have q5 := hx0.out; have q6 := hy0.out; congr 1; omega, by congr 1; (try push_cast); (try omega), rfl⟩
    | zero =>
      have hi8 : i = 8 := by omega
      subst hi8
      have bA := hsA.out 8
      have bL := hsL.out 8
      have e8 : ((8 : Nat) : Int) = 8 := rfl
      clear hi hsA hsL
      obtain ⟨M, hM⟩ : ∃ M : Int, M = (8 + sum8 (fun k => va.getD k 0) 8 + sum8 (fun k => vl.getD k 0) 8) / 16 := ⟨_, rfl⟩
      have hMb : 0 ≤ M ∧ M ≤ 255 := by omega
      generalize hSA : sum8 (fun k => va.getD k 0) 8 = SA at *
      generalize hSL : sum8 (fun k => vl.getD k 0) 8 = SL at *
      replace hSA := hide hSA
      replace hSL := hide hSL
      replace hM := hide hM
      clear hI0 hI1
      go_wp2
      clear e8
      go_loopg [15, 16] 8 (fun k us uj wr => ∃ j : Nat, k + j = 8 ∧ uj = .int .i64 j ∧ wr.ownsRow w1.heap.size 3 1 us (8 * j) ((rowQ8 (fun q => (fun a b => (8 + sum8 (fun k => va.getD k 0) 8 + sum8 (fun k => vl.getD k 0) 8) / 16) (q / 8) (q % 8)) (8 * j)).map (Value.int .i64)) ∧ Below w1.heap.size w1 wr)
      case atStart => exact ⟨0, rfl, rfl, ⟨rfl, .inl ⟨rfl, rfl⟩⟩, Below.refl _ _⟩
      case round =>
        obtain ⟨j, hj, rfl, ho, hbel⟩ := hrel
        replace ho := hide ho
        replace hbel := hide hbel
        cases gk with
        | zero =>
          have hj8 : j = 8 := by omega
          subst hj8
          clear hca' hcl' hva hvl
          go_wp2
          go_ret
          exact ⟨_, rfl, own_down ho.out hb1.out.size, hb1.out.trans (hbel.out.mono hb1.out.size)⟩
        | succ k =>
          have hjn : j < 8 := by omega
          have hjj : (j : Int) < 8 := by omega
          have hj0 : (0 : Int) ≤ (j : Int) := by omega
          obtain ⟨wo, hwo⟩ : ∃ wo : World, wo = wr := ⟨_, rfl⟩
          subst hwo
          go_wp2
          go_loopg [15, 17] 8 (fun k us ui wr => ∃ i : Nat, k + i = 8 ∧ ui = .int .i64 i ∧ wr.ownsRow w1.heap.size 3 1 us (8 * j + i) ((rowQ8 (fun q => (fun a b => (8 + sum8 (fun k => va.getD k 0) 8 + sum8 (fun k => vl.getD k 0) 8) / 16) (q / 8) (q % 8)) (8 * j + i)).map (Value.int .i64)) ∧ Below w1.heap.size w1 wr)
          case atStart => exact ⟨0, rfl, rfl, ho.out, hbel.out⟩
          case round =>
            obtain ⟨i, hi, rfl, ho2, hbel2⟩ := hrel
            clear ho hbel
            replace ho2 := hide ho2
            have hsz2 := hbel2.size
            cases gk with
            | zero =>
              have hi8 : i = 8 := by omega
              subst hi8
              replace hbel2 := hide hbel2
              clear hca' hcl' hva hvl
              go_wp2
              go_roundg k
              case measure => omega
              case rel => exact ⟨j + 1, by omega, by go_num, by rw [show 8 * (j + 1) = 8 * j + 8 by omega]; exact ho2.out, hbel2.out⟩
            | succ k2 =>
              have hin : i < 8 := by omega
              have hii : (i : Int) < 8 := by omega
              have hi0 : (0 : Int) ≤ (i : Int) := by omega
              have hs1 := hb1.out.size
              have ka := (hbel2.cell (p := ⟨ba, oa + i, none⟩) (by show ba < _; omega)).trans (hca'.out i hin)
              have kl := (hbel2.cell (p := ⟨bl, ol + j, none⟩) (by show bl < _; omega)).trans (hcl'.out j hjn)
              have bx := hva.out i
              have by' := hvl.out j
              have hrow := rowQ8_succ (fun q => (fun a b => (8 + sum8 (fun k => va.getD k 0) 8 + sum8 (fun k => vl.getD k 0) 8) / 16) (q / 8) (q % 8)) (8 * j + i)
              have q1 : (8 * j + i) / 8 = j := by omega
              have q2 : (8 * j + i) % 8 = i := by omega
              rw [q1, q2] at hrow
              have hrow2 : rowQ8 (fun q => (fun a b => (8 + sum8 (fun k => va.getD k 0) 8 + sum8 (fun k => vl.getD k 0) 8) / 16) (q / 8) (q % 8)) (8 * j + i + 1) = rowQ8 (fun q => (fun a b => (8 + sum8 (fun k => va.getD k 0) 8 + sum8 (fun k => vl.getD k 0) 8) / 16) (q / 8) (q % 8)) (8 * j + i) ++ [(SA + SL + 8) / 16] := by rw [hrow]; congr 2; show (8 + sum8 (fun k => va.getD k 0) 8 + sum8 (fun k => vl.getD k 0) 8) / 16 = _; have := hSA.out; have := hSL.out; omega
              clear hrow q1 q2
              generalize hx0 : va.getD i 0 = x0 at *
              generalize hy0 : vl.getD j 0 = y0 at *
              replace hx0 := hide hx0
              replace hy0 := hide hy0
              replace hrow2 := hide hrow2
              replace hbel2 := hide hbel2
              clear hca' hcl' hva hvl
              go_wp2_with (at_builtin; refine wpList_push rfl (.tmp 99) (.tmp 101) _ rfl w1.heap.size 3 _ 8 Tryd.underlying36 info_int8 rfl u15 (8 * j + i) _ rfl ho2.out _ rfl rfl (by simp only [maxLen]; omega) (by omega) hsz2 ?_; intro v' w3 hown3 hg3; replace hown3 := hide hown3; replace hg3 := hide hg3)
              go_roundg k2
              case measure => omega
              case rel => exact ⟨i + 1, by omega, by go_num, by rw [show 8 * j + (i + 1) = 8 * j + i + 1 by omega, hrow2.out, List.map_append]; exact hown3.out, hbel2.out.grown hg3.out hsz2 (fun k hk => (ho2.out.lt k hk).1)⟩

set_option maxRecDepth 100000 in
set_option maxHeartbeats 4000000 in
theorem foretoldTM (Aa Al : Option Addr) (ca cl B : Nat) (cv : Int) (va vl : List Int) (w : World) (hB : B ≤ w.heap.size) (hla : va.length = 8) (hll : vl.length = 8) (hcv : 0 ≤ cv ∧ cv ≤ 255) (hva : ∀ k, 0 ≤ va.getD k 0 ∧ va.getD k 0 ≤ 255) (hvl : ∀ k, 0 ≤ vl.getD k 0 ∧ vl.getD k 0 ≤ 255) (hra : Rd .i64 w B Aa va) (hrl : Rd .i64 w B Al vl) :
    Calls Tryd.prog 29 #[.int .i64 1, .slice Aa 8 ca, .slice Al 8 cl, .int .i64 cv, .agg #[.bool true, .bool true]] w fun e w' => ∃ s, e = .returned s ∧ w'.ownsRow w.heap.size 3 1 s 64 ((rowQ8 (fun q => (fun a b => clp8 (vl.getD a 0 + va.getD b 0 - cv)) (q / 8) (q % 8)) 64).map (Value.int .i64)) ∧ Below w.heap.size w w' := by
  obtain ⟨ba, oa, rfl, hba, hca⟩ := hra.at_ (j := 0) (by omega)
  obtain ⟨bl, ol, rfl, hbl, hcl⟩ := hrl.at_ (j := 0) (by omega)
  obtain ⟨hcv1, hcv2⟩ := hcv
  have hIn : Blk (w.alloc (.cells #[.bool true, .bool true] 51)) w.heap.size 51 #[.bool true, .bool true] := Blk.new w _ _
  have hI0 := hIn.cell 0
  have hI1 := hIn.cell 1
  simp only [List.getElem?_toArray, List.getElem?_cons_zero, List.getElem?_cons_succ] at hI0 hI1
  have hb1 := (Below.refl w.heap.size w).alloc (Nat.le_refl _) (.cells #[.bool true, .bool true] 51)
  have hsA := sum8_bd (fun k => va.getD k 0) hva
  have hsL := sum8_bd (fun k => vl.getD k 0) hvl
  have hca' : ∀ j, j < 8 → (w.alloc (.cells #[.bool true, .bool true] 51)).cell? ⟨ba, oa + j, none⟩ = some (.int .i64 (va.getD j 0)) := fun j hj => (hb1.cell (p := ⟨ba, oa + j, none⟩) (by show ba < _; omega)).trans (hca j (by omega))
  have hcl' : ∀ j, j < 8 → (w.alloc (.cells #[.bool true, .bool true] 51)).cell? ⟨bl, ol + j, none⟩ = some (.int .i64 (vl.getD j 0)) := fun j hj => (hb1.cell (p := ⟨bl, ol + j, none⟩) (by show bl < _; omega)).trans (hcl j (by omega))
  have hba' : ba < w.heap.size := by omega
  have hbl' : bl < w.heap.size := by omega
  clear hca hcl hra hrl hba hbl hB hIn
  replace hca' := hide hca'
  replace hcl' := hide hcl'
  replace hsA := hide hsA
  replace hsL := hide hsL
  replace hva := hide hva
  replace hvl := hide hvl
  replace hla := hide hla
  replace hll := hide hll
  replace hb1 := hide hb1
  go_enter Tryd.func29, Tryd.ntmps29
  go_wp2
  generalize hw1 : w.alloc (.cells #[.bool true, .bool true] 51) = w1 at *
  replace hw1 := hide hw1
  go_loopg [12, 13, 14] 8 (fun k us un ui wr => ∃ i : Nat, k + i = 8 ∧ ui = .int .i64 i ∧ us = .int .i64 (sum8 (fun k => va.getD k 0) i + sum8 (fun k => vl.getD k 0) i) ∧ un = .int .i64 (2 * (i : Int)) ∧ w1 = wr)
  case atStart => exact ⟨0, rfl, rfl, by simp [sum8], by simp, rfl⟩
  case round =>
    obtain ⟨i, hi, rfl, rfl, rfl, rfl⟩ := hrel
    cases gk with
    | succ k =>
      have hin : i < 8 := by omega
      have hii : (i : Int) < 8 := by omega
      have hi0 : (0 : Int) ≤ (i : Int) := by omega
      have ka := hca'.out i hin
      have kl := hcl'.out i hin
      have bA := hsA.out i
      have bL := hsL.out i
      have bx := hva.out i
      have by' := hvl.out i
      have eA : sum8 (fun k => va.getD k 0) (i + 1) = sum8 (fun k => va.getD k 0) i + va.getD i 0 := rfl
      have eL : sum8 (fun k => vl.getD k 0) (i + 1) = sum8 (fun k => vl.getD k 0) i + vl.getD i 0 := rfl
      replace eA := hide eA
      replace eL := hide eL
      generalize hA0 : sum8 (fun k => va.getD k 0) i = A0 at *
      generalize hL0 : sum8 (fun k => vl.getD k 0) i = L0 at *
      generalize hx0 : va.getD i 0 = x0 at *
      generalize hy0 : vl.getD i 0 = y0 at *
      replace hA0 := hide hA0
      replace hL0 := hide hL0
      replace hx0 := hide hx0
      replace hy0 := hide hy0
      clear hca' hcl' hva hvl hsA hsL
      go_wp2
      go_roundg k
      case measure => omega
      case rel => exact ⟨i + 1, by omega, by go_num, by have q1 := eA.out; have q2 := eL.out; have q3 := hA0.out; have q4 := hL0.out; have q5 := hx0.out; have q6 := hy0.out; congr 1; omega, by congr 1; (try push_cast); (try omega), rfl⟩
    | zero =>
      have hi8 : i = 8 := by omega
      subst hi8
      have bA := hsA.out 8
      have bL := hsL.out 8
      have e8 : ((8 : Nat) : Int) = 8 := rfl
      clear hi hsA hsL
      obtain ⟨M, hM⟩ : ∃ M : Int, M = (8 + sum8 (fun k => va.getD k 0) 8 + sum8 (fun k => vl.getD k 0) 8) / 16 := ⟨_, rfl⟩
      have hMb : 0 ≤ M ∧ M ≤ 255 := by omega
      generalize hSA : sum8 (fun k => va.getD k 0) 8 = SA at *
      generalize hSL : sum8 (fun k => vl.getD k 0) 8 = SL at *
      replace hSA := hide hSA
      replace hSL := hide hSL
      replace hM := hide hM
      clear hI0 hI1
      go_wp2
      clear e8
      go_loopg [15, 16] 8 (fun k us uj wr => ∃ j : Nat, k + j = 8 ∧ uj = .int .i64 j ∧ wr.ownsRow w1.heap.size 3 1 us (8 * j) ((rowQ8 (fun q => (fun a b => clp8 (vl.getD a 0 + va.getD b 0 - cv)) (q / 8) (q % 8)) (8 * j)).map (Value.int .i64)) ∧ Below w1.heap.size w1 wr)
      case atStart => exact ⟨0, rfl, rfl, ⟨rfl, .inl ⟨rfl, rfl⟩⟩, Below.refl _ _⟩
      case round =>
        obtain ⟨j, hj, rfl, ho, hbel⟩ := hrel
        replace ho := hide ho
        replace hbel := hide hbel
        cases gk with
        | zero =>
          have hj8 : j = 8 := by omega
          subst hj8
          clear hca' hcl' hva hvl
          go_wp2
          go_ret
          exact ⟨_, rfl, own_down ho.out hb1.out.size, hb1.out.trans (hbel.out.mono hb1.out.size)⟩
        | succ k =>
          have hjn : j < 8 := by omega
          have hjj : (j : Int) < 8 := by omega
          have hj0 : (0 : Int) ≤ (j : Int) := by omega
          obtain ⟨wo, hwo⟩ : ∃ wo : World, wo = wr := ⟨_, rfl⟩
          subst hwo
          go_wp2
          go_loopg [15, 17] 8 (fun k us ui wr => ∃ i : Nat, k + i = 8 ∧ ui = .int .i64 i ∧ wr.ownsRow w1.heap.size 3 1 us (8 * j + i) ((rowQ8 (fun q => (fun a b => clp8 (vl.getD a 0 + va.getD b 0 - cv)) (q / 8) (q % 8)) (8 * j + i)).map (Value.int .i64)) ∧ Below w1.heap.size w1 wr)
          case atStart => exact ⟨0, rfl, rfl, ho.out, hbel.out⟩
          case round =>
            obtain ⟨i, hi, rfl, ho2, hbel2⟩ := hrel
            clear ho hbel
            replace ho2 := hide ho2
            have hsz2 := hbel2.size
            cases gk with
            | zero =>
              have hi8 : i = 8 := by omega
              subst hi8
              replace hbel2 := hide hbel2
              clear hca' hcl' hva hvl
              go_wp2
              go_roundg k
              case measure => omega
              case rel => exact ⟨j + 1, by omega, by go_num, by rw [show 8 * (j + 1) = 8 * j + 8 by omega]; exact ho2.out, hbel2.out⟩
            | succ k2 =>
              have hin : i < 8 := by omega
              have hii : (i : Int) < 8 := by omega
              have hi0 : (0 : Int) ≤ (i : Int) := by omega
              have hs1 := hb1.out.size
              have ka := (hbel2.cell (p := ⟨ba, oa + i, none⟩) (by show ba < _; omega)).trans (hca'.out i hin)
              have kl := (hbel2.cell (p := ⟨bl, ol + j, none⟩) (by show bl < _; omega)).trans (hcl'.out j hjn)
              have bx := hva.out i
              have by' := hvl.out j
              have hrow := rowQ8_succ (fun q => (fun a b => clp8 (vl.getD a 0 + va.getD b 0 - cv)) (q / 8) (q % 8)) (8 * j + i)
              have q1 : (8 * j + i) / 8 = j := by omega
              have q2 : (8 * j + i) % 8 = i := by omega
              rw [q1, q2] at hrow
              have hrow2 : rowQ8 (fun q => (fun a b => clp8 (vl.getD a 0 + va.getD b 0 - cv)) (q / 8) (q % 8)) (8 * j + i + 1) = rowQ8 (fun q => (fun a b => clp8 (vl.getD a 0 + va.getD b 0 - cv)) (q / 8) (q % 8)) (8 * j + i) ++ [clp8 (vl.getD j 0 + va.getD i 0 - cv)] := by rw [hrow]
              clear hrow q1 q2
              generalize hx0 : va.getD i 0 = x0 at *
              generalize hy0 : vl.getD j 0 = y0 at *
              replace hx0 := hide hx0
              replace hy0 := hide hy0
              replace hrow2 := hide hrow2
              replace hbel2 := hide hbel2
              clear hca' hcl' hva hvl
              have cK := hide fun W => byteOf_any (y0 + x0 - cv) W
              have WS : IntKind.i64.wrap (y0 + x0) = y0 + x0 := IntWalk.i64_in _ (by omega)
              have WD : IntKind.i64.wrap (y0 + x0 - cv) = y0 + x0 - cv := IntWalk.i64_in _ (by omega)
              go_wp2
              go_quiet ((go_at_call 30; exact quiet_first (byteOf_any _ _)))
              have ho3 := hide (own_drewN ho2.out nq)
              have hbel3 := hide (below_drewN8 hbel2.out nq)
              have hsz3 : w1.heap.size ≤ (wr.drewN nq).heap.size := hsz2
              generalize wr.drewN nq = wd at *
              go_wp2_with (at_builtin; refine wpList_push rfl (.tmp 99) (.tmp 101) _ rfl w1.heap.size 3 _ 8 Tryd.underlying36 info_int8 rfl u15 (8 * j + i) _ rfl ho3.out _ rfl rfl (by simp only [maxLen]; omega) (by omega) hsz3 ?_; intro v' w3 hown3 hg3; replace hown3 := hide hown3; replace hg3 := hide hg3)
              go_roundg k2
              case measure => omega
              case rel => exact ⟨i + 1, by omega, by go_num, by rw [show 8 * j + (i + 1) = 8 * j + i + 1 by omega, hrow2.out, List.map_append]; exact hown3.out, hbel3.out.grown hg3.out hsz3 (fun k hk => (ho3.out.lt k hk).1)⟩

set_option maxRecDepth 100000 in
set_option maxHeartbeats 4000000 in
theorem foretoldVE (Aa Al : Option Addr) (ca cl B : Nat) (cv : Int) (va vl : List Int) (w : World) (hB : B ≤ w.heap.size) (hla : va.length = 8) (hll : vl.length = 8) (hcv : 0 ≤ cv ∧ cv ≤ 255) (hva : ∀ k, 0 ≤ va.getD k 0 ∧ va.getD k 0 ≤ 255) (hvl : ∀ k, 0 ≤ vl.getD k 0 ∧ vl.getD k 0 ≤ 255) (hra : Rd .i64 w B Aa va) (hrl : Rd .i64 w B Al vl) :
    Calls Tryd.prog 29 #[.int .i64 2, .slice Aa 8 ca, .slice Al 8 cl, .int .i64 cv, .agg #[.bool true, .bool true]] w fun e w' => ∃ s, e = .returned s ∧ w'.ownsRow w.heap.size 3 1 s 64 ((rowQ8 (fun q => (fun a b => va.getD b 0) (q / 8) (q % 8)) 64).map (Value.int .i64)) ∧ Below w.heap.size w w' := by
  obtain ⟨ba, oa, rfl, hba, hca⟩ := hra.at_ (j := 0) (by omega)
  obtain ⟨bl, ol, rfl, hbl, hcl⟩ := hrl.at_ (j := 0) (by omega)
  obtain ⟨hcv1, hcv2⟩ := hcv
  have hIn : Blk (w.alloc (.cells #[.bool true, .bool true] 51)) w.heap.size 51 #[.bool true, .bool true] := Blk.new w _ _
  have hI0 := hIn.cell 0
  have hI1 := hIn.cell 1
  simp only [List.getElem?_toArray, List.getElem?_cons_zero, List.getElem?_cons_succ] at hI0 hI1
  have hb1 := (Below.refl w.heap.size w).alloc (Nat.le_refl _) (.cells #[.bool true, .bool true] 51)
  have hsA := sum8_bd (fun k => va.getD k 0) hva
  have hsL := sum8_bd (fun k => vl.getD k 0) hvl
  have hca' : ∀ j, j < 8 → (w.alloc (.cells #[.bool true, .bool true] 51)).cell? ⟨ba, oa + j, none⟩ = some (.int .i64 (va.getD j 0)) := fun j hj => (hb1.cell (p := ⟨ba, oa + j, none⟩) (by show ba < _; omega)).trans (hca j (by omega))
  have hcl' : ∀ j, j < 8 → (w.alloc (.cells #[.bool true, .bool true] 51)).cell? ⟨bl, ol + j, none⟩ = some (.int .i64 (vl.getD j 0)) := fun j hj => (hb1.cell (p := ⟨bl, ol + j, none⟩) (by show bl < _; omega)).trans (hcl j (by omega))
  have hba' : ba < w.heap.size := by omega
  have hbl' : bl < w.heap.size := by omega
  clear hca hcl hra hrl hba hbl hB hIn
  replace hca' := hide hca'
  replace hcl' := hide hcl'
  replace hsA := hide hsA
  replace hsL := hide hsL
  replace hva := hide hva
  replace hvl := hide hvl
  replace hla := hide hla
  replace hll := hide hll
  replace hb1 := hide hb1
  go_enter Tryd.func29, Tryd.ntmps29
  go_wp2
  generalize hw1 : w.alloc (.cells #[.bool true, .bool true] 51) = w1 at *
  replace hw1 := hide hw1
  go_loopg [12, 13, 14] 8 (fun k us un ui wr => ∃ i : Nat, k + i = 8 ∧ ui = .int .i64 i ∧ us = .int .i64 (sum8 (fun k => va.getD k 0) i + sum8 (fun k => vl.getD k 0) i) ∧ un = .int .i64 (2 * (i : Int)) ∧ w1 = wr)
  case atStart => exact ⟨0, rfl, rfl, by simp [sum8], by simp, rfl⟩
  case round =>
    obtain ⟨i, hi, rfl, rfl, rfl, rfl⟩ := hrel
    cases gk with
    | succ k =>
      have hin : i < 8 := by omega
      have hii : (i : Int) < 8 := by omega
      have hi0 : (0 : Int) ≤ (i : Int) := by omega
      have ka := hca'.out i hin
      have kl := hcl'.out i hin
      have bA := hsA.out i
      have bL := hsL.out i
      have bx := hva.out i
      have by' := hvl.out i
      have eA : sum8 (fun k => va.getD k 0) (i + 1) = sum8 (fun k => va.getD k 0) i + va.getD i 0 := rfl
      have eL : sum8 (fun k => vl.getD k 0) (i + 1) = sum8 (fun k => vl.getD k 0) i + vl.getD i 0 := rfl
      replace eA := hide eA
      replace eL := hide eL
      generalize hA0 : sum8 (fun k => va.getD k 0) i = A0 at *
      generalize hL0 : sum8 (fun k => vl.getD k 0) i = L0 at *
      generalize hx0 : va.getD i 0 = x0 at *
      generalize hy0 : vl.getD i 0 = y0 at *
      replace hA0 := hide hA0
      replace hL0 := hide hL0
      replace hx0 := hide hx0
      replace hy0 := hide hy0
      clear hca' hcl' hva hvl hsA hsL
      go_wp2
      go_roundg k
      case measure => omega
      case rel => exact ⟨i + 1, by omega, by go_num, by have q1 := eA.out; have q2 := eL.out; have q3 := hA0.out; have q4 := hL0.out; have q5 := hx0.out; have q6 := hy0.out; congr 1; omega, by congr 1; (try push_cast); (try omega), rfl⟩
    | zero =>
      have hi8 : i = 8 := by omega
      subst hi8
      have bA := hsA.out 8
      have bL := hsL.out 8
      have e8 : ((8 : Nat) : Int) = 8 := rfl
      clear hi hsA hsL
      obtain ⟨M, hM⟩ : ∃ M : Int, M = (8 + sum8 (fun k => va.getD k 0) 8 + sum8 (fun k => vl.getD k 0) 8) / 16 := ⟨_, rfl⟩
      have hMb : 0 ≤ M ∧ M ≤ 255 := by omega
      generalize hSA : sum8 (fun k => va.getD k 0) 8 = SA at *
      generalize hSL : sum8 (fun k => vl.getD k 0) 8 = SL at *
      replace hSA := hide hSA
      replace hSL := hide hSL
      replace hM := hide hM
      clear hI0 hI1
      go_wp2
      clear e8
      go_loopg [15, 16] 8 (fun k us uj wr => ∃ j : Nat, k + j = 8 ∧ uj = .int .i64 j ∧ wr.ownsRow w1.heap.size 3 1 us (8 * j) ((rowQ8 (fun q => (fun a b => va.getD b 0) (q / 8) (q % 8)) (8 * j)).map (Value.int .i64)) ∧ Below w1.heap.size w1 wr)
      case atStart => exact ⟨0, rfl, rfl, ⟨rfl, .inl ⟨rfl, rfl⟩⟩, Below.refl _ _⟩
      case round =>
        obtain ⟨j, hj, rfl, ho, hbel⟩ := hrel
        replace ho := hide ho
        replace hbel := hide hbel
        cases gk with
        | zero =>
          have hj8 : j = 8 := by omega
          subst hj8
          clear hca' hcl' hva hvl
          go_wp2
          go_ret
          exact ⟨_, rfl, own_down ho.out hb1.out.size, hb1.out.trans (hbel.out.mono hb1.out.size)⟩
        | succ k =>
          have hjn : j < 8 := by omega
          have hjj : (j : Int) < 8 := by omega
          have hj0 : (0 : Int) ≤ (j : Int) := by omega
          obtain ⟨wo, hwo⟩ : ∃ wo : World, wo = wr := ⟨_, rfl⟩
          subst hwo
          go_wp2
          go_loopg [15, 17] 8 (fun k us ui wr => ∃ i : Nat, k + i = 8 ∧ ui = .int .i64 i ∧ wr.ownsRow w1.heap.size 3 1 us (8 * j + i) ((rowQ8 (fun q => (fun a b => va.getD b 0) (q / 8) (q % 8)) (8 * j + i)).map (Value.int .i64)) ∧ Below w1.heap.size w1 wr)
          case atStart => exact ⟨0, rfl, rfl, ho.out, hbel.out⟩
          case round =>
            obtain ⟨i, hi, rfl, ho2, hbel2⟩ := hrel
            clear ho hbel
            replace ho2 := hide ho2
            have hsz2 := hbel2.size
            cases gk with
            | zero =>
              have hi8 : i = 8 := by omega
              subst hi8
              replace hbel2 := hide hbel2
              clear hca' hcl' hva hvl
              go_wp2
              go_roundg k
              case measure => omega
              case rel => exact ⟨j + 1, by omega, by go_num, by rw [show 8 * (j + 1) = 8 * j + 8 by omega]; exact ho2.out, hbel2.out⟩
            | succ k2 =>
              have hin : i < 8 := by omega
              have hii : (i : Int) < 8 := by omega
              have hi0 : (0 : Int) ≤ (i : Int) := by omega
              have hs1 := hb1.out.size
              have ka := (hbel2.cell (p := ⟨ba, oa + i, none⟩) (by show ba < _; omega)).trans (hca'.out i hin)
              have kl := (hbel2.cell (p := ⟨bl, ol + j, none⟩) (by show bl < _; omega)).trans (hcl'.out j hjn)
              have bx := hva.out i
              have by' := hvl.out j
              have hrow := rowQ8_succ (fun q => (fun a b => va.getD b 0) (q / 8) (q % 8)) (8 * j + i)
              have q1 : (8 * j + i) / 8 = j := by omega
              have q2 : (8 * j + i) % 8 = i := by omega
              rw [q1, q2] at hrow
              have hrow2 : rowQ8 (fun q => (fun a b => va.getD b 0) (q / 8) (q % 8)) (8 * j + i + 1) = rowQ8 (fun q => (fun a b => va.getD b 0) (q / 8) (q % 8)) (8 * j + i) ++ [va.getD i 0] := by rw [hrow]
              clear hrow q1 q2
              generalize hx0 : va.getD i 0 = x0 at *
              generalize hy0 : vl.getD j 0 = y0 at *
              replace hx0 := hide hx0
              replace hy0 := hide hy0
              replace hrow2 := hide hrow2
              replace hbel2 := hide hbel2
              clear hca' hcl' hva hvl
              go_wp2_with (at_builtin; refine wpList_push rfl (.tmp 99) (.tmp 101) _ rfl w1.heap.size 3 _ 8 Tryd.underlying36 info_int8 rfl u15 (8 * j + i) _ rfl ho2.out _ rfl rfl (by simp only [maxLen]; omega) (by omega) hsz2 ?_; intro v' w3 hown3 hg3; replace hown3 := hide hown3; replace hg3 := hide hg3)
              go_roundg k2
              case measure => omega
              case rel => exact ⟨i + 1, by omega, by go_num, by rw [show 8 * j + (i + 1) = 8 * j + i + 1 by omega, hrow2.out, List.map_append]; exact hown3.out, hbel2.out.grown hg3.out hsz2 (fun k hk => (ho2.out.lt k hk).1)⟩

set_option maxRecDepth 100000 in
set_option maxHeartbeats 4000000 in
theorem foretoldHE (Aa Al : Option Addr) (ca cl B : Nat) (cv : Int) (va vl : List Int) (w : World) (hB : B ≤ w.heap.size) (hla : va.length = 8) (hll : vl.length = 8) (hcv : 0 ≤ cv ∧ cv ≤ 255) (hva : ∀ k, 0 ≤ va.getD k 0 ∧ va.getD k 0 ≤ 255) (hvl : ∀ k, 0 ≤ vl.getD k 0 ∧ vl.getD k 0 ≤ 255) (hra : Rd .i64 w B Aa va) (hrl : Rd .i64 w B Al vl) :
    Calls Tryd.prog 29 #[.int .i64 3, .slice Aa 8 ca, .slice Al 8 cl, .int .i64 cv, .agg #[.bool true, .bool true]] w fun e w' => ∃ s, e = .returned s ∧ w'.ownsRow w.heap.size 3 1 s 64 ((rowQ8 (fun q => (fun a b => vl.getD a 0) (q / 8) (q % 8)) 64).map (Value.int .i64)) ∧ Below w.heap.size w w' := by
  obtain ⟨ba, oa, rfl, hba, hca⟩ := hra.at_ (j := 0) (by omega)
  obtain ⟨bl, ol, rfl, hbl, hcl⟩ := hrl.at_ (j := 0) (by omega)
  obtain ⟨hcv1, hcv2⟩ := hcv
  have hIn : Blk (w.alloc (.cells #[.bool true, .bool true] 51)) w.heap.size 51 #[.bool true, .bool true] := Blk.new w _ _
  have hI0 := hIn.cell 0
  have hI1 := hIn.cell 1
  simp only [List.getElem?_toArray, List.getElem?_cons_zero, List.getElem?_cons_succ] at hI0 hI1
  have hb1 := (Below.refl w.heap.size w).alloc (Nat.le_refl _) (.cells #[.bool true, .bool true] 51)
  have hsA := sum8_bd (fun k => va.getD k 0) hva
  have hsL := sum8_bd (fun k => vl.getD k 0) hvl
  have hca' : ∀ j, j < 8 → (w.alloc (.cells #[.bool true, .bool true] 51)).cell? ⟨ba, oa + j, none⟩ = some (.int .i64 (va.getD j 0)) := fun j hj => (hb1.cell (p := ⟨ba, oa + j, none⟩) (by show ba < _; omega)).trans (hca j (by omega))
  have hcl' : ∀ j, j < 8 → (w.alloc (.cells #[.bool true, .bool true] 51)).cell? ⟨bl, ol + j, none⟩ = some (.int .i64 (vl.getD j 0)) := fun j hj => (hb1.cell (p := ⟨bl, ol + j, none⟩) (by show bl < _; omega)).trans (hcl j (by omega))
  have hba' : ba < w.heap.size := by omega
  have hbl' : bl < w.heap.size := by omega
  clear hca hcl hra hrl hba hbl hB hIn
  replace hca' := hide hca'
  replace hcl' := hide hcl'
  replace hsA := hide hsA
  replace hsL := hide hsL
  replace hva := hide hva
  replace hvl := hide hvl
  replace hla := hide hla
  replace hll := hide hll
  replace hb1 := hide hb1
  go_enter Tryd.func29, Tryd.ntmps29
  go_wp2
  generalize hw1 : w.alloc (.cells #[.bool true, .bool true] 51) = w1 at *
  replace hw1 := hide hw1
  go_loopg [12, 13, 14] 8 (fun k us un ui wr => ∃ i : Nat, k + i = 8 ∧ ui = .int .i64 i ∧ us = .int .i64 (sum8 (fun k => va.getD k 0) i + sum8 (fun k => vl.getD k 0) i) ∧ un = .int .i64 (2 * (i : Int)) ∧ w1 = wr)
  case atStart => exact ⟨0, rfl, rfl, by simp [sum8], by simp, rfl⟩
  case round =>
    obtain ⟨i, hi, rfl, rfl, rfl, rfl⟩ := hrel
    cases gk with
    | succ k =>
      have hin : i < 8 := by omega
      have hii : (i : Int) < 8 := by omega
      have hi0 : (0 : Int) ≤ (i : Int) := by omega
      have ka := hca'.out i hin
      have kl := hcl'.out i hin
      have bA := hsA.out i
      have bL := hsL.out i
      have bx := hva.out i
      have by' := hvl.out i
      have eA : sum8 (fun k => va.getD k 0) (i + 1) = sum8 (fun k => va.getD k 0) i + va.getD i 0 := rfl
      have eL : sum8 (fun k => vl.getD k 0) (i + 1) = sum8 (fun k => vl.getD k 0) i + vl.getD i 0 := rfl
      replace eA := hide eA
      replace eL := hide eL
      generalize hA0 : sum8 (fun k => va.getD k 0) i = A0 at *
      generalize hL0 : sum8 (fun k => vl.getD k 0) i = L0 at *
      generalize hx0 : va.getD i 0 = x0 at *
      generalize hy0 : vl.getD i 0 = y0 at *
      replace hA0 := hide hA0
      replace hL0 := hide hL0
      replace hx0 := hide hx0
      replace hy0 := hide hy0
      clear hca' hcl' hva hvl hsA hsL
      go_wp2
      go_roundg k
      case measure => omega
      case rel => exact ⟨i + 1, by omega, by go_num, by have q1 := eA.out; have q2 := eL.out; have q3 := hA0.out; have q4 := hL0.out; have q5 := hx0.out; have q6 := hy0.out; congr 1; omega, by congr 1; (try push_cast); (try omega), rfl⟩
    | zero =>
      have hi8 : i = 8 := by omega
      subst hi8
      have bA := hsA.out 8
      have bL := hsL.out 8
      have e8 : ((8 : Nat) : Int) = 8 := rfl
      clear hi hsA hsL
      obtain ⟨M, hM⟩ : ∃ M : Int, M = (8 + sum8 (fun k => va.getD k 0) 8 + sum8 (fun k => vl.getD k 0) 8) / 16 := ⟨_, rfl⟩
      have hMb : 0 ≤ M ∧ M ≤ 255 := by omega
      generalize hSA : sum8 (fun k => va.getD k 0) 8 = SA at *
      generalize hSL : sum8 (fun k => vl.getD k 0) 8 = SL at *
      replace hSA := hide hSA
      replace hSL := hide hSL
      replace hM := hide hM
      clear hI0 hI1
      go_wp2
      clear e8
      go_loopg [15, 16] 8 (fun k us uj wr => ∃ j : Nat, k + j = 8 ∧ uj = .int .i64 j ∧ wr.ownsRow w1.heap.size 3 1 us (8 * j) ((rowQ8 (fun q => (fun a b => vl.getD a 0) (q / 8) (q % 8)) (8 * j)).map (Value.int .i64)) ∧ Below w1.heap.size w1 wr)
      case atStart => exact ⟨0, rfl, rfl, ⟨rfl, .inl ⟨rfl, rfl⟩⟩, Below.refl _ _⟩
      case round =>
        obtain ⟨j, hj, rfl, ho, hbel⟩ := hrel
        replace ho := hide ho
        replace hbel := hide hbel
        cases gk with
        | zero =>
          have hj8 : j = 8 := by omega
          subst hj8
          clear hca' hcl' hva hvl
          go_wp2
          go_ret
          exact ⟨_, rfl, own_down ho.out hb1.out.size, hb1.out.trans (hbel.out.mono hb1.out.size)⟩
        | succ k =>
          have hjn : j < 8 := by omega
          have hjj : (j : Int) < 8 := by omega
          have hj0 : (0 : Int) ≤ (j : Int) := by omega
          obtain ⟨wo, hwo⟩ : ∃ wo : World, wo = wr := ⟨_, rfl⟩
          subst hwo
          go_wp2
          go_loopg [15, 17] 8 (fun k us ui wr => ∃ i : Nat, k + i = 8 ∧ ui = .int .i64 i ∧ wr.ownsRow w1.heap.size 3 1 us (8 * j + i) ((rowQ8 (fun q => (fun a b => vl.getD a 0) (q / 8) (q % 8)) (8 * j + i)).map (Value.int .i64)) ∧ Below w1.heap.size w1 wr)
          case atStart => exact ⟨0, rfl, rfl, ho.out, hbel.out⟩
          case round =>
            obtain ⟨i, hi, rfl, ho2, hbel2⟩ := hrel
            clear ho hbel
            replace ho2 := hide ho2
            have hsz2 := hbel2.size
            cases gk with
            | zero =>
              have hi8 : i = 8 := by omega
              subst hi8
              replace hbel2 := hide hbel2
              clear hca' hcl' hva hvl
              go_wp2
              go_roundg k
              case measure => omega
              case rel => exact ⟨j + 1, by omega, by go_num, by rw [show 8 * (j + 1) = 8 * j + 8 by omega]; exact ho2.out, hbel2.out⟩
            | succ k2 =>
              have hin : i < 8 := by omega
              have hii : (i : Int) < 8 := by omega
              have hi0 : (0 : Int) ≤ (i : Int) := by omega
              have hs1 := hb1.out.size
              have ka := (hbel2.cell (p := ⟨ba, oa + i, none⟩) (by show ba < _; omega)).trans (hca'.out i hin)
              have kl := (hbel2.cell (p := ⟨bl, ol + j, none⟩) (by show bl < _; omega)).trans (hcl'.out j hjn)
              have bx := hva.out i
              have by' := hvl.out j
              have hrow := rowQ8_succ (fun q => (fun a b => vl.getD a 0) (q / 8) (q % 8)) (8 * j + i)
              have q1 : (8 * j + i) / 8 = j := by omega
              have q2 : (8 * j + i) % 8 = i := by omega
              rw [q1, q2] at hrow
              have hrow2 : rowQ8 (fun q => (fun a b => vl.getD a 0) (q / 8) (q % 8)) (8 * j + i + 1) = rowQ8 (fun q => (fun a b => vl.getD a 0) (q / 8) (q % 8)) (8 * j + i) ++ [vl.getD j 0] := by rw [hrow]
              clear hrow q1 q2
              generalize hx0 : va.getD i 0 = x0 at *
              generalize hy0 : vl.getD j 0 = y0 at *
              replace hx0 := hide hx0
              replace hy0 := hide hy0
              replace hrow2 := hide hrow2
              replace hbel2 := hide hbel2
              clear hca' hcl' hva hvl
              go_wp2_with (at_builtin; refine wpList_push rfl (.tmp 99) (.tmp 101) _ rfl w1.heap.size 3 _ 8 Tryd.underlying36 info_int8 rfl u15 (8 * j + i) _ rfl ho2.out _ rfl rfl (by simp only [maxLen]; omega) (by omega) hsz2 ?_; intro v' w3 hown3 hg3; replace hown3 := hide hown3; replace hg3 := hide hg3)
              go_roundg k2
              case measure => omega
              case rel => exact ⟨i + 1, by omega, by go_num, by rw [show 8 * j + (i + 1) = 8 * j + i + 1 by omega, hrow2.out, List.map_append]; exact hown3.out, hbel2.out.grown hg3.out hsz2 (fun k hk => (ho2.out.lt k hk).1)⟩

set_option maxRecDepth 100000 in
set_option maxHeartbeats 4000000 in
theorem foretoldDCTop (Aa Al : Option Addr) (ca cl B : Nat) (cv : Int) (va vl : List Int) (w : World) (hB : B ≤ w.heap.size) (hla : va.length = 8) (hll : vl.length = 8) (hcv : 0 ≤ cv ∧ cv ≤ 255) (hva : ∀ k, 0 ≤ va.getD k 0 ∧ va.getD k 0 ≤ 255) (hvl : ∀ k, 0 ≤ vl.getD k 0 ∧ vl.getD k 0 ≤ 255) (hra : Rd .i64 w B Aa va) (hrl : Rd .i64 w B Al vl) :
    Calls Tryd.prog 29 #[.int .i64 0, .slice Aa 8 ca, .slice Al 8 cl, .int .i64 cv, .agg #[.bool false, .bool true]] w fun e w' => ∃ s, e = .returned s ∧ w'.ownsRow w.heap.size 3 1 s 64 ((rowQ8 (fun q => (fun a b => (4 + sum8 (fun k => vl.getD k 0) 8) / 8) (q / 8) (q % 8)) 64).map (Value.int .i64)) ∧ Below w.heap.size w w' := by
  obtain ⟨ba, oa, rfl, hba, hca⟩ := hra.at_ (j := 0) (by omega)
  obtain ⟨bl, ol, rfl, hbl, hcl⟩ := hrl.at_ (j := 0) (by omega)
  obtain ⟨hcv1, hcv2⟩ := hcv
  have hIn : Blk (w.alloc (.cells #[.bool false, .bool true] 51)) w.heap.size 51 #[.bool false, .bool true] := Blk.new w _ _
  have hI0 := hIn.cell 0
  have hI1 := hIn.cell 1
  simp only [List.getElem?_toArray, List.getElem?_cons_zero, List.getElem?_cons_succ] at hI0 hI1
  have hb1 := (Below.refl w.heap.size w).alloc (Nat.le_refl _) (.cells #[.bool false, .bool true] 51)
  have hsA := sum8_bd (fun k => va.getD k 0) hva
  have hsL := sum8_bd (fun k => vl.getD k 0) hvl
  have hca' : ∀ j, j < 8 → (w.alloc (.cells #[.bool false, .bool true] 51)).cell? ⟨ba, oa + j, none⟩ = some (.int .i64 (va.getD j 0)) := fun j hj => (hb1.cell (p := ⟨ba, oa + j, none⟩) (by show ba < _; omega)).trans (hca j (by omega))
  have hcl' : ∀ j, j < 8 → (w.alloc (.cells #[.bool false, .bool true] 51)).cell? ⟨bl, ol + j, none⟩ = some (.int .i64 (vl.getD j 0)) := fun j hj => (hb1.cell (p := ⟨bl, ol + j, none⟩) (by show bl < _; omega)).trans (hcl j (by omega))
  have hba' : ba < w.heap.size := by omega
  have hbl' : bl < w.heap.size := by omega
  clear hca hcl hra hrl hba hbl hB hIn
  replace hca' := hide hca'
  replace hcl' := hide hcl'
  replace hsA := hide hsA
  replace hsL := hide hsL
  replace hva := hide hva
  replace hvl := hide hvl
  replace hla := hide hla
  replace hll := hide hll
  replace hb1 := hide hb1
  go_enter Tryd.func29, Tryd.ntmps29
  go_wp2
  generalize hw1 : w.alloc (.cells #[.bool false, .bool true] 51) = w1 at *
  replace hw1 := hide hw1
  go_loopg [12, 13, 14] 8 (fun k us un ui wr => ∃ i : Nat, k + i = 8 ∧ ui = .int .i64 i ∧ us = .int .i64 (sum8 (fun k => vl.getD k 0) i) ∧ un = .int .i64 ((i : Int)) ∧ w1 = wr)
  case atStart => exact ⟨0, rfl, rfl, by simp [sum8], by simp, rfl⟩
  case round =>
    obtain ⟨i, hi, rfl, rfl, rfl, rfl⟩ := hrel
    cases gk with
    | succ k =>
      have hin : i < 8 := by omega
      have hii : (i : Int) < 8 := by omega
      have hi0 : (0 : Int) ≤ (i : Int) := by omega
      have ka := hca'.out i hin
      have kl := hcl'.out i hin
      have bA := hsA.out i
      have bL := hsL.out i
      have bx := hva.out i
      have by' := hvl.out i
      have eA : sum8 (fun k => va.getD k 0) (i + 1) = sum8 (fun k => va.getD k 0) i + va.getD i 0 := rfl
      have eL : sum8 (fun k => vl.getD k 0) (i + 1) = sum8 (fun k => vl.getD k 0) i + vl.getD i 0 := rfl
      replace eA := hide eA
      replace eL := hide eL
      generalize hA0 : sum8 (fun k => va.getD k 0) i = A0 at *
      generalize hL0 : sum8 (fun k => vl.getD k 0) i = L0 at *
      generalize hx0 : va.getD i 0 = x0 at *
      generalize hy0 : vl.getD i 0 = y0 at *
      replace hA0 := hide hA0
      replace hL0 := hide hL0
      replace hx0 := hide hx0
      replace hy0 := hide hy0
      clear hca' hcl' hva hvl hsA hsL
      go_wp2
      go_roundg k
      case measure => omega
      case rel => exact ⟨i + 1, by omega, by go_num, by have q1 := eA.out; have q2 := eL.out; have q3 := hA0.out; have q4 := hL0.out; have q5 := hx0.out; have q6 := hy0.out; congr 1; omega, by go_num, rfl⟩
    | zero =>
      have hi8 : i = 8 := by omega
      subst hi8
      have bA := hsA.out 8
      have bL := hsL.out 8
      have e8 : ((8 : Nat) : Int) = 8 := rfl
      clear hi hsA hsL
      obtain ⟨M, hM⟩ : ∃ M : Int, M = (4 + sum8 (fun k => vl.getD k 0) 8) / 8 := ⟨_, rfl⟩
      have hMb : 0 ≤ M ∧ M ≤ 255 := by omega
      generalize hSA : sum8 (fun k => vl.getD k 0) 8 = SA at *
      replace hSA := hide hSA
      replace hM := hide hM
      clear hI0 hI1
      go_wp2
      clear e8
      go_loopg [15, 16] 8 (fun k us uj wr => ∃ j : Nat, k + j = 8 ∧ uj = .int .i64 j ∧ wr.ownsRow w1.heap.size 3 1 us (8 * j) ((rowQ8 (fun q => (fun a b => (4 + sum8 (fun k => vl.getD k 0) 8) / 8) (q / 8) (q % 8)) (8 * j)).map (Value.int .i64)) ∧ Below w1.heap.size w1 wr)
      case atStart => exact ⟨0, rfl, rfl, ⟨rfl, .inl ⟨rfl, rfl⟩⟩, Below.refl _ _⟩
      case round =>
        obtain ⟨j, hj, rfl, ho, hbel⟩ := hrel
        replace ho := hide ho
        replace hbel := hide hbel
        cases gk with
        | zero =>
          have hj8 : j = 8 := by omega
          subst hj8
          clear hca' hcl' hva hvl
          go_wp2
          go_ret
          exact ⟨_, rfl, own_down ho.out hb1.out.size, hb1.out.trans (hbel.out.mono hb1.out.size)⟩
        | succ k =>
          have hjn : j < 8 := by omega
          have hjj : (j : Int) < 8 := by omega
          have hj0 : (0 : Int) ≤ (j : Int) := by omega
          obtain ⟨wo, hwo⟩ : ∃ wo : World, wo = wr := ⟨_, rfl⟩
          subst hwo
          go_wp2
          go_loopg [15, 17] 8 (fun k us ui wr => ∃ i : Nat, k + i = 8 ∧ ui = .int .i64 i ∧ wr.ownsRow w1.heap.size 3 1 us (8 * j + i) ((rowQ8 (fun q => (fun a b => (4 + sum8 (fun k => vl.getD k 0) 8) / 8) (q / 8) (q % 8)) (8 * j + i)).map (Value.int .i64)) ∧ Below w1.heap.size w1 wr)
          case atStart => exact ⟨0, rfl, rfl, ho.out, hbel.out⟩
          case round =>
            obtain ⟨i, hi, rfl, ho2, hbel2⟩ := hrel
            clear ho hbel
            replace ho2 := hide ho2
            have hsz2 := hbel2.size
            cases gk with
            | zero =>
              have hi8 : i = 8 := by omega
              subst hi8
              replace hbel2 := hide hbel2
              clear hca' hcl' hva hvl
              go_wp2
              go_roundg k
              case measure => omega
              case rel => exact ⟨j + 1, by omega, by go_num, by rw [show 8 * (j + 1) = 8 * j + 8 by omega]; exact ho2.out, hbel2.out⟩
            | succ k2 =>
              have hin : i < 8 := by omega
              have hii : (i : Int) < 8 := by omega
              have hi0 : (0 : Int) ≤ (i : Int) := by omega
              have hs1 := hb1.out.size
              have ka := (hbel2.cell (p := ⟨ba, oa + i, none⟩) (by show ba < _; omega)).trans (hca'.out i hin)
              have kl := (hbel2.cell (p := ⟨bl, ol + j, none⟩) (by show bl < _; omega)).trans (hcl'.out j hjn)
              have bx := hva.out i
              have by' := hvl.out j
              have hrow := rowQ8_succ (fun q => (fun a b => (4 + sum8 (fun k => vl.getD k 0) 8) / 8) (q / 8) (q % 8)) (8 * j + i)
              have q1 : (8 * j + i) / 8 = j := by omega
              have q2 : (8 * j + i) % 8 = i := by omega
              rw [q1, q2] at hrow
              have hrow2 : rowQ8 (fun q => (fun a b => (4 + sum8 (fun k => vl.getD k 0) 8) / 8) (q / 8) (q % 8)) (8 * j + i + 1) = rowQ8 (fun q => (fun a b => (4 + sum8 (fun k => vl.getD k 0) 8) / 8) (q / 8) (q % 8)) (8 * j + i) ++ [(SA + 4) / 8] := by rw [hrow]; congr 2; show (4 + sum8 (fun k => vl.getD k 0) 8) / 8 = _; have := hSA.out; omega
              clear hrow q1 q2
              generalize hx0 : va.getD i 0 = x0 at *
              generalize hy0 : vl.getD j 0 = y0 at *
              replace hx0 := hide hx0
              replace hy0 := hide hy0
              replace hrow2 := hide hrow2
              replace hbel2 := hide hbel2
              clear hca' hcl' hva hvl
              go_wp2_with (at_builtin; refine wpList_push rfl (.tmp 99) (.tmp 101) _ rfl w1.heap.size 3 _ 8 Tryd.underlying36 info_int8 rfl u15 (8 * j + i) _ rfl ho2.out _ rfl rfl (by simp only [maxLen]; omega) (by omega) hsz2 ?_; intro v' w3 hown3 hg3; replace hown3 := hide hown3; replace hg3 := hide hg3)
              go_roundg k2
              case measure => omega
              case rel => exact ⟨i + 1, by omega, by go_num, by rw [show 8 * j + (i + 1) = 8 * j + i + 1 by omega, hrow2.out, List.map_append]; exact hown3.out, hbel2.out.grown hg3.out hsz2 (fun k hk => (ho2.out.lt k hk).1)⟩

set_option maxRecDepth 100000 in
set_option maxHeartbeats 4000000 in
theorem foretoldDCLeft (Aa Al : Option Addr) (ca cl B : Nat) (cv : Int) (va vl : List Int) (w : World) (hB : B ≤ w.heap.size) (hla : va.length = 8) (hll : vl.length = 8) (hcv : 0 ≤ cv ∧ cv ≤ 255) (hva : ∀ k, 0 ≤ va.getD k 0 ∧ va.getD k 0 ≤ 255) (hvl : ∀ k, 0 ≤ vl.getD k 0 ∧ vl.getD k 0 ≤ 255) (hra : Rd .i64 w B Aa va) (hrl : Rd .i64 w B Al vl) :
    Calls Tryd.prog 29 #[.int .i64 0, .slice Aa 8 ca, .slice Al 8 cl, .int .i64 cv, .agg #[.bool true, .bool false]] w fun e w' => ∃ s, e = .returned s ∧ w'.ownsRow w.heap.size 3 1 s 64 ((rowQ8 (fun q => (fun a b => (4 + sum8 (fun k => va.getD k 0) 8) / 8) (q / 8) (q % 8)) 64).map (Value.int .i64)) ∧ Below w.heap.size w w' := by
  obtain ⟨ba, oa, rfl, hba, hca⟩ := hra.at_ (j := 0) (by omega)
  obtain ⟨bl, ol, rfl, hbl, hcl⟩ := hrl.at_ (j := 0) (by omega)
  obtain ⟨hcv1, hcv2⟩ := hcv
  have hIn : Blk (w.alloc (.cells #[.bool true, .bool false] 51)) w.heap.size 51 #[.bool true, .bool false] := Blk.new w _ _
  have hI0 := hIn.cell 0
  have hI1 := hIn.cell 1
  simp only [List.getElem?_toArray, List.getElem?_cons_zero, List.getElem?_cons_succ] at hI0 hI1
  have hb1 := (Below.refl w.heap.size w).alloc (Nat.le_refl _) (.cells #[.bool true, .bool false] 51)
  have hsA := sum8_bd (fun k => va.getD k 0) hva
  have hsL := sum8_bd (fun k => vl.getD k 0) hvl
  have hca' : ∀ j, j < 8 → (w.alloc (.cells #[.bool true, .bool false] 51)).cell? ⟨ba, oa + j, none⟩ = some (.int .i64 (va.getD j 0)) := fun j hj => (hb1.cell (p := ⟨ba, oa + j, none⟩) (by show ba < _; omega)).trans (hca j (by omega))
  have hcl' : ∀ j, j < 8 → (w.alloc (.cells #[.bool true, .bool false] 51)).cell? ⟨bl, ol + j, none⟩ = some (.int .i64 (vl.getD j 0)) := fun j hj => (hb1.cell (p := ⟨bl, ol + j, none⟩) (by show bl < _; omega)).trans (hcl j (by omega))
  have hba' : ba < w.heap.size := by omega
  have hbl' : bl < w.heap.size := by omega
  clear hca hcl hra hrl hba hbl hB hIn
  replace hca' := hide hca'
  replace hcl' := hide hcl'
  replace hsA := hide hsA
  replace hsL := hide hsL
  replace hva := hide hva
  replace hvl := hide hvl
  replace hla := hide hla
  replace hll := hide hll
  replace hb1 := hide hb1
  go_enter Tryd.func29, Tryd.ntmps29
  go_wp2
  generalize hw1 : w.alloc (.cells #[.bool true, .bool false] 51) = w1 at *
  replace hw1 := hide hw1
  go_loopg [12, 13, 14] 8 (fun k us un ui wr => ∃ i : Nat, k + i = 8 ∧ ui = .int .i64 i ∧ us = .int .i64 (sum8 (fun k => va.getD k 0) i) ∧ un = .int .i64 ((i : Int)) ∧ w1 = wr)
  case atStart => exact ⟨0, rfl, rfl, by simp [sum8], by simp, rfl⟩
  case round =>
    obtain ⟨i, hi, rfl, rfl, rfl, rfl⟩ := hrel
    cases gk with
    | succ k =>
      have hin : i < 8 := by omega
      have hii : (i : Int) < 8 := by omega
      have hi0 : (0 : Int) ≤ (i : Int) := by omega
      have ka := hca'.out i hin
      have kl := hcl'.out i hin
      have bA := hsA.out i
      have bL := hsL.out i
      have bx := hva.out i
      have by' := hvl.out i
      have eA : sum8 (fun k => va.getD k 0) (i + 1) = sum8 (fun k => va.getD k 0) i + va.getD i 0 := rfl
      have eL : sum8 (fun k => vl.getD k 0) (i + 1) = sum8 (fun k => vl.getD k 0) i + vl.getD i 0 := rfl
      replace eA := hide eA
      replace eL := hide eL
      generalize hA0 : sum8 (fun k => va.getD k 0) i = A0 at *
      generalize hL0 : sum8 (fun k => vl.getD k 0) i = L0 at *
      generalize hx0 : va.getD i 0 = x0 at *
      generalize hy0 : vl.getD i 0 = y0 at *
      replace hA0 := hide hA0
      replace hL0 := hide hL0
      replace hx0 := hide hx0
      replace hy0 := hide hy0
      clear hca' hcl' hva hvl hsA hsL
      go_wp2
      go_roundg k
      case measure => omega
      case rel => exact ⟨i + 1, by omega, by go_num, by have q1 := eA.out; have q2 := eL.out; have q3 := hA0.out; have q4 := hL0.out; have q5 := hx0.out; have q6 := hy0.out; congr 1; omega, by go_num, rfl⟩
    | zero =>
      have hi8 : i = 8 := by omega
      subst hi8
      have bA := hsA.out 8
      have bL := hsL.out 8
      have e8 : ((8 : Nat) : Int) = 8 := rfl
      clear hi hsA hsL
      obtain ⟨M, hM⟩ : ∃ M : Int, M = (4 + sum8 (fun k => va.getD k 0) 8) / 8 := ⟨_, rfl⟩
      have hMb : 0 ≤ M ∧ M ≤ 255 := by omega
      generalize hSA : sum8 (fun k => va.getD k 0) 8 = SA at *
      replace hSA := hide hSA
      replace hM := hide hM
      clear hI0 hI1
      go_wp2
      clear e8
      go_loopg [15, 16] 8 (fun k us uj wr => ∃ j : Nat, k + j = 8 ∧ uj = .int .i64 j ∧ wr.ownsRow w1.heap.size 3 1 us (8 * j) ((rowQ8 (fun q => (fun a b => (4 + sum8 (fun k => va.getD k 0) 8) / 8) (q / 8) (q % 8)) (8 * j)).map (Value.int .i64)) ∧ Below w1.heap.size w1 wr)
      case atStart => exact ⟨0, rfl, rfl, ⟨rfl, .inl ⟨rfl, rfl⟩⟩, Below.refl _ _⟩
      case round =>
        obtain ⟨j, hj, rfl, ho, hbel⟩ := hrel
        replace ho := hide ho
        replace hbel := hide hbel
        cases gk with
        | zero =>
          have hj8 : j = 8 := by omega
          subst hj8
          clear hca' hcl' hva hvl
          go_wp2
          go_ret
          exact ⟨_, rfl, own_down ho.out hb1.out.size, hb1.out.trans (hbel.out.mono hb1.out.size)⟩
        | succ k =>
          have hjn : j < 8 := by omega
          have hjj : (j : Int) < 8 := by omega
          have hj0 : (0 : Int) ≤ (j : Int) := by omega
          obtain ⟨wo, hwo⟩ : ∃ wo : World, wo = wr := ⟨_, rfl⟩
          subst hwo
          go_wp2
          go_loopg [15, 17] 8 (fun k us ui wr => ∃ i : Nat, k + i = 8 ∧ ui = .int .i64 i ∧ wr.ownsRow w1.heap.size 3 1 us (8 * j + i) ((rowQ8 (fun q => (fun a b => (4 + sum8 (fun k => va.getD k 0) 8) / 8) (q / 8) (q % 8)) (8 * j + i)).map (Value.int .i64)) ∧ Below w1.heap.size w1 wr)
          case atStart => exact ⟨0, rfl, rfl, ho.out, hbel.out⟩
          case round =>
            obtain ⟨i, hi, rfl, ho2, hbel2⟩ := hrel
            clear ho hbel
            replace ho2 := hide ho2
            have hsz2 := hbel2.size
            cases gk with
            | zero =>
              have hi8 : i = 8 := by omega
              subst hi8
              replace hbel2 := hide hbel2
              clear hca' hcl' hva hvl
              go_wp2
              go_roundg k
              case measure => omega
              case rel => exact ⟨j + 1, by omega, by go_num, by rw [show 8 * (j + 1) = 8 * j + 8 by omega]; exact ho2.out, hbel2.out⟩
            | succ k2 =>
              have hin : i < 8 := by omega
              have hii : (i : Int) < 8 := by omega
              have hi0 : (0 : Int) ≤ (i : Int) := by omega
              have hs1 := hb1.out.size
              have ka := (hbel2.cell (p := ⟨ba, oa + i, none⟩) (by show ba < _; omega)).trans (hca'.out i hin)
              have kl := (hbel2.cell (p := ⟨bl, ol + j, none⟩) (by show bl < _; omega)).trans (hcl'.out j hjn)
              have bx := hva.out i
              have by' := hvl.out j
              have hrow := rowQ8_succ (fun q => (fun a b => (4 + sum8 (fun k => va.getD k 0) 8) / 8) (q / 8) (q % 8)) (8 * j + i)
              have q1 : (8 * j + i) / 8 = j := by omega
              have q2 : (8 * j + i) % 8 = i := by omega
              rw [q1, q2] at hrow
              have hrow2 : rowQ8 (fun q => (fun a b => (4 + sum8 (fun k => va.getD k 0) 8) / 8) (q / 8) (q % 8)) (8 * j + i + 1) = rowQ8 (fun q => (fun a b => (4 + sum8 (fun k => va.getD k 0) 8) / 8) (q / 8) (q % 8)) (8 * j + i) ++ [(SA + 4) / 8] := by rw [hrow]; congr 2; show (4 + sum8 (fun k => va.getD k 0) 8) / 8 = _; have := hSA.out; omega
              clear hrow q1 q2
              generalize hx0 : va.getD i 0 = x0 at *
              generalize hy0 : vl.getD j 0 = y0 at *
              replace hx0 := hide hx0
              replace hy0 := hide hy0
              replace hrow2 := hide hrow2
              replace hbel2 := hide hbel2
              clear hca' hcl' hva hvl
              go_wp2_with (at_builtin; refine wpList_push rfl (.tmp 99) (.tmp 101) _ rfl w1.heap.size 3 _ 8 Tryd.underlying36 info_int8 rfl u15 (8 * j + i) _ rfl ho2.out _ rfl rfl (by simp only [maxLen]; omega) (by omega) hsz2 ?_; intro v' w3 hown3 hg3; replace hown3 := hide hown3; replace hg3 := hide hg3)
              go_roundg k2
              case measure => omega
              case rel => exact ⟨i + 1, by omega, by go_num, by rw [show 8 * j + (i + 1) = 8 * j + i + 1 by omega, hrow2.out, List.map_append]; exact hown3.out, hbel2.out.grown hg3.out hsz2 (fun k hk => (ho2.out.lt k hk).1)⟩

set_option maxRecDepth 100000 in
set_option maxHeartbeats 4000000 in
theorem foretoldDCTopLeft (Aa Al : Option Addr) (ca cl B : Nat) (cv : Int) (va vl : List Int) (w : World) (hB : B ≤ w.heap.size) (hla : va.length = 8) (hll : vl.length = 8) (hcv : 0 ≤ cv ∧ cv ≤ 255) (hva : ∀ k, 0 ≤ va.getD k 0 ∧ va.getD k 0 ≤ 255) (hvl : ∀ k, 0 ≤ vl.getD k 0 ∧ vl.getD k 0 ≤ 255) (hra : Rd .i64 w B Aa va) (hrl : Rd .i64 w B Al vl) :
    Calls Tryd.prog 29 #[.int .i64 0, .slice Aa 8 ca, .slice Al 8 cl, .int .i64 cv, .agg #[.bool false, .bool false]] w fun e w' => ∃ s, e = .returned s ∧ w'.ownsRow w.heap.size 3 1 s 64 ((rowQ8 (fun q => (fun a b => 128) (q / 8) (q % 8)) 64).map (Value.int .i64)) ∧ Below w.heap.size w w' := by
  obtain ⟨ba, oa, rfl, hba, hca⟩ := hra.at_ (j := 0) (by omega)
  obtain ⟨bl, ol, rfl, hbl, hcl⟩ := hrl.at_ (j := 0) (by omega)
  obtain ⟨hcv1, hcv2⟩ := hcv
  have hIn : Blk (w.alloc (.cells #[.bool false, .bool false] 51)) w.heap.size 51 #[.bool false, .bool false] := Blk.new w _ _
  have hI0 := hIn.cell 0
  have hI1 := hIn.cell 1
  simp only [List.getElem?_toArray, List.getElem?_cons_zero, List.getElem?_cons_succ] at hI0 hI1
  have hb1 := (Below.refl w.heap.size w).alloc (Nat.le_refl _) (.cells #[.bool false, .bool false] 51)
  have hsA := sum8_bd (fun k => va.getD k 0) hva
  have hsL := sum8_bd (fun k => vl.getD k 0) hvl
  have hca' : ∀ j, j < 8 → (w.alloc (.cells #[.bool false, .bool false] 51)).cell? ⟨ba, oa + j, none⟩ = some (.int .i64 (va.getD j 0)) := fun j hj => (hb1.cell (p := ⟨ba, oa + j, none⟩) (by show ba < _; omega)).trans (hca j (by omega))
  have hcl' : ∀ j, j < 8 → (w.alloc (.cells #[.bool false, .bool false] 51)).cell? ⟨bl, ol + j, none⟩ = some (.int .i64 (vl.getD j 0)) := fun j hj => (hb1.cell (p := ⟨bl, ol + j, none⟩) (by show bl < _; omega)).trans (hcl j (by omega))
  have hba' : ba < w.heap.size := by omega
  have hbl' : bl < w.heap.size := by omega
  clear hca hcl hra hrl hba hbl hB hIn
  replace hca' := hide hca'
  replace hcl' := hide hcl'
  replace hsA := hide hsA
  replace hsL := hide hsL
  replace hva := hide hva
  replace hvl := hide hvl
  replace hla := hide hla
  replace hll := hide hll
  replace hb1 := hide hb1
  go_enter Tryd.func29, Tryd.ntmps29
  go_wp2
  generalize hw1 : w.alloc (.cells #[.bool false, .bool false] 51) = w1 at *
  replace hw1 := hide hw1
  go_loopg [12, 13, 14] 8 (fun k us un ui wr => ∃ i : Nat, k + i = 8 ∧ ui = .int .i64 i ∧ us = .int .i64 (0) ∧ un = .int .i64 (0) ∧ w1 = wr)
  case atStart => exact ⟨0, rfl, rfl, by simp [sum8], by simp, rfl⟩
  case round =>
    obtain ⟨i, hi, rfl, rfl, rfl, rfl⟩ := hrel
    cases gk with
    | succ k =>
      have hin : i < 8 := by omega
      have hii : (i : Int) < 8 := by omega
      have hi0 : (0 : Int) ≤ (i : Int) := by omega
      have ka := hca'.out i hin
      have kl := hcl'.out i hin
      have bA := hsA.out i
      have bL := hsL.out i
      have bx := hva.out i
      have by' := hvl.out i
      have eA : sum8 (fun k => va.getD k 0) (i + 1) = sum8 (fun k => va.getD k 0) i + va.getD i 0 := rfl
      have eL : sum8 (fun k => vl.getD k 0) (i + 1) = sum8 (fun k => vl.getD k 0) i + vl.getD i 0 := rfl
      replace eA := hide eA
      replace eL := hide eL
      generalize hA0 : sum8 (fun k => va.getD k 0) i = A0 at *
      generalize hL0 : sum8 (fun k => vl.getD k 0) i = L0 at *
      generalize hx0 : va.getD i 0 = x0 at *
      generalize hy0 : vl.getD i 0 = y0 at *
      replace hA0 := hide hA0
      replace hL0 := hide hL0
      replace hx0 := hide hx0
      replace hy0 := hide hy0
      clear hca' hcl' hva hvl hsA hsL
      go_wp2
      go_roundg k
      case measure => omega
      case rel => exact ⟨i + 1, by omega, by go_num, rfl, rfl, rfl⟩
    | zero =>
      have hi8 : i = 8 := by omega
      subst hi8
      have bA := hsA.out 8
      have bL := hsL.out 8
      have e8 : ((8 : Nat) : Int) = 8 := rfl
      clear hi hsA hsL
      obtain ⟨M, hM⟩ : ∃ M : Int, M = 128 := ⟨_, rfl⟩
      have hMb : 0 ≤ M ∧ M ≤ 255 := by omega
      replace hM := hide hM
      clear hI0 hI1
      go_wp2
      clear e8
      go_loopg [15, 16] 8 (fun k us uj wr => ∃ j : Nat, k + j = 8 ∧ uj = .int .i64 j ∧ wr.ownsRow w1.heap.size 3 1 us (8 * j) ((rowQ8 (fun q => (fun a b => 128) (q / 8) (q % 8)) (8 * j)).map (Value.int .i64)) ∧ Below w1.heap.size w1 wr)
      case atStart => exact ⟨0, rfl, rfl, ⟨rfl, .inl ⟨rfl, rfl⟩⟩, Below.refl _ _⟩
      case round =>
        obtain ⟨j, hj, rfl, ho, hbel⟩ := hrel
        replace ho := hide ho
        replace hbel := hide hbel
        cases gk with
        | zero =>
          have hj8 : j = 8 := by omega
          subst hj8
          clear hca' hcl' hva hvl
          go_wp2
          go_ret
          exact ⟨_, rfl, own_down ho.out hb1.out.size, hb1.out.trans (hbel.out.mono hb1.out.size)⟩
        | succ k =>
          have hjn : j < 8 := by omega
          have hjj : (j : Int) < 8 := by omega
          have hj0 : (0 : Int) ≤ (j : Int) := by omega
          obtain ⟨wo, hwo⟩ : ∃ wo : World, wo = wr := ⟨_, rfl⟩
          subst hwo
          go_wp2
          go_loopg [15, 17] 8 (fun k us ui wr => ∃ i : Nat, k + i = 8 ∧ ui = .int .i64 i ∧ wr.ownsRow w1.heap.size 3 1 us (8 * j + i) ((rowQ8 (fun q => (fun a b => 128) (q / 8) (q % 8)) (8 * j + i)).map (Value.int .i64)) ∧ Below w1.heap.size w1 wr)
          case atStart => exact ⟨0, rfl, rfl, ho.out, hbel.out⟩
          case round =>
            obtain ⟨i, hi, rfl, ho2, hbel2⟩ := hrel
            clear ho hbel
            replace ho2 := hide ho2
            have hsz2 := hbel2.size
            cases gk with
            | zero =>
              have hi8 : i = 8 := by omega
              subst hi8
              replace hbel2 := hide hbel2
              clear hca' hcl' hva hvl
              go_wp2
              go_roundg k
              case measure => omega
              case rel => exact ⟨j + 1, by omega, by go_num, by rw [show 8 * (j + 1) = 8 * j + 8 by omega]; exact ho2.out, hbel2.out⟩
            | succ k2 =>
              have hin : i < 8 := by omega
              have hii : (i : Int) < 8 := by omega
              have hi0 : (0 : Int) ≤ (i : Int) := by omega
              have hs1 := hb1.out.size
              have ka := (hbel2.cell (p := ⟨ba, oa + i, none⟩) (by show ba < _; omega)).trans (hca'.out i hin)
              have kl := (hbel2.cell (p := ⟨bl, ol + j, none⟩) (by show bl < _; omega)).trans (hcl'.out j hjn)
              have bx := hva.out i
              have by' := hvl.out j
              have hrow := rowQ8_succ (fun q => (fun a b => 128) (q / 8) (q % 8)) (8 * j + i)
              have q1 : (8 * j + i) / 8 = j := by omega
              have q2 : (8 * j + i) % 8 = i := by omega
              rw [q1, q2] at hrow
              have hrow2 : rowQ8 (fun q => (fun a b => 128) (q / 8) (q % 8)) (8 * j + i + 1) = rowQ8 (fun q => (fun a b => 128) (q / 8) (q % 8)) (8 * j + i) ++ [128] := by rw [hrow]
              clear hrow q1 q2
              generalize hx0 : va.getD i 0 = x0 at *
              generalize hy0 : vl.getD j 0 = y0 at *
              replace hx0 := hide hx0
              replace hy0 := hide hy0
              replace hrow2 := hide hrow2
              replace hbel2 := hide hbel2
              clear hca' hcl' hva hvl
              go_wp2_with (at_builtin; refine wpList_push rfl (.tmp 99) (.tmp 101) _ rfl w1.heap.size 3 _ 8 Tryd.underlying36 info_int8 rfl u15 (8 * j + i) _ rfl ho2.out _ rfl rfl (by simp only [maxLen]; omega) (by omega) hsz2 ?_; intro v' w3 hown3 hg3; replace hown3 := hide hown3; replace hg3 := hide hg3)
              go_roundg k2
              case measure => omega
              case rel => exact ⟨i + 1, by omega, by go_num, by rw [show 8 * j + (i + 1) = 8 * j + i + 1 by omega, hrow2.out, List.map_append]; exact hown3.out, hbel2.out.grown hg3.out hsz2 (fun k hk => (ho2.out.lt k hk).1)⟩
end Go.Proofs.YtleiehiabcgalaaDoor

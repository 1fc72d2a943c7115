/- The near distances: 120 unlike places, none behind. -/
import Derived.Test.YtldilncpenellaaDoorSums
import Derived.Test.YtldilncpenellaaDoorMem
import Derived.Outline
import Derived.Deep.QuietTactic
import Derived.BigQuiet
import Derived.WalkLawsBesides
namespace Go.Proofs.YtldilncpenellaaDoor
set_option linter.unusedSimpArgs false
set_option linter.unusedVariables false
open Go.RowKit
/-- The table as the program's text lays it. -/
def nearT : List Int := [24, 7, 23, 25, 40, 6, 39, 41, 22, 26, 38, 42, 56, 5, 55, 57, 21, 27, 54, 58, 37, 43, 72, 4, 71, 73, 20, 28, 53, 59, 70, 74, 36, 44, 88, 69, 75, 52, 60, 3, 87, 89, 19, 29, 86, 90, 35, 45, 68, 76, 85, 91, 51, 61, 104, 2, 103, 105, 18, 30, 102, 106, 34, 46, 84, 92, 67, 77, 101, 107, 50, 62, 120, 1, 119, 121, 83, 93, 17, 31, 100, 108, 66, 78, 118, 122, 33, 47, 117, 123, 49, 63, 99, 109, 82, 94, 0, 116, 124, 65, 79, 16, 32, 98, 110, 48, 115, 125, 81, 95, 64, 114, 126, 97, 111, 80, 113, 127, 96, 112]
theorem nearT_len : nearT.length = 120 := by decide
def nx (k : Nat) : Int := 8 - nearT.getD k 0 % 16
def ny (k : Nat) : Int := nearT.getD k 0 / 16
theorem near_bd : ∀ k, k < 120 → 0 ≤ nearT.getD k 0 ∧ nearT.getD k 0 ≤ 255 := by decide +kernel
theorem near_ok : ∀ k, k < 120 → -8 ≤ nx k ∧ nx k ≤ 8 ∧ 0 ≤ ny k ∧ ny k ≤ 7 ∧ (ny k = 0 → 1 ≤ nx k) := by decide +kernel
theorem near_unlike : ∀ i, i < 120 → ∀ k, k < i → ¬ (nx k = nx i ∧ ny k = ny i) := by decide +kernel
/-- The pairs, cell by cell. -/
def nearCells (n : Nat) : List Value := (List.range n).flatMap fun k => [Value.int .i64 (nx k), Value.int .i64 (ny k)]
theorem nearCells_succ (n : Nat) : nearCells (n + 1) = nearCells n ++ [Value.int .i64 (nx n), Value.int .i64 (ny n)] := by
  simp [nearCells, List.range_succ]
theorem nearCells_len (n : Nat) : (nearCells n).length = n * 2 := by
  induction n with
  | zero => rfl
  | succ n ih => rw [nearCells_succ, List.length_append, ih]; simp; omega
theorem nearCells_at (n k : Nat) (hk : k < n) : (nearCells n)[2 * k]? = some (Value.int .i64 (nx k)) ∧ (nearCells n)[2 * k + 1]? = some (Value.int .i64 (ny k)) := by
  induction n with
  | zero => omega
  | succ n ih =>
    rw [nearCells_succ]
    have hl := nearCells_len n
    rcases Nat.lt_or_ge k n with h | h
    · have := ih h
      rw [List.getElem?_append_left (by omega), List.getElem?_append_left (by omega)]
      exact this
    · have : k = n := by omega
      subst this
      rw [List.getElem?_append_right (by omega), List.getElem?_append_right (by omega), hl]
      have e1 : 2 * k - k * 2 = 0 := by omega
      have e2 : 2 * k + 1 - k * 2 = 1 := by omega
      rw [e1, e2]
      exact ⟨rfl, rfl⟩

def HasNear (w : World) : Prop := ∀ k, k < 120 → w.cell? ⟨0, k, none⟩ = some (.int .u8 (nearT.getD k 0))
theorem info_near : (Tryd.prog.info? 24).map (fun i => (i.zero, i.size, i.bytes)) = some (some (.agg #[.int .i64 0, .int .i64 0]), 2, 16) := by kernel_rfl
set_option maxHeartbeats 1000000 in
set_option maxRecDepth 100000 in
theorem near_any (w : World) (ht : HasNear w) (hg : 0 < w.heap.size) : Calls Tryd.prog 5 #[] w fun e w' => ∃ v, e = .returned v ∧ w'.ownsRow w.heap.size 24 2 v 120 (nearCells 120) ∧ Below w.heap.size w w' := by
  go_enter Tryd.func5, Tryd.ntmps5
  go_wp2
  go_loopw [1, 4] (fun v i wr => ∃ k : Nat, k ≤ 120 ∧ i = .int .i64 k ∧ wr.ownsRow w.heap.size 24 2 v k (nearCells k) ∧ Below w.heap.size w wr) (fun _ i _ => 120 - (intOf i).toNat)
  case atStart => exact ⟨0, by omega, rfl, World.ownsRow_nil _ _ _ _, Below.refl _ _⟩
  case round =>
    obtain ⟨k, hk, rfl, hown, hbel⟩ := hrel
    by_cases hlt : k < 120
    · have hc : wr.cell? ⟨0, k, none⟩ = some (.int .u8 (nearT.getD k 0)) := (hbel.cell hg).trans (ht k hlt)
      have hb := near_bd k hlt
      have hS := nearCells_succ k
      unfold nx ny at hS
      replace hS := hide hS
      generalize nearT.getD k 0 = x at *
      obtain ⟨hb1, hb2⟩ := hb
      go_wp2_with (first | (at_builtin; refine wpList_pushN rfl (.tmp 10) (.tmp 17) _ rfl w.heap.size 24 _ 2 16 Tryd.underlying22 info_near rfl (by decide) u1 k _ rfl hown _ rfl (by simp [Value.oneCell']) rfl (by simp only [maxLen]; omega) (by omega) hbel.size ?_; intro v' w' hown' hg') | go_in)
      go_roundw
      case rel =>
        refine ⟨k + 1, by omega, by go_num, ?_, hbel.grown hg' hbel.size fun g hg => (hown.lt g hg).1⟩
        rw [hS.out]
        exact hown'
      case measure => simp [intOf]; omega
    · have : k = 120 := by omega
      subst this
      go_wp2
      go_ret
      exact ⟨_, rfl, hown, hbel⟩
end Go.Proofs.YtldilncpenellaaDoor

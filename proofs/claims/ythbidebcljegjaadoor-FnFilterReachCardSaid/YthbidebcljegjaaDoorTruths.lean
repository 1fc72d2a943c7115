/- Lists of truths in memory; 'inRange', 'truths': the walks. -/
import Derived.Test.YthbidebcljegjaaDoorMem
import Derived.Test.YthbidebcljegjaaDoorRows
import Derived.Outline
import Derived.WalkLawsBesides
import Derived.Deep.QuietTactic
import Derived.BigQuiet
import Derived.Deep.LoopGhost
namespace Go.Proofs.YthbidebcljegjaaDoor
set_option linter.unusedSimpArgs false
set_option linter.unusedVariables false
open Go.RowKit

/-- The slice at A reads as the truths l, in a block below B. -/
def RdB (w : World) (B : Nat) (A : Option Addr) (l : List Bool) : Prop :=
  l ≠ [] → ∃ b off, A = some ⟨b, off, none⟩ ∧ b < B ∧ ∀ j, j < l.length → w.cell? ⟨b, off + j, none⟩ = some (.bool (l.getD j false))
namespace RdB
variable {w w' : World} {B B' : Nat} {A : Option Addr} {l : List Bool}
theorem at_ {j : Nat} (h : RdB w B A l) (hj : j < l.length) : ∃ b off, A = some ⟨b, off, none⟩ ∧ b < B ∧ ∀ i, i < l.length → w.cell? ⟨b, off + i, none⟩ = some (.bool (l.getD i false)) :=
  h (by rintro rfl; simp at hj)
theorem nil : RdB w B A [] := fun h => absurd rfl h
theorem keep (h : RdB w B A l) (hk : ∀ p : Addr, p.block < B → w'.cell? p = w.cell? p) : RdB w' B A l := fun hl => by
  obtain ⟨b, off, rfl, hb, hc⟩ := h hl
  exact ⟨b, off, rfl, hb, fun j hj => (hk _ hb).trans (hc j hj)⟩
theorem below (h : RdB w B A l) (hb : Below B w w') : RdB w' B A l := h.keep fun _ hp => hb.cell hp
theorem drewN (h : RdB w B A l) (n : Nat) : RdB (w.drewN n) B A l := h
theorem ofOwn {base : Nat} {e : TypeId} {c n : Nat} (h : w.ownsRow base e 1 (.slice A n c) n (l.map Value.bool)) : RdB w w.heap.size A l := fun hl => by
  have hn : n = l.length := by have := h.1; simpa using this.symm
  subst hn
  have hpos : 0 < l.length := by cases l <;> simp_all
  obtain ⟨g, cap, hv, _, hlt⟩ := h.form hpos
  have hA : A = some ⟨g, 0, none⟩ := by injection hv
  subst hA
  refine ⟨g, 0, rfl, hlt, fun j hj => ?_⟩
  rw [Nat.zero_add, h.cellAt j (by simpa using hj)]
  simp [hj]
end RdB
theorem row_rdB {w : World} {x : Addr} {len cap : Nat} {B : Nat → Bool} (hl : len ≤ cap) (hm : cap ≤ maxLen) (hc : ∀ i, i < cap → w.cell? (x.add i) = some (.bool (B i))) :
    ∃ l : List Bool, l.length = len ∧ RdB w w.heap.size (some x) l ∧ len ≤ 9223372036854775807 := by
  refine ⟨(List.range len).map B, by simp, fun hne => ?_, by unfold maxLen at hm; omega⟩
  have hpos : 0 < len := by
    rcases Nat.eq_zero_or_pos len with e | e
    · subst e; simp at hne
    · exact e
  obtain ⟨b, off, spot⟩ := x
  have hc0 := hc 0 (by omega)
  have hspot : spot = none := by simpa [Addr.add] using World.cell?_spot hc0
  subst hspot
  refine ⟨b, off, rfl, World.block_lt_of_cell? _ _ hc0, fun j hj => ?_⟩
  have hj' : j < len := by simpa using hj
  have hcj := hc j (by omega)
  rw [Addr.add_lit] at hcj
  rw [hcj]
  simp [List.getD_eq_getElem?_getD, hj']

/-- All of a list's numbers lie between two. -/
def within (lo hi : Int) (l : List Int) : Bool := l.all fun x => decide (lo ≤ x ∧ x ≤ hi)

set_option maxHeartbeats 1000000 in
theorem inRange_any (A : Option Addr) (c B : Nat) (l : List Int) (lo hi : Int) (w : World) (hl : l.length ≤ 9223372036854775807) (hr : Rd .i64 w B A l) :
    Calls Tryd.prog 17 #[.slice A l.length c, .int .i64 lo, .int .i64 hi] w fun e w' => e = .returned (.bool (within lo hi l)) ∧ w = w' := by
  go_enter Tryd.func17, Tryd.ntmps17
  go_wp2
  go_loopw [7] (fun i wr => ∃ k : Nat, k ≤ l.length ∧ i = .int .i64 k ∧ within lo hi l = within lo hi (l.drop k) ∧ wr = w) (fun i _ => l.length - (intOf i).toNat)
  case atStart => exact ⟨0, by omega, rfl, rfl, rfl⟩
  case round =>
    obtain ⟨k, hk, rfl, hin, rfl⟩ := hrel
    by_cases hlt : k < l.length
    · obtain ⟨b, off, rfl, hb, hc⟩ := hr.at_ hlt
      have ck := hc k hlt
      have hd : l.drop k = l.getD k 0 :: l.drop (k + 1) := by
        rw [List.drop_eq_getElem_cons hlt]
        simp [hlt]
      rw [hd] at hin
      clear hc hd
      generalize l.getD k 0 = x at *
      by_cases h1 : x < lo
      · have hE : within lo hi (x :: l.drop (k + 1)) = false := by simp [within]; omega
        rw [hE] at hin
        replace hin := hide hin
        clear hE
        go_wp2
        go_ret
        exact ⟨by rw [hin.out]; rfl, rfl⟩
      · by_cases h2 : hi < x
        · have hE : within lo hi (x :: l.drop (k + 1)) = false := by simp [within]; omega
          rw [hE] at hin
          replace hin := hide hin
          clear hE
          go_wp2
          go_ret
          exact ⟨by rw [hin.out]; rfl, rfl⟩
        · have hE : within lo hi (x :: l.drop (k + 1)) = within lo hi (l.drop (k + 1)) := by simp [within]; omega
          rw [hE] at hin
          replace hin := hide hin
          clear hE
          go_wp2
          go_roundw
          case rel => exact ⟨k + 1, by omega, by go_num, hin.out, trivial⟩
          case measure => simp [intOf]; omega
    · have hE : within lo hi l = true := by
        rw [hin, List.drop_eq_nil_of_le (by omega)]; rfl
      replace hE := hide hE
      clear hin
      go_wp2
      go_ret
      exact ⟨by rw [hE.out]; rfl, rfl⟩

end Go.Proofs.YthbidebcljegjaaDoor

/- Lists of truths in memory. -/
import Derived.Test.YtpiapfahcoopbaaDoorMem
import Derived.Test.YtpiapfahcoopbaaDoorRows
import Derived.Outline
import Derived.WalkLawsBesides
import Derived.Deep.QuietTactic
import Derived.BigQuiet
import Derived.Deep.LoopGhost
namespace Go.Proofs.YtpiapfahcoopbaaDoor
set_option linter.unusedSimpArgs false
set_option linter.unusedVariables false
open Go.RowKit

/-- The slice at A reads as the truths l, in a block below B. -/
def RdB (w : World) (B : Nat) (A : Option Addr) (l : List Bool) : Prop :=
  l ≠ [] → ∃ b off, A = some ⟨b, off, none⟩ ∧ b < B ∧ ∀ j, j < l.length → w.cell? ⟨b, off + j, none⟩ = some (.bool (l.getD j false))
namespace RdB
variable {w w' : World} {B B' : Nat} {A : Option Addr} {l : List Bool}
theorem at_ {j : Nat} (h : RdB w B A l) (hj : j < l.length) : ∃ b off, A = some ⟨b, off, none⟩ ∧ b < B ∧ ∀ i, i < l.length → w.cell? ⟨b, off + i, none⟩ = some (.bool (l.getD i false)) :=
  h (by rintro rfl; simp at hj)
theorem nil : RdB w B A [] := fun h => absurd rfl h
theorem keep (h : RdB w B A l) (hk : ∀ p : Addr, p.block < B → w'.cell? p = w.cell? p) : RdB w' B A l := fun hl => by
  obtain ⟨b, off, rfl, hb, hc⟩ := h hl
  exact ⟨b, off, rfl, hb, fun j hj => (hk _ hb).trans (hc j hj)⟩
theorem below (h : RdB w B A l) (hb : Below B w w') : RdB w' B A l := h.keep fun _ hp => hb.cell hp
theorem drewN (h : RdB w B A l) (n : Nat) : RdB (w.drewN n) B A l := h
theorem ofOwn {base : Nat} {e : TypeId} {c n : Nat} (h : w.ownsRow base e 1 (.slice A n c) n (l.map Value.bool)) : RdB w w.heap.size A l := fun hl => by
  have hn : n = l.length := by have := h.1; simpa using this.symm
  subst hn
  have hpos : 0 < l.length := by cases l <;> simp_all
  obtain ⟨g, cap, hv, _, hlt⟩ := h.form hpos
  have hA : A = some ⟨g, 0, none⟩ := by injection hv
  subst hA
  refine ⟨g, 0, rfl, hlt, fun j hj => ?_⟩
  rw [Nat.zero_add, h.cellAt j (by simpa using hj)]
  simp [hj]
end RdB
theorem row_rdB {w : World} {x : Addr} {len cap : Nat} {B : Nat → Bool} (hl : len ≤ cap) (hm : cap ≤ maxLen) (hc : ∀ i, i < cap → w.cell? (x.add i) = some (.bool (B i))) :
    ∃ l : List Bool, l.length = len ∧ RdB w w.heap.size (some x) l ∧ len ≤ 9223372036854775807 := by
  refine ⟨(List.range len).map B, by simp, fun hne => ?_, by unfold maxLen at hm; omega⟩
  have hpos : 0 < len := by
    rcases Nat.eq_zero_or_pos len with e | e
    · subst e; simp at hne
    · exact e
  obtain ⟨b, off, spot⟩ := x
  have hc0 := hc 0 (by omega)
  have hspot : spot = none := by simpa [Addr.add] using World.cell?_spot hc0
  subst hspot
  refine ⟨b, off, rfl, World.block_lt_of_cell? _ _ hc0, fun j hj => ?_⟩
  have hj' : j < len := by simpa using hj
  have hcj := hc j (by omega)
  rw [Addr.add_lit] at hcj
  rw [hcj]
  simp [List.getD_eq_getElem?_getD, hj']
end Go.Proofs.YtpiapfahcoopbaaDoor

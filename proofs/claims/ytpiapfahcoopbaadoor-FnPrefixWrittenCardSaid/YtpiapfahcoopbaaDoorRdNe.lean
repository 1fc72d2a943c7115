/- A slice that reads as numbers, in another block than those that may turn. No walk. -/
import Derived.Test.YtpiapfahcoopbaaDoorMem
namespace Go.Proofs.YtpiapfahcoopbaaDoor
set_option linter.unusedVariables false
theorem Rd.updNe {k : IntKind} {w w' : World} {B : Nat} {A : Option Addr} {l : List Int} {S : List Nat} (h : Rd k w B A l) (u : Upd S w w') (hB : B ≤ w.heap.size) (hS : ∀ a, A = some a → a.block ∉ S) : Rd k w' B A l := fun hne => by
  obtain ⟨b, off, rfl, hb, hc⟩ := h hne
  exact ⟨b, off, rfl, hb, fun j hj => (u.cell (p := ⟨b, off + j, none⟩) (by show b < _; omega) (hS ⟨b, off, none⟩ rfl)).trans (hc j hj)⟩
end Go.Proofs.YtpiapfahcoopbaaDoor

/- Whole rows of cells, loaded and stored at once; what they leave as it was. No program in sight. -/
import Derived.Test.YtpiapfahcoopbaaDoorMake
import Derived.Deep.MidRow
import Derived.Laws.ResultCell
namespace Go.Proofs.YtpiapfahcoopbaaDoor
set_option linter.unusedSimpArgs false
set_option linter.unusedVariables false
open Go.RowKit

theorem Blk.range {w : World} {g : Nat} {t : TypeId} {cs : Array Value} (h : Blk w g t cs) : w.rangeAt g 0 cs.toList := fun j v hv => by
  rw [Nat.zero_add, h.cell j]
  simpa using hv
theorem Blk.there {w : World} {g : Nat} {t : TypeId} {cs : Array Value} (h : Blk w g t cs) (n : Nat) (hn : n ≤ cs.size) : w.there g 0 n := fun j hj => by
  rw [Nat.zero_add]
  refine ⟨?_, h.frozen j⟩
  rw [h.cell j, Array.getElem?_eq_getElem (by omega)]
  rfl
theorem below_setCells {B g : Nat} {w : World} (hg : B ≤ g) : ∀ (vs : List Value) (o : Nat) {w' : World}, Below B w w' → Below B w (w'.setCells g o vs)
  | [], _, _, h => h
  | v :: r, o, w', h => below_setCells hg r (o + 1) (h.setCell (p := ⟨g, o, none⟩) hg v)
theorem upd_setCells {S : List Nat} {g : Nat} {w : World} (hg : g ∈ S) : ∀ (vs : List Value) (o : Nat) {w' : World}, Upd S w w' → Upd S w (w'.setCells g o vs)
  | [], _, _, h => h
  | v :: r, o, w', h => upd_setCells hg r (o + 1) (h.setCell (p := ⟨g, o, none⟩) (.inl hg) v)
theorem own_setCells_far {base : Nat} {e : TypeId} {size n g : Nat} {v : Value} {xs : List Value} (hp : v.ownBlock ≠ some g) : ∀ (vs : List Value) (o : Nat) {w : World}, w.ownsRow base e size v n xs → (w.setCells g o vs).ownsRow base e size v n xs
  | [], _, _, h => h
  | u :: r, o, w, h => own_setCells_far hp r (o + 1) (own_set_far h (p := ⟨g, o, none⟩) hp u)
theorem blk_setCells_far {t : TypeId} {cs : Array Value} {g g' : Nat} (hp : g ≠ g') : ∀ (vs : List Value) (o : Nat) {w : World}, Blk w g t cs → Blk (w.setCells g' o vs) g t cs
  | [], _, _, h => h
  | u :: r, o, w, h => blk_setCells_far hp r (o + 1) (h.far (p := ⟨g', o, none⟩) hp u)
theorem ret_cell_tmp {fn : Func} {p u : Tmp} {ty : TypeId} (h : fn.results = #[.cell p ty, .tmp u]) {tmps : Array Value} {P : Program} {w : World} {a : Addr} {v x : Value} (hp : tmps.getD p undef = .pointer (some a)) (hl : (loadVar ty a).run P w = .ok v w) (hu : tmps.getD u undef = x) :
    (results fn tmps).run P w = .ok (.tuple #[v, x]) w := by
  rw [results_cell_tmp h, hp, hu]
  simp [asAddr, hl, Result.andThen]
theorem ret_cell {fn : Func} {p : Tmp} {ty : TypeId} (h : fn.results = #[.cell p ty]) {tmps : Array Value} {P : Program} {w : World} {a : Addr} {v : Value} (hp : tmps.getD p undef = .pointer (some a)) (hl : (loadVar ty a).run P w = .ok v w) :
    (results fn tmps).run P w = .ok v w := by
  have hp' : tmps[p]?.getD undef = .pointer (some a) := by simpa using hp
  simp [results, h, hp', asAddr, hl]
end Go.Proofs.YtpiapfahcoopbaaDoor

/- Whole rows of cells, loaded and stored at once; what they leave as it was. No program in sight. -/
import Derived.Test.YtpiapfahcoopbaaDoorMake
import Derived.Deep.MidRow
import Derived.Laws.ResultCell
import Derived.Laws.CopyOwn
namespace Go.Proofs.YtpiapfahcoopbaaDoor
set_option linter.unusedSimpArgs false
set_option linter.unusedVariables false
open Go.RowKit

theorem Blk.range {w : World} {g : Nat} {t : TypeId} {cs : Array Value} (h : Blk w g t cs) : w.rangeAt g 0 cs.toList := fun j v hv => by
  rw [Nat.zero_add, h.cell j]
  simpa using hv
theorem Blk.there {w : World} {g : Nat} {t : TypeId} {cs : Array Value} (h : Blk w g t cs) (n : Nat) (hn : n ≤ cs.size) : w.there g 0 n := fun j hj => by
  rw [Nat.zero_add]
  refine ⟨?_, h.frozen j⟩
  rw [h.cell j, Array.getElem?_eq_getElem (by omega)]
  rfl
theorem below_setCells {B g : Nat} {w : World} (hg : B ≤ g) : ∀ (vs : List Value) (o : Nat) {w' : World}, Below B w w' → Below B w (w'.setCells g o vs)
  | [], _, _, h => h
  | v :: r, o, w', h => below_setCells hg r (o + 1) (h.setCell (p := ⟨g, o, none⟩) hg v)
theorem upd_setCells {S : List Nat} {g : Nat} {w : World} (hg : g ∈ S) : ∀ (vs : List Value) (o : Nat) {w' : World}, Upd S w w' → Upd S w (w'.setCells g o vs)
  | [], _, _, h => h
  | v :: r, o, w', h => upd_setCells hg r (o + 1) (h.setCell (p := ⟨g, o, none⟩) (.inl hg) v)
theorem own_setCells_far {base : Nat} {e : TypeId} {size n g : Nat} {v : Value} {xs : List Value} (hp : v.ownBlock ≠ some g) : ∀ (vs : List Value) (o : Nat) {w : World}, w.ownsRow base e size v n xs → (w.setCells g o vs).ownsRow base e size v n xs
  | [], _, _, h => h
  | u :: r, o, w, h => own_setCells_far hp r (o + 1) (own_set_far h (p := ⟨g, o, none⟩) hp u)
theorem blk_setCells_far {t : TypeId} {cs : Array Value} {g g' : Nat} (hp : g ≠ g') : ∀ (vs : List Value) (o : Nat) {w : World}, Blk w g t cs → Blk (w.setCells g' o vs) g t cs
  | [], _, _, h => h
  | u :: r, o, w, h => blk_setCells_far hp r (o + 1) (h.far (p := ⟨g', o, none⟩) hp u)
theorem ret_cell_tmp {fn : Func} {p u : Tmp} {ty : TypeId} (h : fn.results = #[.cell p ty, .tmp u]) {tmps : Array Value} {P : Program} {w : World} {a : Addr} {v x : Value} (hp : tmps.getD p undef = .pointer (some a)) (hl : (loadVar ty a).run P w = .ok v w) (hu : tmps.getD u undef = x) :
    (results fn tmps).run P w = .ok (.tuple #[v, x]) w := by
  rw [results_cell_tmp h, hp, hu]
  simp [asAddr, hl, Result.andThen]
theorem ret_cell {fn : Func} {p : Tmp} {ty : TypeId} (h : fn.results = #[.cell p ty]) {tmps : Array Value} {P : Program} {w : World} {a : Addr} {v : Value} (hp : tmps.getD p undef = .pointer (some a)) (hl : (loadVar ty a).run P w = .ok v w) :
    (results fn tmps).run P w = .ok v w := by
  have hp' : tmps[p]?.getD undef = .pointer (some a) := by simpa using hp
  simp [results, h, hp', asAddr, hl]
/-- 'copy' into a row that is known whole, in a region that draws its order: what is asked of the region's own world as one. -/
theorem step_copy {P : Program} {ops : Array Oper} {o : Oper} {a : Act} {w : World} {K : Act → World → Prop} {Q : Exit → Act → World → Prop} {E : Prop} (d s : Operand) (dT sT elem : TypeId) (hu : P.underlying dT = some (.slice elem)) (hsz : (P.info? elem).map (·.size) = some 1)
    (g off dLen dCap : Nat) (ad : Addr) (sLen sCap : Nat) (cur : List Value) (t : TypeId) (cs : List Value) (hn : cs.length = Nat.min sLen dLen) (hfit : off + cs.length ≤ cur.length) (h1 : ∀ v ∈ cs, v.oneCell' = true) (B : Nat) (w0 : World) (hBg : B ≤ g)
    (h : (o.guard = none ∧ o.op = .call { callee := .builtin .copy, args := #[d, s], argTypes := #[dT, sT] } ∧ a.eval d = .slice (some ⟨g, off, none⟩) dLen dCap ∧ a.eval s = .slice (some ad) sLen sCap ∧ w.heap[g]? = some (.cells cur.toArray t (0, 0)) ∧
        (∀ j v, cs[j]? = some v → w.cell? (ad.add j) = some v) ∧ Below B w0 w) ∧
      ∀ w', Blk w' g t (splice cur off cs).toArray → Below B w0 w' → K (a.put o.dst (goInt cs.length)) w') :
    if Region.wanted o (yielded ops a.tmps) = true then Oper.wp P o a w K Q else E := by
  obtain ⟨⟨hgd, ho, hd, hs, hg, hsrc, hb⟩, h⟩ := h
  exact step_copy_splice hgd d s dT sT ho elem hu hsz _ _ dLen dCap sLen sCap hd hs g off cur t hg cs hn (fun _ => ⟨rfl, ad, rfl, hsrc⟩) hfit h1 B w0 hb hBg (fun w' h2 h3 => h w' h2.out h3)
theorem splice_in {α : Type} (L : List α) (off : Nat) (cs : List α) (hl : off + cs.length ≤ L.length) (j : Nat) (hj : j < cs.length) : (splice L off cs)[off + j]? = cs[j]? := by
  unfold splice
  rw [List.getElem?_append_right (by simp; omega)]
  have e : off + j - (L.take off).length = j := by simp; omega
  rw [e, List.getElem?_append_left hj]
theorem splice_out {α : Type} (L : List α) (off : Nat) (cs : List α) (hl : off + cs.length ≤ L.length) (i : Nat) (hi : i < off ∨ off + cs.length ≤ i) : (splice L off cs)[i]? = L[i]? := by
  unfold splice
  rcases hi with hi | hi
  · rw [List.getElem?_append_left (by simp; omega), List.getElem?_take, if_pos hi]
  · rw [List.getElem?_append_right (by simp; omega)]
    have e : i - (L.take off).length = i - off := by simp; omega
    rw [e, List.getElem?_append_right (by omega), List.getElem?_drop]
    congr 1
    omega
end Go.Proofs.YtpiapfahcoopbaaDoor

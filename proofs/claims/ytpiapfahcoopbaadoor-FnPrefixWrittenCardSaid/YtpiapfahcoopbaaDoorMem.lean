/- Words for memory, plain: a slice that reads as a list of numbers (nil let in); a block known whole; which blocks a call may have turned. No program in sight. -/
import Derived.WalkKit
import Derived.Below
import Derived.WalkSmall
import Derived.Laws.OwnMore
import Derived.Deep.Draws
import Derived.Deep.AppendLies
import Derived.OwnWalk
namespace Go.Proofs.YtpiapfahcoopbaaDoor
set_option linter.unusedSimpArgs false
set_option linter.unusedVariables false
open Go.RowKit

theorem hide {p : Prop} (h : p) : Hid p := h

/-- Of the blocks that stood in w only those in S may read otherwise in w'. -/
structure Upd (S : List Nat) (w w' : World) : Prop where
  os : w'.os = w.os
  tape : w'.tape = w.tape
  output : w'.output = w.output
  size : w.heap.size ≤ w'.heap.size
  block : ∀ k, k < w.heap.size → k ∉ S → w'.heap[k]? = w.heap[k]?

namespace Upd
variable {S T : List Nat} {w w' w'' : World}
theorem refl (S : List Nat) (w : World) : Upd S w w := ⟨rfl, rfl, rfl, Nat.le_refl _, fun _ _ _ => rfl⟩
theorem trans (h : Upd S w w') (k : Upd S w' w'') : Upd S w w'' :=
  ⟨k.os.trans h.os, k.tape.trans h.tape, k.output.trans h.output, Nat.le_trans h.size k.size, fun i hi hs => (k.block i (Nat.lt_of_lt_of_le hi h.size) hs).trans (h.block i hi hs)⟩
/-- Blocks in T that are new, or in S as well, need not be named. -/
theorem wide (h : Upd T w w') (ht : ∀ k, k ∈ T → k < w.heap.size → k ∈ S) : Upd S w w' :=
  ⟨h.os, h.tape, h.output, h.size, fun i hi hs => h.block i hi (fun m => hs (ht i m hi))⟩
/-- A later step that may turn S and what is new since w. -/
theorem step (h : Upd S w w') (k : Upd T w' w'') (ht : ∀ i, i ∈ T → i < w.heap.size → i ∈ S) : Upd S w w'' :=
  ⟨k.os.trans h.os, k.tape.trans h.tape, k.output.trans h.output, Nat.le_trans h.size k.size, fun i hi hs => (k.block i (Nat.lt_of_lt_of_le hi h.size) (fun m => hs (ht i m hi))).trans (h.block i hi hs)⟩
theorem alloc (h : Upd S w w') (o : Obj) : Upd S w (w'.alloc o) :=
  h.trans ⟨rfl, rfl, rfl, by simp, fun k hk _ => Below.heap_alloc w' o k hk⟩
theorem setCell (h : Upd S w w') {p : Addr} (hp : p.block ∈ S ∨ w.heap.size ≤ p.block) (u : Value) : Upd S w (w'.setCell p u) :=
  ⟨h.os, h.tape, h.output, by simpa [World.setCell] using h.size, fun i hi hs => (Below.heap_setCell w' p u i (by
    rintro rfl
    rcases hp with hp | hp
    · exact hs hp
    · omega)).trans (h.block i hi hs)⟩
theorem drew (h : Upd S w w') : Upd S w w'.drew := ⟨h.os, h.tape, h.output, h.size, h.block⟩
theorem drewN (h : Upd S w w') (n : Nat) : Upd S w (w'.drewN n) := ⟨h.os, h.tape, h.output, h.size, h.block⟩
theorem grown (h : Upd S w w') {row : Option Nat} (hg : w'.grownBy w'' row) (hr : ∀ g, row = some g → g ∈ S ∨ w.heap.size ≤ g) : Upd S w w'' :=
  ⟨hg.os.trans h.os, hg.tape.trans h.tape, hg.output.trans h.output, Nat.le_trans h.size hg.size, fun i hi hs => (hg.block i (Nat.lt_of_lt_of_le hi h.size) (fun e => by
    rcases hr i e.symm with m | m
    · exact hs m
    · omega)).trans (h.block i hi hs)⟩
theorem ofBelow (h : Below w.heap.size w w') : Upd S w w' := ⟨h.os, h.tape, h.output, h.size, fun k hk _ => h.block k hk⟩
theorem below {B : Nat} (h : Upd S w w') (hS : ∀ k, k ∈ S → B ≤ k) (hB : B ≤ w.heap.size) : Below B w w' :=
  ⟨h.os, h.tape, h.output, h.size, fun k hk => h.block k (by omega) (fun m => by have := hS k m; omega)⟩
theorem toBelow (h : Upd [] w w') : Below w.heap.size w w' := h.below (by simp) (Nat.le_refl _)
theorem cell (h : Upd S w w') {p : Addr} (hp : p.block < w.heap.size) (hs : p.block ∉ S) : w'.cell? p = w.cell? p := World.cell?_of_block (w := w) (h.block p.block hp hs)
theorem frozen (h : Upd S w w') {p : Addr} (hp : p.block < w.heap.size) (hs : p.block ∉ S) : w'.frozen? p = w.frozen? p := World.frozen?_of_block (w := w) (h.block p.block hp hs)
theorem own (h : Upd S w w') {base : Nat} {e : TypeId} {size : Nat} {v : Value} {n : Nat} {xs : List Value} (ho : w.ownsRow base e size v n xs) (hs : ∀ g, v.ownBlock = some g → g ∉ S) : w'.ownsRow base e size v n xs := by
  obtain ⟨h1, h2⟩ := ho
  refine ⟨h1, ?_⟩
  rcases h2 with h2 | ⟨g, cap, cur, hv, hg, hh, r⟩
  · exact .inl h2
  · refine .inr ⟨g, cap, cur, hv, hg, ?_, r⟩
    have hlt : g < w.heap.size := by
      rcases Nat.lt_or_ge g w.heap.size with hlt | hge
      · exact hlt
      · rw [Array.getElem?_eq_none hge] at hh; cases hh
    rw [h.block g hlt (hs g (by rw [hv]; rfl))]; exact hh
end Upd

/-- Block g is the cells cs of element type t; none is frozen. -/
def Blk (w : World) (g : Nat) (t : TypeId) (cs : Array Value) : Prop := w.heap[g]? = some (.cells cs t (0, 0))
namespace Blk
variable {w w' : World} {g : Nat} {t : TypeId} {cs : Array Value}
theorem lt (h : Blk w g t cs) : g < w.heap.size := by
  rcases Nat.lt_or_ge g w.heap.size with hlt | hge
  · exact hlt
  · unfold Blk at h; rw [Array.getElem?_eq_none hge] at h; cases h
theorem cell (h : Blk w g t cs) (i : Nat) : w.cell? ⟨g, i, none⟩ = cs[i]? := cell_of_row w g i cs t (0, 0) h
theorem frozen (h : Blk w g t cs) (i : Nat) : w.frozen? ⟨g, i, none⟩ = false := frozen_of_row w g i cs t h
theorem new (w : World) (t : TypeId) (cs : Array Value) : Blk (w.alloc (.cells cs t)) w.heap.size t cs := heap_alloc_new w _
theorem alloc (h : Blk w g t cs) (o : Obj) : Blk (w.alloc o) g t cs := (Below.heap_alloc w o g h.lt).trans h
theorem set_ (h : Blk w g t cs) (i : Nat) (u : Value) : Blk (w.setCell ⟨g, i, none⟩ u) g t (cs.setIfInBounds i u) := heap_setCell_same w g i cs t u h
theorem far (h : Blk w g t cs) {p : Addr} (hp : g ≠ p.block) (u : Value) : Blk (w.setCell p u) g t cs := (Below.heap_setCell w p u g hp).trans h
theorem upd {S : List Nat} (h : Blk w g t cs) (u : Upd S w w') (hs : g ∉ S) : Blk w' g t cs := (u.block g h.lt hs).trans h
theorem below {B : Nat} (h : Blk w g t cs) (b : Below B w w') (hg : g < B) : Blk w' g t cs := (b.block g hg).trans h
theorem grown {row : Option Nat} (h : Blk w g t cs) (hb : w.grownBy w' row) (hg : row ≠ some g) : Blk w' g t cs := (hb.block g h.lt (fun e => hg e.symm)).trans h
theorem drew (h : Blk w g t cs) : Blk w.drew g t cs := h
theorem drewN (h : Blk w g t cs) (n : Nat) : Blk (w.drewN n) g t cs := h
end Blk

/-- The slice at A reads as the numbers l, in a block below B. -/
def Rd (k : IntKind) (w : World) (B : Nat) (A : Option Addr) (l : List Int) : Prop :=
  l ≠ [] → ∃ b off, A = some ⟨b, off, none⟩ ∧ b < B ∧ ∀ j, j < l.length → w.cell? ⟨b, off + j, none⟩ = some (.int k (l.getD j 0))
namespace Rd
variable {k : IntKind} {w w' : World} {B B' : Nat} {A : Option Addr} {l : List Int}
theorem at_ {j : Nat} (h : Rd k w B A l) (hj : j < l.length) : ∃ b off, A = some ⟨b, off, none⟩ ∧ b < B ∧ ∀ i, i < l.length → w.cell? ⟨b, off + i, none⟩ = some (.int k (l.getD i 0)) :=
  h (by rintro rfl; simp at hj)
theorem nil : Rd k w B A [] := fun h => absurd rfl h
theorem keep (h : Rd k w B A l) (hk : ∀ p : Addr, p.block < B → w'.cell? p = w.cell? p) : Rd k w' B A l := fun hl => by
  obtain ⟨b, off, rfl, hb, hc⟩ := h hl
  exact ⟨b, off, rfl, hb, fun j hj => (hk _ hb).trans (hc j hj)⟩
theorem more (h : Rd k w B A l) (hB : B ≤ B') : Rd k w B' A l := fun hl => by
  obtain ⟨b, off, rfl, hb, hc⟩ := h hl
  exact ⟨b, off, rfl, by omega, hc⟩
theorem below (h : Rd k w B A l) (hb : Below B w w') : Rd k w' B A l := h.keep fun _ hp => hb.cell hp
theorem upd {S : List Nat} (h : Rd k w B A l) (u : Upd S w w') (hB : B ≤ w.heap.size) (hS : ∀ s, s ∈ S → B ≤ s) : Rd k w' B A l :=
  h.keep fun p hp => u.cell (by omega) (fun m => by have := hS _ m; omega)
theorem alloc (h : Rd k w B A l) (hB : B ≤ w.heap.size) (o : Obj) : Rd k (w.alloc o) B A l := h.keep fun p hp => World.cell?_alloc_lt w o p (by omega)
theorem setCell (h : Rd k w B A l) {p : Addr} (hB : B ≤ p.block) (u : Value) : Rd k (w.setCell p u) B A l :=
  h.keep fun q hq => World.cell?_setCell_other w p q u (fun e => by subst e; omega)
theorem drew (h : Rd k w B A l) : Rd k w.drew B A l := h
theorem drewN (h : Rd k w B A l) (n : Nat) : Rd k (w.drewN n) B A l := h
theorem ofOwn {base : Nat} {e : TypeId} {c n : Nat} (h : w.ownsRow base e 1 (.slice A n c) n (l.map (Value.int k))) : Rd k w w.heap.size A l := fun hl => by
  have hn : n = l.length := by have := h.1; simpa using this.symm
  subst hn
  have hpos : 0 < l.length := by cases l <;> simp_all
  obtain ⟨g, cap, hv, _, hlt⟩ := h.form hpos
  have hA : A = some ⟨g, 0, none⟩ := by injection hv
  subst hA
  refine ⟨g, 0, rfl, hlt, fun j hj => ?_⟩
  rw [Nat.zero_add, h.cellAt j (by simpa using hj)]
  simp [hj]
/-- A row of cells that is known: read as a slice from a place on. -/
theorem ofCells {b off : Nat} (hb : b < B) (h : ∀ j, j < l.length → w.cell? ⟨b, off + j, none⟩ = some (.int k (l.getD j 0))) : Rd k w B (some ⟨b, off, none⟩) l := fun _ => ⟨b, off, rfl, hb, h⟩
end Rd

theorem getD_eq (l : List Int) (j : Nat) (hj : j < l.length) : l.getD j 0 = l[j] := by simp [hj]

/-- The empty slice value of a slice's own first state. -/
theorem own_len {w : World} {base : Nat} {e : TypeId} {v : Value} {n : Nat} {xs : List Value} (h : w.ownsRow base e 1 v n xs) : ∃ A c, v = .slice A n c ∧ n ≤ c ∧ c ≤ maxLen := by
  rcases h.2 with ⟨rfl, rfl⟩ | ⟨g, cap, cur, rfl, _, _, h1, h2, _⟩
  · exact ⟨none, 0, rfl, Nat.le_refl _, by simp [maxLen]⟩
  · exact ⟨_, _, rfl, h1, h2⟩

theorem own_cell {k : IntKind} {w : World} {base : Nat} {e : TypeId} {g n cap : Nat} {l : List Int} (h : w.ownsRow base e 1 (.slice (some ⟨g, 0, none⟩) n cap) n (l.map (Value.int k))) (j : Nat) (hj : j < n) : w.cell? ⟨g, j, none⟩ = some (.int k (l.getD j 0)) := by
  rw [h.cellAt j (by omega)]
  have hl : l.length = n := by simpa using h.1
  simp [hl, hj]
theorem own_set {k : IntKind} {w : World} {base : Nat} {e : TypeId} {g n cap : Nat} {l : List Int} (h : w.ownsRow base e 1 (.slice (some ⟨g, 0, none⟩) n cap) n (l.map (Value.int k))) (j : Nat) (x : Int) :
    (w.setCell ⟨g, j, none⟩ (.int k x)).ownsRow base e 1 (.slice (some ⟨g, 0, none⟩) n cap) n ((l.set j x).map (Value.int k)) := by
  rw [List.map_set]; exact (h.stored j _).1
theorem own_drewN {w : World} {base : Nat} {e : TypeId} {size : Nat} {v : Value} {n : Nat} {xs : List Value} (h : w.ownsRow base e size v n xs) (m : Nat) : (w.drewN m).ownsRow base e size v n xs := h

/-- What the frame of a law knows of a slice of numbers that came in, in the words of this page. -/
theorem row_rd {k : IntKind} {w : World} {a : Option Addr} {len cap : Nat} {zs : List Int}
    (h : (a = none ∧ len = 0 ∧ cap = 0 ∧ zs = []) ∨ ∃ x, a = some x ∧ len ≤ cap ∧ cap ≤ maxLen ∧ zs.length = cap ∧ (∀ i, i < zs.length → w.cell? (x.add i) = some (.int k (zs.getD i 0))) ∧ ∀ n ∈ zs, (Lit.int k n).wf = true) :
    ∃ l : List Int, l.length = len ∧ Rd k w w.heap.size a l ∧ (∀ n ∈ l, (Lit.int k n).wf = true) ∧ len ≤ 9223372036854775807 := by
  rcases h with ⟨rfl, rfl, rfl, rfl⟩ | ⟨x, rfl, hl, hm, hz, hc, hw⟩
  · exact ⟨[], rfl, Rd.nil, by simp, by omega⟩
  · refine ⟨zs.take len, by simp; omega, fun hne => ?_, fun n hn => hw n (List.mem_of_mem_take hn), by unfold maxLen at hm; omega⟩
    have hpos : 0 < len := by
      rcases Nat.eq_zero_or_pos len with e | e
      · subst e; simp at hne
      · exact e
    obtain ⟨b, off, spot⟩ := x
    have hc0 := hc 0 (by omega)
    have hspot : spot = none := by simpa [Addr.add] using World.cell?_spot hc0
    subst hspot
    refine ⟨b, off, rfl, World.block_lt_of_cell? _ _ hc0, fun j hj => ?_⟩
    have hj' : j < len := by simp at hj; omega
    have hcj := hc j (by omega)
    rw [Addr.add_lit] at hcj
    rw [hcj]
    simp [List.getD_eq_getElem?_getD, List.getElem?_take, hj']

/-- A call that leaves the world as it is, met inside a region that draws its order: ahead of any draw, and behind some. -/
theorem quiet_first {P : Program} {f : FuncId} {args : Array Value} {w : World} {n : Nat} {v : Value} (h : Calls P f args (w.drewN n) fun e w' => e = .returned v ∧ w.drewN n = w') :
    Calls P f args (w.drewN n) fun e w'' => e = .returned v ∧ ∃ m, w'' = w.drewN m := h.mono fun _ _ hh => ⟨hh.1, n, hh.2.symm⟩
theorem quiet_after {P : Program} {f : FuncId} {args : Array Value} {w : World} {a n : Nat} {v : Value} (h : Calls P f args (w.drewN (a + n)) fun e w' => e = .returned v ∧ w.drewN (a + n) = w') :
    Calls P f args (w.drewN (a + n)) fun e w'' => e = .returned v ∧ ∃ m, w'' = w.drewN (a + m) := h.mono fun _ _ hh => ⟨hh.1, n, hh.2.symm⟩

/-- 'append' of one element onto a slice of the call's own (nil or a row): the box of the one element has just been laid. -/
theorem wpList_push {P : Program} {w : World} {ops : Array Oper} {rest : List Oper} {o : Oper} {a : Act} {Q : Exit → Act → World → Prop} (hgd : o.guard = none) (s x : Operand) (t : TypeId)
    (ho : o.op = .call { callee := .builtin .append, args := #[s, x], argTypes := #[t, t] })
    (base : Nat) (e : TypeId) (z : Value) (bytes : Nat) (ht : P.underlying t = some (.slice e)) (hi : (P.info? e).map (fun i => (i.zero, i.size, i.bytes)) = some (some z, 1, bytes)) (hzs : z.cells.size = 1)
    (v : Value) (n : Nat) (xs : List Value) (hs : a.eval s = v) (hown : w.ownsRow base e 1 v n xs) (u : Value) (hu : u.oneCell' = true)
    (hx : a.eval x = .slice (some ⟨w.heap.size, 0, none⟩) 1 1) (h63 : n + 1 ≤ maxLen) (hbytes : (n + 1) * bytes ≤ 140737488355328) (hbase : base ≤ w.heap.size)
    (h : ∀ v' w', w'.ownsRow base e 1 v' (n + 1) (xs ++ [u]) → w.grownBy w' v.ownBlock → wpList P ops Q rest (a.put o.dst v') w') : wpList P ops Q (o :: rest) a (w.alloc (.cells #[u] e)) := by
  obtain ⟨i, hi, hz, h1, h2⟩ := info_parts hi
  refine wpList_append_own (w.alloc (.cells #[u] e)) hgd s x t ho base e i z 1 bytes ht hi hz h1 h2 hzs (by decide) v n xs hs (hown.alloc _) ⟨w.heap.size, 0, none⟩ 1 1 [u] hx rfl ?_ ?_ h63 hbytes (by simp; omega) ?_
  · intro j y hy
    cases j with
    | zero => simp at hy; subst hy; simp [Addr.add]
    | succ j => simp at hy
  · intro y hy; simp at hy; subst hy; exact hu
  · intro v' w' h1 h2 _
    refine h v' w' h1 ⟨h2.os, h2.tape, h2.output, Nat.le_trans (by simp) h2.size, fun k hk hne => ?_⟩
    rw [h2.block k (by simp; omega) hne]
    exact Below.heap_alloc w _ k hk

/-- The same inside a region that draws its order. -/
theorem step_push {P : Program} {w : World} {ops : Array Oper} {o : Oper} {a : Act} {K : Act → World → Prop} {Q : Exit → Act → World → Prop} {E : Prop} (hgd : o.guard = none) (s x : Operand) (t : TypeId)
    (ho : o.op = .call { callee := .builtin .append, args := #[s, x], argTypes := #[t, t] })
    (base : Nat) (e : TypeId) (z : Value) (bytes : Nat) (ht : P.underlying t = some (.slice e)) (hi : (P.info? e).map (fun i => (i.zero, i.size, i.bytes)) = some (some z, 1, bytes)) (hzs : z.cells.size = 1)
    (v : Value) (n : Nat) (xs : List Value) (hs : a.eval s = v) (hown : w.ownsRow base e 1 v n xs) (u : Value) (hu : u.oneCell' = true)
    (hx : a.eval x = .slice (some ⟨w.heap.size, 0, none⟩) 1 1) (h63 : n + 1 ≤ maxLen) (hbytes : (n + 1) * bytes ≤ 140737488355328) (hbase : base ≤ w.heap.size)
    (h : ∀ v' w', w'.ownsRow base e 1 v' (n + 1) (xs ++ [u]) → w.grownBy w' v.ownBlock → K (a.put o.dst v') w') :
    if Region.wanted o (yielded ops a.tmps) = true then Oper.wp P o a (w.alloc (.cells #[u] e)) K Q else E := by
  obtain ⟨i, hi, hz, h1, h2⟩ := info_parts hi
  have hw : Region.wanted o (yielded ops a.tmps) = true := by simp [Region.wanted, hgd]
  rw [if_pos hw]
  refine wp_append_own (w.alloc (.cells #[u] e)) s x t ho base e i z 1 bytes ht hi hz h1 h2 hzs (by decide) v n xs hs (hown.alloc _) ⟨w.heap.size, 0, none⟩ 1 1 [u] hx rfl ?_ ?_ h63 hbytes (by simp; omega) ?_
  · intro j y hy
    cases j with
    | zero => simp at hy; subst hy; simp [Addr.add]
    | succ j => simp at hy
  · intro y hy; simp at hy; subst hy; exact hu
  · intro v' w' h1 h2 _
    refine h v' w' h1 ⟨h2.os, h2.tape, h2.output, Nat.le_trans (by simp) h2.size, fun k hk hne => ?_⟩
    rw [h2.block k (by simp; omega) hne]
    exact Below.heap_alloc w _ k hk

/-- A row of the call's own and a block of another element type are two. -/
theorem own_ne {w : World} {base : Nat} {e t : TypeId} {size n g : Nat} {v : Value} {xs : List Value} {cs : Array Value} (h : w.ownsRow base e size v n xs) (b : Blk w g t cs) (hne : e ≠ t) : v.ownBlock ≠ some g := by
  rcases h.2 with ⟨rfl, _⟩ | ⟨g', cap, cur, rfl, _, hh, _⟩
  · simp [Value.ownBlock]
  · intro he
    have e1 : g' = g := by simpa [Value.ownBlock] using he
    subst e1
    unfold Blk at b
    rw [b] at hh
    injection hh with hh
    injection hh with _ ht
    exact hne ht.symm
theorem own_set_far {w : World} {base : Nat} {e : TypeId} {size n : Nat} {v : Value} {xs : List Value} (h : w.ownsRow base e size v n xs) {p : Addr} (hp : v.ownBlock ≠ some p.block) (u : Value) : (w.setCell p u).ownsRow base e size v n xs := by
  obtain ⟨h1, h2⟩ := h
  refine ⟨h1, ?_⟩
  rcases h2 with h2 | ⟨g, cap, cur, hv, hg, hh, r⟩
  · exact .inl h2
  · refine .inr ⟨g, cap, cur, hv, hg, ?_, r⟩
    rw [Below.heap_setCell _ _ _ _ (fun e => hp (by rw [hv, ← e]; rfl))]
    exact hh

/-- 'append' of one element of several cells. -/
theorem wpList_pushN {P : Program} {w : World} {ops : Array Oper} {rest : List Oper} {o : Oper} {a : Act} {Q : Exit → Act → World → Prop} (hgd : o.guard = none) (s x : Operand) (t : TypeId)
    (ho : o.op = .call { callee := .builtin .append, args := #[s, x], argTypes := #[t, t] })
    (base : Nat) (e : TypeId) (z : Value) (size bytes : Nat) (ht : P.underlying t = some (.slice e)) (hi : (P.info? e).map (fun i => (i.zero, i.size, i.bytes)) = some (some z, size, bytes)) (hzs : z.cells.size = size) (hsz : 0 < size)
    (v : Value) (n : Nat) (xs : List Value) (hs : a.eval s = v) (hown : w.ownsRow base e size v n xs) (cs : Array Value) (hcs : cs.size = size) (hu : ∀ u ∈ cs.toList, u.oneCell' = true)
    (hx : a.eval x = .slice (some ⟨w.heap.size, 0, none⟩) 1 1) (h63 : n + 1 ≤ maxLen) (hbytes : (n + 1) * bytes ≤ 140737488355328) (hbase : base ≤ w.heap.size)
    (h : ∀ v' w', w'.ownsRow base e size v' (n + 1) (xs ++ cs.toList) → w.grownBy w' v.ownBlock → wpList P ops Q rest (a.put o.dst v') w') : wpList P ops Q (o :: rest) a (w.alloc (.cells cs e)) := by
  obtain ⟨i, hi, hz, h1, h2⟩ := info_parts hi
  refine wpList_append_own (w.alloc (.cells cs e)) hgd s x t ho base e i z size bytes ht hi hz h1 h2 hzs hsz v n xs hs (hown.alloc _) ⟨w.heap.size, 0, none⟩ 1 1 cs.toList hx (by simp [hcs]) ?_ hu h63 hbytes (by simp; omega) ?_
  · intro j y hy
    rw [Addr.add_lit, Nat.zero_add, World.cell?_alloc_new]
    simpa using hy
  · intro v' w' h1 h2 _
    refine h v' w' h1 ⟨h2.os, h2.tape, h2.output, Nat.le_trans (by simp) h2.size, fun k hk hne => ?_⟩
    rw [h2.block k (by simp; omega) hne]
    exact Below.heap_alloc w _ k hk

end Go.Proofs.YtpiapfahcoopbaaDoor

/- 'parseSegmentHeader': what is told of segments is read as it was written. The walk. -/
import Derived.Test.YthbidebcljegjaaDoorOptional
import Derived.Deep.RegionWith
import Derived.Deep.RegionHeld3
namespace Go.Proofs.YthbidebcljegjaaDoor
set_option linter.unusedSimpArgs false
set_option linter.unusedVariables false
open Go.RowKit Plain

theorem Rdr.far {w w' : World} {g o : Nat} {A : Option Addr} {cap : Nat} {bytes : List Nat} {dn rs : List (Bool × Nat)} (R : Rdr w g o A cap bytes dn rs)
    (hc : ∀ p : Addr, w.cell? p ≠ none → ¬ (p.block = g ∧ (p.off < o ∨ o + 6 ≤ p.off)) → w'.cell? p = w.cell? p) (hf : ∀ i, i < 6 → w'.frozen? ⟨g, o + i, none⟩ = w.frozen? ⟨g, o + i, none⟩) : Rdr w' g o A cap bytes dn rs := by
  obtain ⟨D, t, S, L, b, l, c, p, ne⟩ := R
  have hin : ∀ i, i < 6 → w.cell? ⟨g, o + i, none⟩ ≠ none := by
    intro i hi
    obtain ⟨c0, c1, c2, c3, c4, c5, _⟩ := D
    rcases i with _ | _ | _ | _ | _ | _ | i
    · rw [Nat.add_zero, c0]; simp
    · rw [c1]; simp
    · rw [c2]; simp
    · rw [c3]; simp
    · rw [c4]; simp
    · rw [c5]; simp
    · omega
  refine ⟨D.keep (fun i hi => hc _ (hin i hi) (by simp; omega)) hf, t, ⟨fun j hj => ?_⟩, ⟨fun k hk => ?_, fun k hk => ?_⟩, b, l, c, p, ne⟩
  · obtain ⟨bb, off, e, hne, hx⟩ := S.rd j hj
    exact ⟨bb, off, e, hne, (hc _ (by rw [hx]; simp) (fun h => hne h.1)).trans hx⟩
  · have := L.sh k hk
    exact (hc _ (by rw [this]; simp) (fun h => ne.1 h.1.symm)).trans this
  · have := L.rm k hk
    exact (hc _ (by rw [this]; simp) (fun h => ne.2 h.1.symm)).trans this
theorem Rdr.setFar {w : World} {g o i : Nat} {A : Option Addr} {cap : Nat} {bytes : List Nat} {dn rs : List (Bool × Nat)} (R : Rdr w g o A cap bytes dn rs) (hi : i < o) (u : Value) : Rdr (w.setCell ⟨g, i, none⟩ u) g o A cap bytes dn rs :=
  R.far (fun p _ hp => World.cell?_setCell_other w _ p u (fun e => hp (by subst e; exact ⟨rfl, .inl hi⟩))) (fun k _ => by simp)
theorem Rdr.drew {w : World} {g o : Nat} {A : Option Addr} {cap : Nat} {bytes : List Nat} {dn rs : List (Bool × Nat)} (R : Rdr w g o A cap bytes dn rs) : Rdr w.drew g o A cap bytes dn rs := R.drewN 1
theorem Only.wide {g o n o' n' : Nat} {w w' : World} (h : Only g o n w w') (h1 : o' ≤ o) (h2 : o + n ≤ o' + n') : Only g o' n' w w' :=
  ⟨h.os, h.tape, h.output, h.size, h.block, fun p hp => h.cell p (fun e => hp ⟨e.1, by omega, by omega⟩), h.frozen, h.typ⟩

/-- What is written of some numbers that may be left out. -/
def optsE (q : Nat → Int) (s : Nat) : Nat → List (Bool × Nat)
  | 0 => []
  | i + 1 => optsE q s i ++ optEv (optN (q i) s) 128 s (decide (q i < 0))
/-- Of n of them the last k. -/
def optsF (q : Nat → Int) (s n : Nat) : Nat → List (Bool × Nat)
  | 0 => []
  | k + 1 => optEv (optN (q (n - (k + 1))) s) 128 s (decide (q (n - (k + 1)) < 0)) ++ optsF q s n k
theorem opts_split (q : Nat → Int) (s n : Nat) : ∀ k, k ≤ n → optsE q s n = optsE q s (n - k) ++ optsF q s n k
  | 0, _ => by simp [optsF]
  | k + 1, h => by
    have ih := opts_split q s n k (by omega)
    rw [ih, show n - k = (n - (k + 1)) + 1 by omega]
    simp [optsE, optsF]
def pEv (p : Nat) : List (Bool × Nat) := if p = 255 then [(false, 128)] else (true, 128) :: bitsOf p 128 8
def psE (p : Nat → Nat) : Nat → List (Bool × Nat)
  | 0 => []
  | i + 1 => psE p i ++ pEv (p i)
def psF (p : Nat → Nat) (n : Nat) : Nat → List (Bool × Nat)
  | 0 => []
  | k + 1 => pEv (p (n - (k + 1))) ++ psF p n k
theorem ps_split (p : Nat → Nat) (n : Nat) : ∀ k, k ≤ n → psE p n = psE p (n - k) ++ psF p n k
  | 0, _ => by simp [psF]
  | k + 1, h => by
    have ih := ps_split p n k (by omega)
    rw [ih, show n - k = (n - (k + 1)) + 1 by omega]
    simp [psE, psF]
/-- The four truths ahead. -/
def hdE (rel : Bool) : List (Bool × Nat) := [(true, 128), (true, 128), (true, 128), (!rel, 128)]
/-- All that is told of segments. -/
def segE (rel : Bool) (q s : Nat → Int) (p : Nat → Nat) : List (Bool × Nat) := hdE rel ++ (optsE q 7 4 ++ (optsE s 6 4 ++ psE p 3))
/-- What the decoder holds of segments behind it. -/
structure SegAt (w : World) (g : Nat) (rel : Bool) (q s : Nat → Int) (p : Nat → Nat) (nq ns np : Nat) : Prop where
  u : w.cell? ⟨g, 21, none⟩ = some (.bool true)
  m : w.cell? ⟨g, 22, none⟩ = some (.bool true)
  r : w.cell? ⟨g, 23, none⟩ = some (.bool rel)
  q : ∀ j, j < nq → w.cell? ⟨g, 24 + j, none⟩ = some (.int .i8 (optV (q j) 7))
  s : ∀ j, j < ns → w.cell? ⟨g, 28 + j, none⟩ = some (.int .i8 (optV (s j) 6))
  p : ∀ j, j < np → w.cell? ⟨g, 32 + j, none⟩ = some (.int .u8 (p j))
  o : ∀ j, 21 ≤ j → j < 35 → (w.cell? ⟨g, j, none⟩).isSome = true
theorem some_set {w : World} {g : Nat} (h : ∀ j, 21 ≤ j → j < 35 → (w.cell? ⟨g, j, none⟩).isSome = true) (i : Nat) (u : Value) : ∀ j, 21 ≤ j → j < 35 → ((w.setCell ⟨g, i, none⟩ u).cell? ⟨g, j, none⟩).isSome = true := by
  intro j h1 h2
  obtain ⟨v, hv⟩ := Option.isSome_iff_exists.1 (h j h1 h2)
  by_cases e : j = i
  · subst e
    rw [World.cell?_setCell_same w _ _ hv]
    rfl
  · rw [World.cell?_setCell_other w _ _ _ (fun e' => by injection e' with _ e2; omega), hv]
    rfl
theorem SegAt.keep {w w' : World} {g : Nat} {rel : Bool} {q s : Nat → Int} {p : Nat → Nat} {nq ns np : Nat} (h : SegAt w g rel q s p nq ns np) (hq : nq ≤ 4) (hs : ns ≤ 4) (hp : np ≤ 3) (hc : ∀ j, 21 ≤ j → j < 35 → w'.cell? ⟨g, j, none⟩ = w.cell? ⟨g, j, none⟩) : SegAt w' g rel q s p nq ns np :=
  ⟨(hc _ (by omega) (by omega)).trans h.u, (hc _ (by omega) (by omega)).trans h.m, (hc _ (by omega) (by omega)).trans h.r,
   fun j hj => (hc _ (by omega) (by omega)).trans (h.q j hj), fun j hj => (hc _ (by omega) (by omega)).trans (h.s j hj), fun j hj => (hc _ (by omega) (by omega)).trans (h.p j hj), fun j h1 h2 => by rw [hc j h1 h2]; exact h.o j h1 h2⟩
theorem SegAt.fp {w w' : World} {g : Nat} {rel : Bool} {q s : Nat → Int} {p : Nat → Nat} {nq ns np : Nat} (h : SegAt w g rel q s p nq ns np) (hq : nq ≤ 4) (hs : ns ≤ 4) (hp : np ≤ 3) (hO : Only g 51 6 w w') : SegAt w' g rel q s p nq ns np :=
  h.keep hq hs hp (fun j h1 h2 => hO.cell _ (by simp; omega))
theorem SegAt.drewN {w : World} {g : Nat} {rel : Bool} {q s : Nat → Int} {p : Nat → Nat} {nq ns np : Nat} (h : SegAt w g rel q s p nq ns np) (n : Nat) : SegAt (w.drewN n) g rel q s p nq ns np := ⟨h.u, h.m, h.r, h.q, h.s, h.p, h.o⟩
theorem SegAt.addQ {w : World} {g : Nat} {rel : Bool} {q s : Nat → Int} {p : Nat → Nat} {i : Nat} (h : SegAt w g rel q s p i 0 0) (hi : i < 4) : SegAt (w.setCell ⟨g, 24 + i, none⟩ (.int .i8 (optV (q i) 7))) g rel q s p (i + 1) 0 0 := by
  have hne : ∀ j, j ≠ 24 + i → (w.setCell ⟨g, 24 + i, none⟩ (.int .i8 (optV (q i) 7))).cell? ⟨g, j, none⟩ = w.cell? ⟨g, j, none⟩ := fun j hj => World.cell?_setCell_other w _ _ _ (fun e => by injection e with _ e2; omega)
  refine ⟨(hne _ (by omega)).trans h.u, (hne _ (by omega)).trans h.m, (hne _ (by omega)).trans h.r, fun j hj => ?_, fun j hj => absurd hj (by omega), fun j hj => absurd hj (by omega), some_set h.o _ _⟩
  by_cases e : j = i
  · subst e
    obtain ⟨v, hv⟩ := Option.isSome_iff_exists.1 (h.o (24 + j) (by omega) (by omega))
    exact World.cell?_setCell_same w _ _ hv
  · exact (hne _ (by omega)).trans (h.q j (by omega))
theorem SegAt.addS {w : World} {g : Nat} {rel : Bool} {q s : Nat → Int} {p : Nat → Nat} {i : Nat} (h : SegAt w g rel q s p 4 i 0) (hi : i < 4) : SegAt (w.setCell ⟨g, 28 + i, none⟩ (.int .i8 (optV (s i) 6))) g rel q s p 4 (i + 1) 0 := by
  have hne : ∀ j, j ≠ 28 + i → (w.setCell ⟨g, 28 + i, none⟩ (.int .i8 (optV (s i) 6))).cell? ⟨g, j, none⟩ = w.cell? ⟨g, j, none⟩ := fun j hj => World.cell?_setCell_other w _ _ _ (fun e => by injection e with _ e2; omega)
  refine ⟨(hne _ (by omega)).trans h.u, (hne _ (by omega)).trans h.m, (hne _ (by omega)).trans h.r, fun j hj => (hne _ (by omega)).trans (h.q j hj), fun j hj => ?_, fun j hj => absurd hj (by omega), some_set h.o _ _⟩
  by_cases e : j = i
  · subst e
    obtain ⟨v, hv⟩ := Option.isSome_iff_exists.1 (h.o (28 + j) (by omega) (by omega))
    exact World.cell?_setCell_same w _ _ hv
  · exact (hne _ (by omega)).trans (h.s j (by omega))
theorem SegAt.addP {w : World} {g : Nat} {rel : Bool} {q s : Nat → Int} {p : Nat → Nat} {i : Nat} (h : SegAt w g rel q s p 4 4 i) (hi : i < 3) : SegAt (w.setCell ⟨g, 32 + i, none⟩ (.int .u8 (p i))) g rel q s p 4 4 (i + 1) := by
  have hne : ∀ j, j ≠ 32 + i → (w.setCell ⟨g, 32 + i, none⟩ (.int .u8 (p i))).cell? ⟨g, j, none⟩ = w.cell? ⟨g, j, none⟩ := fun j hj => World.cell?_setCell_other w _ _ _ (fun e => by injection e with _ e2; omega)
  refine ⟨(hne _ (by omega)).trans h.u, (hne _ (by omega)).trans h.m, (hne _ (by omega)).trans h.r, fun j hj => (hne _ (by omega)).trans (h.q j hj), fun j hj => (hne _ (by omega)).trans (h.s j hj), fun j hj => ?_, some_set h.o _ _⟩
  by_cases e : j = i
  · subst e
    obtain ⟨v, hv⟩ := Option.isSome_iff_exists.1 (h.o (32 + j) (by omega) (by omega))
    exact World.cell?_setCell_same w _ _ hv
  · exact (hne _ (by omega)).trans (h.p j (by omega))
end Go.Proofs.YthbidebcljegjaaDoor

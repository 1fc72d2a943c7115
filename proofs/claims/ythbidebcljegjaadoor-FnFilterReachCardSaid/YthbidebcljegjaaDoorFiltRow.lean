/- The simple filter of one row: the walk of the reference. -/
import Derived.Test.YthbidebcljegjaaDoorFiltRef
namespace Go.Proofs.YthbidebcljegjaaDoor
set_option linter.unusedSimpArgs false
set_option linter.unusedVariables false
open Go.RowKit

theorem Blk.cells8 {w : World} {g : Nat} {t : TypeId} {a0 a1 a2 a3 a4 a5 a6 a7 : Value} (h : Blk w g t #[a0, a1, a2, a3, a4, a5, a6, a7]) :
    (w.cell? ⟨g, 0, none⟩ = some a0 ∧ w.cell? ⟨g, 1, none⟩ = some a1 ∧ w.cell? ⟨g, 2, none⟩ = some a2 ∧ w.cell? ⟨g, 3, none⟩ = some a3 ∧ w.cell? ⟨g, 4, none⟩ = some a4 ∧ w.cell? ⟨g, 5, none⟩ = some a5 ∧ w.cell? ⟨g, 6, none⟩ = some a6 ∧ w.cell? ⟨g, 7, none⟩ = some a7) ∧
    (w.frozen? ⟨g, 0, none⟩ = false ∧ w.frozen? ⟨g, 1, none⟩ = false ∧ w.frozen? ⟨g, 2, none⟩ = false ∧ w.frozen? ⟨g, 3, none⟩ = false ∧ w.frozen? ⟨g, 4, none⟩ = false ∧ w.frozen? ⟨g, 5, none⟩ = false ∧ w.frozen? ⟨g, 6, none⟩ = false ∧ w.frozen? ⟨g, 7, none⟩ = false) :=
  ⟨⟨h.cell 0, h.cell 1, h.cell 2, h.cell 3, h.cell 4, h.cell 5, h.cell 6, h.cell 7⟩, h.frozen 0, h.frozen 1, h.frozen 2, h.frozen 3, h.frozen 4, h.frozen 5, h.frozen 6, h.frozen 7⟩

set_option maxRecDepth 100000 in
set_option maxHeartbeats 2000000 in
theorem simpleRow_any (x2 x3 x4 x5 lev : Int) (w : World) (h2 : 0 ≤ x2 ∧ x2 ≤ 255) (h3 : 0 ≤ x3 ∧ x3 ≤ 255) (h4 : 0 ≤ x4 ∧ x4 ≤ 255) (h5 : 0 ≤ x5 ∧ x5 ≤ 255) :
    Calls Tryd.prog 59 #[.agg (row8 x2 x3 x4 x5), .int .i64 lev] w fun e w' => e = .returned (.agg (row8 x2 (simpleY3 lev x2 x3 x4 x5) (simpleY4 lev x2 x3 x4 x5) x5)) ∧ Below w.heap.size w w' := by
  have k1 := fun w => isNearRef_any x2 x3 x4 x5 lev w h2 h3 h4 h5
  have k2 := fun w => common_any w x2 x3 x4 x5
  replace k2 := fun g w => common_any g x2 x3 x4 x5 w h2 h3 h4 h5
  unfold simpleY3 simpleY4
  unfold row8 at *
  cases hn : isNear lev x2 x3 x4 x5
  · rw [hn] at k1
    replace hn := hide hn
    replace k1 := hide k1
    replace k2 := hide k2
    simp only [Bool.false_eq_true, if_false]
    go_enter Tryd.func59, Tryd.ntmps59
    go_wp2_with fail
    (with_reducible refine (k1.out _).mono ?_)
    rintro e w1 ⟨rfl, hb⟩
    have B0 := Blk.below ((Blk.new w _ _).alloc _) hb (by simp; omega)
    have B1 := Blk.below (Blk.new (w.alloc _) _ _) hb (by simp)
    obtain ⟨⟨c0, c1, c2, c3, c4, c5, c6, c7⟩, _⟩ := B0.cells8
    obtain ⟨⟨d0, d1, d2, d3, d4, d5, d6, d7⟩, f0, f1, f2, f3, f4, f5, f6, f7⟩ := B1.cells8
    simp only [World.size_alloc] at d0 d1 d2 d3 d4 d5 d6 d7 f0 f1 f2 f3 f4 f5 f6 f7
    have hb1 := hide ((((Below.refl w.heap.size w).alloc (Nat.le_refl _) _).alloc (by simp) _).trans (hb.mono (by simp; omega)))
    clear B0 B1 hb
    go_wp2
    refine bodyPost_ret (v := .agg #[.int .i64 0, .int .i64 0, .int .i64 x2, .int .i64 x3, .int .i64 x4, .int .i64 x5, .int .i64 0, .int .i64 0]) (by simp [results, Tryd.results59, go_sem, d0, d1, d2, d3, d4, d5, d6, d7]) rfl ⟨rfl, ?_⟩
    exact (((((((hb1.out.setCell (by simp) _).setCell (by simp) _).setCell (by simp) _).setCell (by simp) _).setCell (by simp) _).setCell (by simp) _).setCell (by simp) _).setCell (by simp) _
  · rw [hn] at k1
    replace hn := hide hn
    replace k1 := hide k1
    replace k2 := hide k2
    simp only [if_true]
    generalize newP x2 x3 x4 x5 = y3 at *
    generalize newQ x2 x3 x4 x5 = y4 at *
    go_enter Tryd.func59, Tryd.ntmps59
    go_wp2_with fail
    (with_reducible refine (k1.out _).mono ?_)
    rintro e w1 ⟨rfl, hb⟩
    have B0 := Blk.below ((Blk.new w _ _).alloc _) hb (by simp; omega)
    have B1 := Blk.below (Blk.new (w.alloc _) _ _) hb (by simp)
    have hb1 := hide ((((Below.refl w.heap.size w).alloc (Nat.le_refl _) _).alloc (by simp) _).trans (hb.mono (by simp; omega)))
    have hsz := hb.size
    simp only [World.size_alloc] at hsz
    clear hb
    replace B0 := hide B0
    replace B1 := hide B1
    go_wp2_with fail
    (with_reducible refine (k2.out _ _ B0.out).mono ?_)
    rintro e w2 ⟨⟨y, rfl⟩, B2, hu⟩
    have B3 := Blk.upd B1.out hu (by simp)
    have hb2 := hide (hb1.out.trans (hu.below (B := w.heap.size) (by simp) (by omega)))
    obtain ⟨⟨c0, c1, c2, c3, c4, c5, c6, c7⟩, _⟩ := B2.cells8
    obtain ⟨⟨d0, d1, d2, d3, d4, d5, d6, d7⟩, f0, f1, f2, f3, f4, f5, f6, f7⟩ := B3.cells8
    simp only [World.size_alloc] at d0 d1 d2 d3 d4 d5 d6 d7 f0 f1 f2 f3 f4 f5 f6 f7
    clear B0 B1 B2 B3 hu
    go_wp2
    refine bodyPost_ret (v := .agg #[.int .i64 0, .int .i64 0, .int .i64 x2, .int .i64 y3, .int .i64 y4, .int .i64 x5, .int .i64 0, .int .i64 0]) (by simp [results, Tryd.results59, go_sem, d0, d1, d2, d3, d4, d5, d6, d7]) rfl ⟨rfl, ?_⟩
    exact (((((((hb2.out.setCell (by simp) _).setCell (by simp) _).setCell (by simp) _).setCell (by simp) _).setCell (by simp) _).setCell (by simp) _).setCell (by simp) _).setCell (by simp) _
end Go.Proofs.YthbidebcljegjaaDoor

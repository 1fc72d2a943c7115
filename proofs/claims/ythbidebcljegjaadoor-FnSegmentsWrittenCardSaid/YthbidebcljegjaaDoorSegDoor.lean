/- 'DoorSegments': the walk. -/
import Derived.Test.YthbidebcljegjaaDoorSegWalk
import Derived.Test.YthbidebcljegjaaDoorDecSix
import Derived.Test.YthbidebcljegjaaDoorRowf
import Derived.BigRegion
import Derived.Deep.RegionHeld3
namespace Go.Proofs.YthbidebcljegjaaDoor
set_option linter.unusedSimpArgs false
set_option linter.unusedVariables false
open Go.RowKit Plain

theorem ret_seg {fn : Func} {t0 t1 t2 t3 t4 t5 t6 : Tmp} {ty ty' : TypeId} (h : fn.results = #[.tmp t0, .tmp t1, .tmp t2, .cell t3 ty, .cell t4 ty, .cell t5 ty', .tmp t6]) {tmps : Array Value} {P : Program} {w : World} {a3 a4 a5 : Addr} {v0 v1 v2 v3 v4 v5 v6 : Value}
    (h0 : tmps.getD t0 undef = v0) (h1 : tmps.getD t1 undef = v1) (h2 : tmps.getD t2 undef = v2) (h3 : tmps.getD t3 undef = .pointer (some a3)) (h4 : tmps.getD t4 undef = .pointer (some a4)) (h5 : tmps.getD t5 undef = .pointer (some a5)) (h6 : tmps.getD t6 undef = v6)
    (l3 : (loadVar ty a3).run P w = .ok v3 w) (l4 : (loadVar ty a4).run P w = .ok v4 w) (l5 : (loadVar ty' a5).run P w = .ok v5 w) :
    (results fn tmps).run P w = .ok (.tuple #[v0, v1, v2, v3, v4, v5, v6]) w := by
  have e0 : tmps[t0]?.getD undef = v0 := by simpa using h0
  have e1 : tmps[t1]?.getD undef = v1 := by simpa using h1
  have e2 : tmps[t2]?.getD undef = v2 := by simpa using h2
  have e3 : tmps[t3]?.getD undef = .pointer (some a3) := by simpa using h3
  have e4 : tmps[t4]?.getD undef = .pointer (some a4) := by simpa using h4
  have e5 : tmps[t5]?.getD undef = .pointer (some a5) := by simpa using h5
  have e6 : tmps[t6]?.getD undef = v6 := by simpa using h6
  simp [results, h, e0, e1, e2, e3, e4, e5, e6, asAddr, l3, l4, l5]
theorem load_blk {P : Program} {w : World} {g : Nat} {t ty : TypeId} {cs : List Value} {d : TypeDesc} (h : Blk w g t cs.toArray) (hu : P.underlying ty = some d) (hd : d.isRow = true) (hi : (P.info? ty).map (·.size) = some cs.length) :
    (loadVar ty ⟨g, 0, none⟩).run P w = .ok (.agg cs.toArray) w :=
  run_loadVar_mid (P := P) w g 0 ty cs d (fun j v hv => by
    have h1 := h.cell j
    rw [Nat.zero_add, h1]
    simpa using hv) hu hd hi
theorem size_4i8 : (Tryd.prog.info? 78).map (·.size) = some 4 := by kernel_rfl
theorem size_3u8 : (Tryd.prog.info? 79).map (·.size) = some 3 := by kernel_rfl
theorem blk_set4 {w : World} {g : Nat} {t : TypeId} {a0 a1 a2 a3 : Value} (h : Blk w g t #[a0, a1, a2, a3]) (b0 b1 b2 b3 : Value) :
    Blk ((((w.setCell ⟨g, 0, none⟩ b0).setCell ⟨g, 1, none⟩ b1).setCell ⟨g, 2, none⟩ b2).setCell ⟨g, 3, none⟩ b3) g t #[b0, b1, b2, b3] := by
  have h0 : Blk (w.setCell ⟨g, 0, none⟩ b0) g t #[b0, a1, a2, a3] := h.set_ 0 b0
  have h1 : Blk ((w.setCell ⟨g, 0, none⟩ b0).setCell ⟨g, 1, none⟩ b1) g t #[b0, b1, a2, a3] := h0.set_ 1 b1
  have h2 : Blk (((w.setCell ⟨g, 0, none⟩ b0).setCell ⟨g, 1, none⟩ b1).setCell ⟨g, 2, none⟩ b2) g t #[b0, b1, b2, a3] := h1.set_ 2 b2
  exact h2.set_ 3 b3
theorem blk_set3 {w : World} {g : Nat} {t : TypeId} {a0 a1 a2 : Value} (h : Blk w g t #[a0, a1, a2]) (b0 b1 b2 : Value) :
    Blk (((w.setCell ⟨g, 0, none⟩ b0).setCell ⟨g, 1, none⟩ b1).setCell ⟨g, 2, none⟩ b2) g t #[b0, b1, b2] := by
  have h0 : Blk (w.setCell ⟨g, 0, none⟩ b0) g t #[b0, a1, a2] := h.set_ 0 b0
  have h1 : Blk ((w.setCell ⟨g, 0, none⟩ b0).setCell ⟨g, 1, none⟩ b1) g t #[b0, b1, a2] := h0.set_ 1 b1
  exact h1.set_ 2 b2
theorem blk_far4 {w : World} {g k : Nat} {t : TypeId} {cs : Array Value} (h : Blk w g t cs) (hk : g ≠ k) (b0 b1 b2 b3 : Value) :
    Blk ((((w.setCell ⟨k, 0, none⟩ b0).setCell ⟨k, 1, none⟩ b1).setCell ⟨k, 2, none⟩ b2).setCell ⟨k, 3, none⟩ b3) g t cs := (((h.far hk _).far hk _).far hk _).far hk _
theorem blk_far3 {w : World} {g k : Nat} {t : TypeId} {cs : Array Value} (h : Blk w g t cs) (hk : g ≠ k) (b0 b1 b2 : Value) :
    Blk (((w.setCell ⟨k, 0, none⟩ b0).setCell ⟨k, 1, none⟩ b1).setCell ⟨k, 2, none⟩ b2) g t cs := ((h.far hk _).far hk _).far hk _
theorem below_set4 {B g : Nat} {w w' : World} (h : Below B w w') (hg : B ≤ g) (b0 b1 b2 b3 : Value) :
    Below B w ((((w'.setCell ⟨g, 0, none⟩ b0).setCell ⟨g, 1, none⟩ b1).setCell ⟨g, 2, none⟩ b2).setCell ⟨g, 3, none⟩ b3) := (((h.setCell hg _).setCell hg _).setCell hg _).setCell hg _
theorem below_set3 {B g : Nat} {w w' : World} (h : Below B w w') (hg : B ≤ g) (b0 b1 b2 : Value) :
    Below B w (((w'.setCell ⟨g, 0, none⟩ b0).setCell ⟨g, 1, none⟩ b1).setCell ⟨g, 2, none⟩ b2) := ((h.setCell hg _).setCell hg _).setCell hg _

/-- What the decoder holds of segments at first. -/
def seg0 : Array Value := #[.bool false, .bool false, .bool false, .int .i8 0, .int .i8 0, .int .i8 0, .int .i8 0, .int .i8 0, .int .i8 0, .int .i8 0, .int .i8 0, .int .u8 255, .int .u8 255, .int .u8 255]
theorem seg0_built : Tryd.prog.built 99 [(5, .agg #[.int .u8 255, .int .u8 255, .int .u8 255])] = some seg0 := by kernel_rfl
theorem seg0_size : seg0.size = 14 := rfl
theorem size_seg : (Tryd.prog.info? 99).map (·.size) = some 14 := by kernel_rfl

theorem nest_gen (Z : Array Value) (hs : Z.size = 2482) (k : Nat) : (((((((((((((((Z.setIfInBounds 21 (.bool false)).setIfInBounds 22 (.bool false)).setIfInBounds 23 (.bool false)).setIfInBounds 24 (.int .i8 0)).setIfInBounds 25 (.int .i8 0)).setIfInBounds 26 (.int .i8 0)).setIfInBounds 27 (.int .i8 0)).setIfInBounds 28 (.int .i8 0)).setIfInBounds 29 (.int .i8 0)).setIfInBounds 30 (.int .i8 0)).setIfInBounds 31 (.int .i8 0)).setIfInBounds 32 (.int .u8 255)).setIfInBounds 33 (.int .u8 255)).setIfInBounds 34 (.int .u8 255)))[k]? = if 21 ≤ k ∧ k < 35 then seg0[k - 21]? else Z[k]? := by
  by_cases h : 21 ≤ k ∧ k < 35
  · rw [if_pos h]
    rcases (show k = 21 ∨ k = 22 ∨ k = 23 ∨ k = 24 ∨ k = 25 ∨ k = 26 ∨ k = 27 ∨ k = 28 ∨ k = 29 ∨ k = 30 ∨ k = 31 ∨ k = 32 ∨ k = 33 ∨ k = 34 by omega) with rfl | rfl | rfl | rfl | rfl | rfl | rfl | rfl | rfl | rfl | rfl | rfl | rfl | rfl <;> simp [Array.getElem?_setIfInBounds, hs, seg0]
  · rw [if_neg h, set_ne _ _ _ _ (by omega), set_ne _ _ _ _ (by omega), set_ne _ _ _ _ (by omega), set_ne _ _ _ _ (by omega), set_ne _ _ _ _ (by omega), set_ne _ _ _ _ (by omega), set_ne _ _ _ _ (by omega), set_ne _ _ _ _ (by omega), set_ne _ _ _ _ (by omega), set_ne _ _ _ _ (by omega), set_ne _ _ _ _ (by omega), set_ne _ _ _ _ (by omega), set_ne _ _ _ _ (by omega), set_ne _ _ _ _ (by omega)]
theorem nest_size : (((((((((((((((Tryd.zeroCells126.setIfInBounds 21 (.bool false)).setIfInBounds 22 (.bool false)).setIfInBounds 23 (.bool false)).setIfInBounds 24 (.int .i8 0)).setIfInBounds 25 (.int .i8 0)).setIfInBounds 26 (.int .i8 0)).setIfInBounds 27 (.int .i8 0)).setIfInBounds 28 (.int .i8 0)).setIfInBounds 29 (.int .i8 0)).setIfInBounds 30 (.int .i8 0)).setIfInBounds 31 (.int .i8 0)).setIfInBounds 32 (.int .u8 255)).setIfInBounds 33 (.int .u8 255)).setIfInBounds 34 (.int .u8 255))).size = 2482 := by
  simp only [Array.size_setIfInBounds]
  exact dz_size
theorem nest_at (k : Nat) : (((((((((((((((Tryd.zeroCells126.setIfInBounds 21 (.bool false)).setIfInBounds 22 (.bool false)).setIfInBounds 23 (.bool false)).setIfInBounds 24 (.int .i8 0)).setIfInBounds 25 (.int .i8 0)).setIfInBounds 26 (.int .i8 0)).setIfInBounds 27 (.int .i8 0)).setIfInBounds 28 (.int .i8 0)).setIfInBounds 29 (.int .i8 0)).setIfInBounds 30 (.int .i8 0)).setIfInBounds 31 (.int .i8 0)).setIfInBounds 32 (.int .u8 255)).setIfInBounds 33 (.int .u8 255)).setIfInBounds 34 (.int .u8 255)))[k]? = if 21 ≤ k ∧ k < 35 then seg0[k - 21]? else zcells[k]? := by
  rw [← zc_eq]
  exact nest_gen _ dz_size k
theorem nest_fp (i : Nat) (h : i < 6) : (((((((((((((((Tryd.zeroCells126.setIfInBounds 21 (.bool false)).setIfInBounds 22 (.bool false)).setIfInBounds 23 (.bool false)).setIfInBounds 24 (.int .i8 0)).setIfInBounds 25 (.int .i8 0)).setIfInBounds 26 (.int .i8 0)).setIfInBounds 27 (.int .i8 0)).setIfInBounds 28 (.int .i8 0)).setIfInBounds 29 (.int .i8 0)).setIfInBounds 30 (.int .i8 0)).setIfInBounds 31 (.int .i8 0)).setIfInBounds 32 (.int .u8 255)).setIfInBounds 33 (.int .u8 255)).setIfInBounds 34 (.int .u8 255)))[51 + i]? = ([.slice none 0 0, .int .i64 0, .int .u32 0, .int .u32 0, .int .u8 0, .bool false] : List Value)[i]? := by
  rw [nest_at, if_neg (by omega)]
  exact zc_fp i h
theorem dec_fresh (W : World) : DAt (W.alloc (.cells (((((((((((((((Tryd.zeroCells126.setIfInBounds 21 (.bool false)).setIfInBounds 22 (.bool false)).setIfInBounds 23 (.bool false)).setIfInBounds 24 (.int .i8 0)).setIfInBounds 25 (.int .i8 0)).setIfInBounds 26 (.int .i8 0)).setIfInBounds 27 (.int .i8 0)).setIfInBounds 28 (.int .i8 0)).setIfInBounds 29 (.int .i8 0)).setIfInBounds 30 (.int .i8 0)).setIfInBounds 31 (.int .i8 0)).setIfInBounds 32 (.int .u8 255)).setIfInBounds 33 (.int .u8 255)).setIfInBounds 34 (.int .u8 255))) 126)) W.heap.size 51 none 0 0 ⟨0, 0, 0, 0⟩ false ∧
    (∀ j, 21 ≤ j → j < 35 → ((W.alloc (.cells (((((((((((((((Tryd.zeroCells126.setIfInBounds 21 (.bool false)).setIfInBounds 22 (.bool false)).setIfInBounds 23 (.bool false)).setIfInBounds 24 (.int .i8 0)).setIfInBounds 25 (.int .i8 0)).setIfInBounds 26 (.int .i8 0)).setIfInBounds 27 (.int .i8 0)).setIfInBounds 28 (.int .i8 0)).setIfInBounds 29 (.int .i8 0)).setIfInBounds 30 (.int .i8 0)).setIfInBounds 31 (.int .i8 0)).setIfInBounds 32 (.int .u8 255)).setIfInBounds 33 (.int .u8 255)).setIfInBounds 34 (.int .u8 255))) 126)).cell? ⟨W.heap.size, j, none⟩).isSome = true) ∧ (∀ j, (W.alloc (.cells (((((((((((((((Tryd.zeroCells126.setIfInBounds 21 (.bool false)).setIfInBounds 22 (.bool false)).setIfInBounds 23 (.bool false)).setIfInBounds 24 (.int .i8 0)).setIfInBounds 25 (.int .i8 0)).setIfInBounds 26 (.int .i8 0)).setIfInBounds 27 (.int .i8 0)).setIfInBounds 28 (.int .i8 0)).setIfInBounds 29 (.int .i8 0)).setIfInBounds 30 (.int .i8 0)).setIfInBounds 31 (.int .i8 0)).setIfInBounds 32 (.int .u8 255)).setIfInBounds 33 (.int .u8 255)).setIfInBounds 34 (.int .u8 255))) 126)).frozen? ⟨W.heap.size, j, none⟩ = false) := by
  have hB := Blk.new W 126 (((((((((((((((Tryd.zeroCells126.setIfInBounds 21 (.bool false)).setIfInBounds 22 (.bool false)).setIfInBounds 23 (.bool false)).setIfInBounds 24 (.int .i8 0)).setIfInBounds 25 (.int .i8 0)).setIfInBounds 26 (.int .i8 0)).setIfInBounds 27 (.int .i8 0)).setIfInBounds 28 (.int .i8 0)).setIfInBounds 29 (.int .i8 0)).setIfInBounds 30 (.int .i8 0)).setIfInBounds 31 (.int .i8 0)).setIfInBounds 32 (.int .u8 255)).setIfInBounds 33 (.int .u8 255)).setIfInBounds 34 (.int .u8 255)))
  have hc := fun i h => (hB.cell (51 + i)).trans (nest_fp i h)
  refine ⟨⟨hc 0 (by decide), hc 1 (by decide), hc 2 (by decide), hc 3 (by decide), hc 4 (by decide), hc 5 (by decide), hB.frozen _, hB.frozen _, hB.frozen _, hB.frozen _, hB.frozen _, hB.frozen _⟩, fun j h1 h2 => ?_, fun j => hB.frozen j⟩
  rw [hB.cell j, Array.getElem?_eq_getElem (by rw [nest_size]; omega)]
  rfl

set_option maxRecDepth 100000 in
set_option maxHeartbeats 8000000 in
theorem doorSeg_any (A : Option Addr) (cap : Nat) (bytes : List Nat) (rel : Bool) (q s : Nat → Int) (p : Nat → Nat) (w : World) (hb : IsBy bytes) (hlen : (bytes.length : Int) ≤ 100000000) (hp : ∀ j, p j ≤ 255)
    (hc : Codes bytes Iv.start (segE rel q s p)) (hpr : Probs (segE rel q s p)) (hR : Rd .u8 w w.heap.size A (ofN bytes)) (hT : Luts w) :
    Calls Tryd.prog 44 #[.slice A bytes.length cap] w fun e w' => e = .returned (.tuple #[.bool true, .bool true, .bool rel,
      .agg #[.int .i8 (optV (q 0) 7), .int .i8 (optV (q 1) 7), .int .i8 (optV (q 2) 7), .int .i8 (optV (q 3) 7)],
      .agg #[.int .i8 (optV (s 0) 6), .int .i8 (optV (s 1) 6), .int .i8 (optV (s 2) 6), .int .i8 (optV (s 3) 6)],
      .agg #[.int .u8 (p 0), .int .u8 (p 1), .int .u8 (p 2)], .bool false]) ∧ Below w.heap.size w w' := by
  have hTl := hT.lt
  obtain ⟨wa, hwa⟩ : ∃ wa, wa = ((w.alloc (.cells #[.int .i8 0, .int .i8 0, .int .i8 0, .int .i8 0] 78)).alloc (.cells #[.int .i8 0, .int .i8 0, .int .i8 0, .int .i8 0] 78)).alloc (.cells #[.int .u8 0, .int .u8 0, .int .u8 0] 79) := ⟨_, rfl⟩
  have hsa : wa.heap.size = w.heap.size + 1 + 1 + 1 := by rw [hwa]; simp
  have hba : Below w.heap.size w wa := by rw [hwa]; exact (((Below.refl w.heap.size w).alloc (Nat.le_refl _) _).alloc (by simp) _).alloc (by simp; omega) _
  have r0 : Blk wa w.heap.size 78 #[.int .i8 0, .int .i8 0, .int .i8 0, .int .i8 0] := by rw [hwa]; exact ((Blk.new w _ _).alloc _).alloc _
  have r1 : Blk wa (w.heap.size + 1) 78 #[.int .i8 0, .int .i8 0, .int .i8 0, .int .i8 0] := by
    have h := Blk.new (w.alloc (.cells #[.int .i8 0, .int .i8 0, .int .i8 0, .int .i8 0] 78)) 78 #[.int .i8 0, .int .i8 0, .int .i8 0, .int .i8 0]
    rw [World.size_alloc] at h
    rw [hwa]
    exact h.alloc _
  have r2 : Blk wa (w.heap.size + 1 + 1) 79 #[.int .u8 0, .int .u8 0, .int .u8 0] := by
    have h := Blk.new ((w.alloc (.cells #[.int .i8 0, .int .i8 0, .int .i8 0, .int .i8 0] 78)).alloc (.cells #[.int .i8 0, .int .i8 0, .int .i8 0, .int .i8 0] 78)) 79 #[.int .u8 0, .int .u8 0, .int .u8 0]
    rw [World.size_alloc, World.size_alloc] at h
    rw [hwa]
    exact h
  obtain ⟨hD, hH, hF⟩ := dec_fresh wa
  have hb1 := hide (hba.alloc (by omega) (.cells (((((((((((((((Tryd.zeroCells126.setIfInBounds 21 (.bool false)).setIfInBounds 22 (.bool false)).setIfInBounds 23 (.bool false)).setIfInBounds 24 (.int .i8 0)).setIfInBounds 25 (.int .i8 0)).setIfInBounds 26 (.int .i8 0)).setIfInBounds 27 (.int .i8 0)).setIfInBounds 28 (.int .i8 0)).setIfInBounds 29 (.int .i8 0)).setIfInBounds 30 (.int .i8 0)).setIfInBounds 31 (.int .i8 0)).setIfInBounds 32 (.int .u8 255)).setIfInBounds 33 (.int .u8 255)).setIfInBounds 34 (.int .u8 255))) 126))
  have q0 := hide (r0.alloc (.cells (((((((((((((((Tryd.zeroCells126.setIfInBounds 21 (.bool false)).setIfInBounds 22 (.bool false)).setIfInBounds 23 (.bool false)).setIfInBounds 24 (.int .i8 0)).setIfInBounds 25 (.int .i8 0)).setIfInBounds 26 (.int .i8 0)).setIfInBounds 27 (.int .i8 0)).setIfInBounds 28 (.int .i8 0)).setIfInBounds 29 (.int .i8 0)).setIfInBounds 30 (.int .i8 0)).setIfInBounds 31 (.int .i8 0)).setIfInBounds 32 (.int .u8 255)).setIfInBounds 33 (.int .u8 255)).setIfInBounds 34 (.int .u8 255))) 126))
  have q1 := hide (r1.alloc (.cells (((((((((((((((Tryd.zeroCells126.setIfInBounds 21 (.bool false)).setIfInBounds 22 (.bool false)).setIfInBounds 23 (.bool false)).setIfInBounds 24 (.int .i8 0)).setIfInBounds 25 (.int .i8 0)).setIfInBounds 26 (.int .i8 0)).setIfInBounds 27 (.int .i8 0)).setIfInBounds 28 (.int .i8 0)).setIfInBounds 29 (.int .i8 0)).setIfInBounds 30 (.int .i8 0)).setIfInBounds 31 (.int .i8 0)).setIfInBounds 32 (.int .u8 255)).setIfInBounds 33 (.int .u8 255)).setIfInBounds 34 (.int .u8 255))) 126))
  have q2 := hide (r2.alloc (.cells (((((((((((((((Tryd.zeroCells126.setIfInBounds 21 (.bool false)).setIfInBounds 22 (.bool false)).setIfInBounds 23 (.bool false)).setIfInBounds 24 (.int .i8 0)).setIfInBounds 25 (.int .i8 0)).setIfInBounds 26 (.int .i8 0)).setIfInBounds 27 (.int .i8 0)).setIfInBounds 28 (.int .i8 0)).setIfInBounds 29 (.int .i8 0)).setIfInBounds 30 (.int .i8 0)).setIfInBounds 31 (.int .i8 0)).setIfInBounds 32 (.int .u8 255)).setIfInBounds 33 (.int .u8 255)).setIfInBounds 34 (.int .u8 255))) 126))
  have hst : Hid ((wa.alloc (.cells (((((((((((((((Tryd.zeroCells126.setIfInBounds 21 (.bool false)).setIfInBounds 22 (.bool false)).setIfInBounds 23 (.bool false)).setIfInBounds 24 (.int .i8 0)).setIfInBounds 25 (.int .i8 0)).setIfInBounds 26 (.int .i8 0)).setIfInBounds 27 (.int .i8 0)).setIfInBounds 28 (.int .i8 0)).setIfInBounds 29 (.int .i8 0)).setIfInBounds 30 (.int .i8 0)).setIfInBounds 31 (.int .i8 0)).setIfInBounds 32 (.int .u8 255)).setIfInBounds 33 (.int .u8 255)).setIfInBounds 34 (.int .u8 255))) 126)).heap.size = w.heap.size + 1 + 1 + 1 + 1) := hide (by rw [World.size_alloc, hsa])
  have cI := init_any wa.heap.size 51 A none bytes.length cap 0 0 _ _ _ hD
  rw [hsa] at cI hH hF
  replace cI := hide cI
  replace hH := hide hH
  replace hF := hide hF
  replace hR := hide hR
  replace hT := hide hT
  replace hc := hide hc
  replace hpr := hide hpr
  replace hb := hide hb
  replace hp := hide hp
  replace hsa := hide hsa
  clear hD hba r0 r1 r2
  go_enter Tryd.func44, Tryd.ntmps44
  go_wp2_with fail
  rw [← hwa]
  clear hwa
  (with_reducible refine (cI.out).mono ?_)
  rintro e w1 ⟨rfl, hD1, hO1⟩
  have hH1 : ∀ j, 21 ≤ j → j < 35 → (w1.cell? ⟨w.heap.size + 1 + 1 + 1, j, none⟩).isSome = true := by
    intro j h1 h2
    rw [hO1.cell _ (by simp; omega)]
    exact hH.out j h1 h2
  have hF1 : ∀ j, w1.frozen? ⟨w.heap.size + 1 + 1 + 1, j, none⟩ = false := fun j => (hO1.frozen _).trans (hF.out j)
  have hb2 := hide (hb1.out.trans (hO1.upd.below (by simp; omega) (by rw [hst.out]; omega)))
  have q0' := hide (q0.out.upd hO1.upd (by simp; omega))
  have q1' := hide (q1.out.upd hO1.upd (by simp))
  have q2' := hide (q2.out.upd hO1.upd (by simp))
  have hs1 : Hid (w1.heap.size = w.heap.size + 1 + 1 + 1 + 1) := hide (hO1.size.trans hst.out)
  have R1 : Rdr w1 (w.heap.size + 1 + 1 + 1) 51 A cap bytes [] (segE rel q s p) :=
    ⟨hD1, DS.start_tells bytes, srcOf (hR.out.below hb2.out) (by omega), hT.out.below hb2.out hTl, hb.out, hlen, hc.out, hpr.out, by omega⟩
  have cP := hide (segHead_any (w.heap.size + 1 + 1 + 1) A cap bytes rel q s p w1 hp.out hH1 hF1 R1)
  clear hD1 hO1 hH1 R1 q0 q1 q2 hb1 hst hH hF cI hR hT hc hpr hb
  go_wp2_with fail
  (with_reducible refine (cP.out).mono ?_)
  rintro e w2 ⟨rfl, hS, hO2, hR2⟩
  have hb3 := hide (hb2.out.trans (hO2.upd.below (by simp; omega) (by rw [hs1.out]; omega)))
  have p0 := hide (q0'.out.upd hO2.upd (by simp; omega))
  have p1 := hide (q1'.out.upd hO2.upd (by simp))
  have p2 := hide (q2'.out.upd hO2.upd (by simp))
  have hs2 : Hid (w2.heap.size = w.heap.size + 1 + 1 + 1 + 1) := hide (hO2.size.trans hs1.out)
  have he := hR2.D.c5
  clear hR2 hO2 q0' q1' q2' hb2 hs1 cP
  have hrg : w2.rangeAt (w.heap.size + 1 + 1 + 1) 21 [.bool true, .bool true, .bool rel, .int .i8 (optV (q 0) 7), .int .i8 (optV (q 1) 7), .int .i8 (optV (q 2) 7), .int .i8 (optV (q 3) 7), .int .i8 (optV (s 0) 6), .int .i8 (optV (s 1) 6), .int .i8 (optV (s 2) 6), .int .i8 (optV (s 3) 6), .int .u8 (p 0), .int .u8 (p 1), .int .u8 (p 2)] := by
    intro j v hv
    rcases (show j = 0 ∨ j = 1 ∨ j = 2 ∨ j = 3 ∨ j = 4 ∨ j = 5 ∨ j = 6 ∨ j = 7 ∨ j = 8 ∨ j = 9 ∨ j = 10 ∨ j = 11 ∨ j = 12 ∨ j = 13 ∨ 14 ≤ j by omega) with rfl | rfl | rfl | rfl | rfl | rfl | rfl | rfl | rfl | rfl | rfl | rfl | rfl | rfl | h
    · injection hv with hv; subst hv; exact hS.u
    · injection hv with hv; subst hv; exact hS.m
    · injection hv with hv; subst hv; exact hS.r
    · injection hv with hv; subst hv; exact hS.q 0 (by decide)
    · injection hv with hv; subst hv; exact hS.q 1 (by decide)
    · injection hv with hv; subst hv; exact hS.q 2 (by decide)
    · injection hv with hv; subst hv; exact hS.q 3 (by decide)
    · injection hv with hv; subst hv; exact hS.s 0 (by decide)
    · injection hv with hv; subst hv; exact hS.s 1 (by decide)
    · injection hv with hv; subst hv; exact hS.s 2 (by decide)
    · injection hv with hv; subst hv; exact hS.s 3 (by decide)
    · injection hv with hv; subst hv; exact hS.p 0 (by decide)
    · injection hv with hv; subst hv; exact hS.p 1 (by decide)
    · injection hv with hv; subst hv; exact hS.p 2 (by decide)
    · rw [List.getElem?_eq_none (by simpa using h)] at hv; cases hv
  replace hrg := hide hrg
  clear hS
  go_wp2_with (first | (refine wpList_load_mid rfl 99 (.tmp 24) rfl (w.heap.size + 1 + 1 + 1) 21 rfl _ _ hrg.out Tryd.underlying99 rfl size_seg ?_) | fail)
  generalize hq0 : optV (q 0) 7 = q0 at *
  replace hq0 := hide hq0
  generalize hq1 : optV (q 1) 7 = q1 at *
  replace hq1 := hide hq1
  generalize hq2 : optV (q 2) 7 = q2 at *
  replace hq2 := hide hq2
  generalize hq3 : optV (q 3) 7 = q3 at *
  replace hq3 := hide hq3
  generalize hs0 : optV (s 0) 6 = s0 at *
  replace hs0 := hide hs0
  generalize hs1 : optV (s 1) 6 = s1 at *
  replace hs1 := hide hs1
  generalize hs2' : optV (s 2) 6 = s2 at *
  replace hs2' := hide hs2'
  generalize hs3 : optV (s 3) 6 = s3 at *
  replace hs3 := hide hs3
  have hN := Blk.new w2 99 #[.bool true, .bool true, .bool rel, .int .i8 q0, .int .i8 q1, .int .i8 q2, .int .i8 q3, .int .i8 s0, .int .i8 s1, .int .i8 s2, .int .i8 s3, .int .u8 (p 0), .int .u8 (p 1), .int .u8 (p 2)]
  have hn := hs2.out
  have z0 := p0.out.alloc (.cells #[.bool true, .bool true, .bool rel, .int .i8 q0, .int .i8 q1, .int .i8 q2, .int .i8 q3, .int .i8 s0, .int .i8 s1, .int .i8 s2, .int .i8 s3, .int .u8 (p 0), .int .u8 (p 1), .int .u8 (p 2)] 99)
  have z1 := p1.out.alloc (.cells #[.bool true, .bool true, .bool rel, .int .i8 q0, .int .i8 q1, .int .i8 q2, .int .i8 q3, .int .i8 s0, .int .i8 s1, .int .i8 s2, .int .i8 s3, .int .u8 (p 0), .int .u8 (p 1), .int .u8 (p 2)] 99)
  have z2 := p2.out.alloc (.cells #[.bool true, .bool true, .bool rel, .int .i8 q0, .int .i8 q1, .int .i8 q2, .int .i8 q3, .int .i8 s0, .int .i8 s1, .int .i8 s2, .int .i8 s3, .int .u8 (p 0), .int .u8 (p 1), .int .u8 (p 2)] 99)
  have he3 := (World.cell?_alloc_lt w2 (.cells #[.bool true, .bool true, .bool rel, .int .i8 q0, .int .i8 q1, .int .i8 q2, .int .i8 q3, .int .i8 s0, .int .i8 s1, .int .i8 s2, .int .i8 s3, .int .u8 (p 0), .int .u8 (p 1), .int .u8 (p 2)] 99) ⟨w.heap.size + 1 + 1 + 1, 56, none⟩ (by show w.heap.size + 1 + 1 + 1 < w2.heap.size; omega)).trans he
  have hb5 := hide (hb3.out.alloc (by omega) (.cells #[.bool true, .bool true, .bool rel, .int .i8 q0, .int .i8 q1, .int .i8 q2, .int .i8 q3, .int .i8 s0, .int .i8 s1, .int .i8 s2, .int .i8 s3, .int .u8 (p 0), .int .u8 (p 1), .int .u8 (p 2)] 99))
  clear hs2 hb3 p0 p1 p2 he hrg
  generalize hN2 : w2.heap.size = N at *
  generalize w2.alloc (.cells #[.bool true, .bool true, .bool rel, .int .i8 q0, .int .i8 q1, .int .i8 q2, .int .i8 q3, .int .i8 s0, .int .i8 s1, .int .i8 s2, .int .i8 s3, .int .u8 (p 0), .int .u8 (p 1), .int .u8 (p 2)] 99) = w3 at *
  have x00 := z0.cell 0
  have x01 := z0.cell 1
  have x02 := z0.cell 2
  have x03 := z0.cell 3
  have x10 := z1.cell 0
  have x11 := z1.cell 1
  have x12 := z1.cell 2
  have x13 := z1.cell 3
  have x20 := z2.cell 0
  have x21 := z2.cell 1
  have x22 := z2.cell 2
  have y0 := z0.frozen
  have y1 := z1.frozen
  have y2 := z2.frozen
  have c0 := hN.cell 0
  have c1 := hN.cell 1
  have c2 := hN.cell 2
  have c3 := hN.cell 3
  have c4 := hN.cell 4
  have c5 := hN.cell 5
  have c6 := hN.cell 6
  have c7 := hN.cell 7
  have c8 := hN.cell 8
  have c9 := hN.cell 9
  have c10 := hN.cell 10
  have c11 := hN.cell 11
  have c12 := hN.cell 12
  have c13 := hN.cell 13
  have m0 : ¬ w.heap.size = N := by omega
  have m1 : ¬ w.heap.size + 1 = N := by omega
  have m2 : ¬ w.heap.size + 1 + 1 = N := by omega
  have m3 : ¬ w.heap.size + 1 + 1 + 1 = N := by omega
  have m0' : ¬ N = w.heap.size := by omega
  have m1' : ¬ N = w.heap.size + 1 := by omega
  have m2' : ¬ N = w.heap.size + 1 + 1 := by omega
  have m3' : ¬ N = w.heap.size + 1 + 1 + 1 := by omega
  have t0 : ¬ w.heap.size + 1 + 1 + 1 = w.heap.size := by omega
  have t1 : ¬ w.heap.size + 1 + 1 + 1 = w.heap.size + 1 := by omega
  have t2 : ¬ w.heap.size + 1 + 1 + 1 = w.heap.size + 1 + 1 := by omega
  have t0' : ¬ w.heap.size = w.heap.size + 1 + 1 + 1 := by omega
  have t1' : ¬ w.heap.size + 1 = w.heap.size + 1 + 1 + 1 := by omega
  have t2' : ¬ w.heap.size + 1 + 1 = w.heap.size + 1 + 1 + 1 := by omega
  have z0' := hide z0
  have z1' := hide z1
  have z2' := hide z2
  clear z0 z1 z2 hN hN2 hn hF1
  go_region_held3 (fun W => W.cell? ⟨N, 0, none⟩ = some (.bool true) ∧ W.cell? ⟨N, 1, none⟩ = some (.bool true) ∧ W.cell? ⟨N, 2, none⟩ = some (.bool rel) ∧ W.cell? ⟨N, 3, none⟩ = some (.int .i8 q0) ∧ W.cell? ⟨N, 4, none⟩ = some (.int .i8 q1) ∧ W.cell? ⟨N, 5, none⟩ = some (.int .i8 q2) ∧ W.cell? ⟨N, 6, none⟩ = some (.int .i8 q3) ∧ W.cell? ⟨N, 7, none⟩ = some (.int .i8 s0) ∧ W.cell? ⟨N, 8, none⟩ = some (.int .i8 s1) ∧ W.cell? ⟨N, 9, none⟩ = some (.int .i8 s2) ∧ W.cell? ⟨N, 10, none⟩ = some (.int .i8 s3) ∧ W.cell? ⟨N, 11, none⟩ = some (.int .u8 ↑(p 0)) ∧ W.cell? ⟨N, 12, none⟩ = some (.int .u8 ↑(p 1)) ∧ W.cell? ⟨N, 13, none⟩ = some (.int .u8 ↑(p 2)) ∧ W.cell? ⟨w.heap.size + 1 + 1 + 1, 56, none⟩ = some (.bool false)) (first | go_keep) (first | fail)
  go_wp2
  have L0 := load_blk (P := Tryd.prog) (cs := [.int .i8 q0, .int .i8 q1, .int .i8 q2, .int .i8 q3]) (Blk.drewN (blk_far3 (blk_far4 (blk_set4 z0'.out (.int .i8 q0) (.int .i8 q1) (.int .i8 q2) (.int .i8 q3)) (k := w.heap.size + 1) (by omega) (.int .i8 s0) (.int .i8 s1) (.int .i8 s2) (.int .i8 s3)) (k := w.heap.size + 1 + 1) (by omega) (.int .u8 (p 0)) (.int .u8 (p 1)) (.int .u8 (p 2))) 1) Tryd.underlying78 rfl size_4i8
  have L1 := load_blk (P := Tryd.prog) (cs := [.int .i8 s0, .int .i8 s1, .int .i8 s2, .int .i8 s3]) (Blk.drewN (blk_far3 (blk_set4 (blk_far4 z1'.out (k := w.heap.size) (by omega) (.int .i8 q0) (.int .i8 q1) (.int .i8 q2) (.int .i8 q3)) (.int .i8 s0) (.int .i8 s1) (.int .i8 s2) (.int .i8 s3)) (k := w.heap.size + 1 + 1) (by omega) (.int .u8 (p 0)) (.int .u8 (p 1)) (.int .u8 (p 2))) 1) Tryd.underlying78 rfl size_4i8
  have L2 := load_blk (P := Tryd.prog) (cs := [.int .u8 (p 0), .int .u8 (p 1), .int .u8 (p 2)]) (Blk.drewN (blk_set3 (blk_far4 (blk_far4 z2'.out (k := w.heap.size) (by omega) (.int .i8 q0) (.int .i8 q1) (.int .i8 q2) (.int .i8 q3)) (k := w.heap.size + 1) (by omega) (.int .i8 s0) (.int .i8 s1) (.int .i8 s2) (.int .i8 s3)) (.int .u8 (p 0)) (.int .u8 (p 1)) (.int .u8 (p 2))) 1) Tryd.underlying79 rfl size_3u8
  refine bodyPost_ret (v := .tuple #[.bool true, .bool true, .bool rel, .agg #[.int .i8 q0, .int .i8 q1, .int .i8 q2, .int .i8 q3], .agg #[.int .i8 s0, .int .i8 s1, .int .i8 s2, .int .i8 s3], .agg #[.int .u8 (p 0), .int .u8 (p 1), .int .u8 (p 2)], .bool false]) (ret_seg rfl rfl rfl rfl rfl rfl rfl rfl L0 L1 L2) rfl ⟨by rw [hq0.out, hq1.out, hq2.out, hq3.out, hs0.out, hs1.out, hs2'.out, hs3.out], (below_set3 (below_set4 (below_set4 hb5.out (by omega) _ _ _ _) (by omega) _ _ _ _) (by omega) _ _ _).drew⟩
end Go.Proofs.YthbidebcljegjaaDoor

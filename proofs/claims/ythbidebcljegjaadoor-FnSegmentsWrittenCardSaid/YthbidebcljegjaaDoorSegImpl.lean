/- 'impl.four' and 'impl.SegmentsOf': the walks. -/
import Derived.Test.YthbidebcljegjaaDoorSegDoor
namespace Go.Proofs.YthbidebcljegjaaDoor
set_option linter.unusedSimpArgs false
set_option linter.unusedVariables false
open Go.RowKit Plain

theorem size_4int : (Tryd.prog.info? 46).map (·.size) = some 4 := by kernel_rfl
set_option maxRecDepth 100000 in
set_option maxHeartbeats 2000000 in
theorem four_any (a b c d : Int) (w : World) (ha : -128 ≤ a ∧ a ≤ 127) (hb : -128 ≤ b ∧ b ≤ 127) (hc : -128 ≤ c ∧ c ≤ 127) (hd : -128 ≤ d ∧ d ≤ 127) :
    Calls Tryd.prog 45 #[.agg #[.int .i8 a, .int .i8 b, .int .i8 c, .int .i8 d]] w fun e w' => e = .returned (.agg #[.int .i64 a, .int .i64 b, .int .i64 c, .int .i64 d]) ∧ Below w.heap.size w w' := by
  obtain ⟨a1, a2⟩ := ha
  obtain ⟨b1, b2⟩ := hb
  obtain ⟨c1, c2⟩ := hc
  obtain ⟨d1, d2⟩ := hd
  have V0 : IntKind.i64.wrap a = a := IntWalk.i64_in _ (by omega)
  have V1 : IntKind.i64.wrap b = b := IntWalk.i64_in _ (by omega)
  have V2 : IntKind.i64.wrap c = c := IntWalk.i64_in _ (by omega)
  have V3 : IntKind.i64.wrap d = d := IntWalk.i64_in _ (by omega)
  go_enter Tryd.func45, Tryd.ntmps45
  go_wp2
  have hB := Blk.new (w.alloc (.cells #[.int .i8 a, .int .i8 b, .int .i8 c, .int .i8 d] 78)) 46 #[.int .i64 a, .int .i64 b, .int .i64 c, .int .i64 d]
  rw [World.size_alloc] at hB
  have L := load_blk (P := Tryd.prog) (cs := [.int .i64 a, .int .i64 b, .int .i64 c, .int .i64 d]) hB Tryd.underlying46 rfl size_4int
  exact bodyPost_ret (ret_cell rfl rfl L) rfl ⟨rfl, ((Below.refl _ _).alloc (Nat.le_refl _) _).alloc (by simp) _⟩

theorem blk_set15 {w : World} {g : Nat} {t : TypeId} {a0 a1 a2 a3 a4 a5 a6 a7 a8 a9 a10 a11 a12 a13 a14 : Value} (h : Blk w g t #[a0, a1, a2, a3, a4, a5, a6, a7, a8, a9, a10, a11, a12, a13, a14]) (b0 b1 b2 b3 b4 b5 b6 b7 b8 b9 b10 b11 b12 b13 b14 : Value) :
    Blk (((((((((((((((w.setCell ⟨g, 0, none⟩ b0).setCell ⟨g, 1, none⟩ b1).setCell ⟨g, 2, none⟩ b2).setCell ⟨g, 3, none⟩ b3).setCell ⟨g, 4, none⟩ b4).setCell ⟨g, 5, none⟩ b5).setCell ⟨g, 6, none⟩ b6).setCell ⟨g, 7, none⟩ b7).setCell ⟨g, 8, none⟩ b8).setCell ⟨g, 9, none⟩ b9).setCell ⟨g, 10, none⟩ b10).setCell ⟨g, 11, none⟩ b11).setCell ⟨g, 12, none⟩ b12).setCell ⟨g, 13, none⟩ b13).setCell ⟨g, 14, none⟩ b14) g t #[b0, b1, b2, b3, b4, b5, b6, b7, b8, b9, b10, b11, b12, b13, b14] := by
  have h0 : Blk (w.setCell ⟨g, 0, none⟩ b0) g t #[b0, a1, a2, a3, a4, a5, a6, a7, a8, a9, a10, a11, a12, a13, a14] := h.set_ 0 b0
  have h1 : Blk ((w.setCell ⟨g, 0, none⟩ b0).setCell ⟨g, 1, none⟩ b1) g t #[b0, b1, a2, a3, a4, a5, a6, a7, a8, a9, a10, a11, a12, a13, a14] := h0.set_ 1 b1
  have h2 : Blk (((w.setCell ⟨g, 0, none⟩ b0).setCell ⟨g, 1, none⟩ b1).setCell ⟨g, 2, none⟩ b2) g t #[b0, b1, b2, a3, a4, a5, a6, a7, a8, a9, a10, a11, a12, a13, a14] := h1.set_ 2 b2
  have h3 : Blk ((((w.setCell ⟨g, 0, none⟩ b0).setCell ⟨g, 1, none⟩ b1).setCell ⟨g, 2, none⟩ b2).setCell ⟨g, 3, none⟩ b3) g t #[b0, b1, b2, b3, a4, a5, a6, a7, a8, a9, a10, a11, a12, a13, a14] := h2.set_ 3 b3
  have h4 : Blk (((((w.setCell ⟨g, 0, none⟩ b0).setCell ⟨g, 1, none⟩ b1).setCell ⟨g, 2, none⟩ b2).setCell ⟨g, 3, none⟩ b3).setCell ⟨g, 4, none⟩ b4) g t #[b0, b1, b2, b3, b4, a5, a6, a7, a8, a9, a10, a11, a12, a13, a14] := h3.set_ 4 b4
  have h5 : Blk ((((((w.setCell ⟨g, 0, none⟩ b0).setCell ⟨g, 1, none⟩ b1).setCell ⟨g, 2, none⟩ b2).setCell ⟨g, 3, none⟩ b3).setCell ⟨g, 4, none⟩ b4).setCell ⟨g, 5, none⟩ b5) g t #[b0, b1, b2, b3, b4, b5, a6, a7, a8, a9, a10, a11, a12, a13, a14] := h4.set_ 5 b5
  have h6 : Blk (((((((w.setCell ⟨g, 0, none⟩ b0).setCell ⟨g, 1, none⟩ b1).setCell ⟨g, 2, none⟩ b2).setCell ⟨g, 3, none⟩ b3).setCell ⟨g, 4, none⟩ b4).setCell ⟨g, 5, none⟩ b5).setCell ⟨g, 6, none⟩ b6) g t #[b0, b1, b2, b3, b4, b5, b6, a7, a8, a9, a10, a11, a12, a13, a14] := h5.set_ 6 b6
  have h7 : Blk ((((((((w.setCell ⟨g, 0, none⟩ b0).setCell ⟨g, 1, none⟩ b1).setCell ⟨g, 2, none⟩ b2).setCell ⟨g, 3, none⟩ b3).setCell ⟨g, 4, none⟩ b4).setCell ⟨g, 5, none⟩ b5).setCell ⟨g, 6, none⟩ b6).setCell ⟨g, 7, none⟩ b7) g t #[b0, b1, b2, b3, b4, b5, b6, b7, a8, a9, a10, a11, a12, a13, a14] := h6.set_ 7 b7
  have h8 : Blk (((((((((w.setCell ⟨g, 0, none⟩ b0).setCell ⟨g, 1, none⟩ b1).setCell ⟨g, 2, none⟩ b2).setCell ⟨g, 3, none⟩ b3).setCell ⟨g, 4, none⟩ b4).setCell ⟨g, 5, none⟩ b5).setCell ⟨g, 6, none⟩ b6).setCell ⟨g, 7, none⟩ b7).setCell ⟨g, 8, none⟩ b8) g t #[b0, b1, b2, b3, b4, b5, b6, b7, b8, a9, a10, a11, a12, a13, a14] := h7.set_ 8 b8
  have h9 : Blk ((((((((((w.setCell ⟨g, 0, none⟩ b0).setCell ⟨g, 1, none⟩ b1).setCell ⟨g, 2, none⟩ b2).setCell ⟨g, 3, none⟩ b3).setCell ⟨g, 4, none⟩ b4).setCell ⟨g, 5, none⟩ b5).setCell ⟨g, 6, none⟩ b6).setCell ⟨g, 7, none⟩ b7).setCell ⟨g, 8, none⟩ b8).setCell ⟨g, 9, none⟩ b9) g t #[b0, b1, b2, b3, b4, b5, b6, b7, b8, b9, a10, a11, a12, a13, a14] := h8.set_ 9 b9
  have h10 : Blk (((((((((((w.setCell ⟨g, 0, none⟩ b0).setCell ⟨g, 1, none⟩ b1).setCell ⟨g, 2, none⟩ b2).setCell ⟨g, 3, none⟩ b3).setCell ⟨g, 4, none⟩ b4).setCell ⟨g, 5, none⟩ b5).setCell ⟨g, 6, none⟩ b6).setCell ⟨g, 7, none⟩ b7).setCell ⟨g, 8, none⟩ b8).setCell ⟨g, 9, none⟩ b9).setCell ⟨g, 10, none⟩ b10) g t #[b0, b1, b2, b3, b4, b5, b6, b7, b8, b9, b10, a11, a12, a13, a14] := h9.set_ 10 b10
  have h11 : Blk ((((((((((((w.setCell ⟨g, 0, none⟩ b0).setCell ⟨g, 1, none⟩ b1).setCell ⟨g, 2, none⟩ b2).setCell ⟨g, 3, none⟩ b3).setCell ⟨g, 4, none⟩ b4).setCell ⟨g, 5, none⟩ b5).setCell ⟨g, 6, none⟩ b6).setCell ⟨g, 7, none⟩ b7).setCell ⟨g, 8, none⟩ b8).setCell ⟨g, 9, none⟩ b9).setCell ⟨g, 10, none⟩ b10).setCell ⟨g, 11, none⟩ b11) g t #[b0, b1, b2, b3, b4, b5, b6, b7, b8, b9, b10, b11, a12, a13, a14] := h10.set_ 11 b11
  have h12 : Blk (((((((((((((w.setCell ⟨g, 0, none⟩ b0).setCell ⟨g, 1, none⟩ b1).setCell ⟨g, 2, none⟩ b2).setCell ⟨g, 3, none⟩ b3).setCell ⟨g, 4, none⟩ b4).setCell ⟨g, 5, none⟩ b5).setCell ⟨g, 6, none⟩ b6).setCell ⟨g, 7, none⟩ b7).setCell ⟨g, 8, none⟩ b8).setCell ⟨g, 9, none⟩ b9).setCell ⟨g, 10, none⟩ b10).setCell ⟨g, 11, none⟩ b11).setCell ⟨g, 12, none⟩ b12) g t #[b0, b1, b2, b3, b4, b5, b6, b7, b8, b9, b10, b11, b12, a13, a14] := h11.set_ 12 b12
  have h13 : Blk ((((((((((((((w.setCell ⟨g, 0, none⟩ b0).setCell ⟨g, 1, none⟩ b1).setCell ⟨g, 2, none⟩ b2).setCell ⟨g, 3, none⟩ b3).setCell ⟨g, 4, none⟩ b4).setCell ⟨g, 5, none⟩ b5).setCell ⟨g, 6, none⟩ b6).setCell ⟨g, 7, none⟩ b7).setCell ⟨g, 8, none⟩ b8).setCell ⟨g, 9, none⟩ b9).setCell ⟨g, 10, none⟩ b10).setCell ⟨g, 11, none⟩ b11).setCell ⟨g, 12, none⟩ b12).setCell ⟨g, 13, none⟩ b13) g t #[b0, b1, b2, b3, b4, b5, b6, b7, b8, b9, b10, b11, b12, b13, a14] := h12.set_ 13 b13
  have h14 : Blk (((((((((((((((w.setCell ⟨g, 0, none⟩ b0).setCell ⟨g, 1, none⟩ b1).setCell ⟨g, 2, none⟩ b2).setCell ⟨g, 3, none⟩ b3).setCell ⟨g, 4, none⟩ b4).setCell ⟨g, 5, none⟩ b5).setCell ⟨g, 6, none⟩ b6).setCell ⟨g, 7, none⟩ b7).setCell ⟨g, 8, none⟩ b8).setCell ⟨g, 9, none⟩ b9).setCell ⟨g, 10, none⟩ b10).setCell ⟨g, 11, none⟩ b11).setCell ⟨g, 12, none⟩ b12).setCell ⟨g, 13, none⟩ b13).setCell ⟨g, 14, none⟩ b14) g t #[b0, b1, b2, b3, b4, b5, b6, b7, b8, b9, b10, b11, b12, b13, b14] := h13.set_ 14 b14
  exact h14
theorem below_set15 {B g : Nat} {w w' : World} (h : Below B w w') (hg : B ≤ g) (b0 b1 b2 b3 b4 b5 b6 b7 b8 b9 b10 b11 b12 b13 b14 : Value) :
    Below B w (((((((((((((((w'.setCell ⟨g, 0, none⟩ b0).setCell ⟨g, 1, none⟩ b1).setCell ⟨g, 2, none⟩ b2).setCell ⟨g, 3, none⟩ b3).setCell ⟨g, 4, none⟩ b4).setCell ⟨g, 5, none⟩ b5).setCell ⟨g, 6, none⟩ b6).setCell ⟨g, 7, none⟩ b7).setCell ⟨g, 8, none⟩ b8).setCell ⟨g, 9, none⟩ b9).setCell ⟨g, 10, none⟩ b10).setCell ⟨g, 11, none⟩ b11).setCell ⟨g, 12, none⟩ b12).setCell ⟨g, 13, none⟩ b13).setCell ⟨g, 14, none⟩ b14) := (((((((((((((((h.setCell hg _).setCell hg _).setCell hg _).setCell hg _).setCell hg _).setCell hg _).setCell hg _).setCell hg _).setCell hg _).setCell hg _).setCell hg _).setCell hg _).setCell hg _).setCell hg _).setCell hg _)
/-- The fifteen cells of what is told of segments. -/
def segCells (rel : Bool) (q s : Nat → Int) (p : Nat → Nat) : List Value := [.bool true, .bool true, .bool rel, .int .i64 (optV (q 0) 7), .int .i64 (optV (q 1) 7), .int .i64 (optV (q 2) 7), .int .i64 (optV (q 3) 7),
  .int .i64 (optV (s 0) 6), .int .i64 (optV (s 1) 6), .int .i64 (optV (s 2) 6), .int .i64 (optV (s 3) 6), .int .i64 (p 0), .int .i64 (p 1), .int .i64 (p 2), .bool false]
theorem size_segs : (Tryd.prog.info? 50).map (·.size) = some 15 := by kernel_rfl

theorem keepB {W W' : World} {b o : Nat} {v : Value} (hb : Below W.heap.size W W') (h : W.cell? ⟨b, o, none⟩ = some v) : W'.cell? ⟨b, o, none⟩ = some v := (hb.cell (p := ⟨b, o, none⟩) (World.block_lt_of_cell? _ _ h)).trans h
theorem keepBlk {W W' : World} {g : Nat} {t : TypeId} {cs : Array Value} (hb : Below W.heap.size W W') (h : Blk W g t cs) : Blk W' g t cs := h.below hb h.lt
theorem keepBe {w W W' : World} (hb : Below W.heap.size W W') (h : Below w.heap.size w W) : Below w.heap.size w W' := h.trans (hb.mono h.size)
theorem drewB {W : World} {p : Addr} {v : Value} (h : W.cell? p = some v) : W.drew.cell? p = some v := h
theorem drewBlk {W : World} {g : Nat} {t : TypeId} {cs : Array Value} (h : Blk W g t cs) : Blk W.drew g t cs := h
theorem drewBe {B : Nat} {w W : World} (h : Below B w W) : Below B w W.drew := h.drew

set_option maxRecDepth 100000 in
set_option maxHeartbeats 8000000 in
theorem segmentsOf_any (A : Option Addr) (cap : Nat) (bytes : List Nat) (rel : Bool) (q s : Nat → Int) (p : Nat → Nat) (w : World) (hb : IsBy bytes) (hlen : (bytes.length : Int) ≤ 100000000) (hp : ∀ j, p j ≤ 255)
    (hc : Codes bytes Iv.start (segE rel q s p)) (hpr : Probs (segE rel q s p)) (hR : Rd .u8 w w.heap.size A (ofN bytes)) (hT : Luts w) :
    Calls Tryd.prog 27 #[.slice A bytes.length cap] w fun e w' => e = .returned (.agg (segCells rel q s p).toArray) ∧ Below w.heap.size w w' := by
  have hTl := hT.lt
  have e : ∃ Z0 : Array Value, Z0.size = 15 ∧ Z0 = #[.bool false, .bool false, .bool false, .int .i64 0, .int .i64 0, .int .i64 0, .int .i64 0, .int .i64 0, .int .i64 0, .int .i64 0, .int .i64 0, .int .i64 0, .int .i64 0, .int .i64 0, .bool false] := ⟨_, rfl, rfl⟩
  obtain ⟨Z0, hZ0, hZe⟩ := e
  have hb0 : Below w.heap.size w (w.alloc (.cells Z0 50)) := (Below.refl _ _).alloc (Nat.le_refl _) _
  have r0 := hide (Blk.new w 50 Z0)
  have cD := doorSeg_any A cap bytes rel q s p (w.alloc (.cells Z0 50)) hb hlen hp hc hpr ((hR.below hb0).more (by simp)) (hT.below hb0 hTl)
  have bq := fun j => optV_bd7 (q j)
  have bs := fun j => optV_bd6 (s j)
  replace cD := hide cD
  replace hb0 := hide hb0
  replace hp := hide hp
  replace bq := hide bq
  replace bs := hide bs
  rw [hZe] at cD hb0 r0
  clear hb hc hpr hR hT hZe hZ0
  go_enter Tryd.func27, Tryd.ntmps27
  go_wp2_with fail
  (with_reducible refine (cD.out).mono ?_)
  rintro e w1 ⟨rfl, hb1⟩
  have hsz := hb1.size
  rw [World.size_alloc] at hsz
  have r1 := hide (r0.out.below hb1 (by simp))
  have hb2 := hide (hb0.out.trans (hb1.mono (by simp)))
  clear cD hb0 hb1 r0
  go_wp2_with fail
  have Bq0 := bq.out 0
  generalize hq0 : optV (q 0) 7 = q0 at *
  replace hq0 := hide hq0
  have cq0 := Bq0.1
  have dq0 := Bq0.2
  clear Bq0
  have Bq1 := bq.out 1
  generalize hq1 : optV (q 1) 7 = q1 at *
  replace hq1 := hide hq1
  have cq1 := Bq1.1
  have dq1 := Bq1.2
  clear Bq1
  have Bq2 := bq.out 2
  generalize hq2 : optV (q 2) 7 = q2 at *
  replace hq2 := hide hq2
  have cq2 := Bq2.1
  have dq2 := Bq2.2
  clear Bq2
  have Bq3 := bq.out 3
  generalize hq3 : optV (q 3) 7 = q3 at *
  replace hq3 := hide hq3
  have cq3 := Bq3.1
  have dq3 := Bq3.2
  clear Bq3
  have Bs0 := bs.out 0
  generalize hs0 : optV (s 0) 6 = s0 at *
  replace hs0 := hide hs0
  have cs0 := Bs0.1
  have ds0 := Bs0.2
  clear Bs0
  have Bs1 := bs.out 1
  generalize hs1 : optV (s 1) 6 = s1 at *
  replace hs1 := hide hs1
  have cs1 := Bs1.1
  have ds1 := Bs1.2
  clear Bs1
  have Bs2 := bs.out 2
  generalize hs2 : optV (s 2) 6 = s2 at *
  replace hs2 := hide hs2
  have cs2 := Bs2.1
  have ds2 := Bs2.2
  clear Bs2
  have Bs3 := bs.out 3
  generalize hs3 : optV (s 3) 6 = s3 at *
  replace hs3 := hide hs3
  have cs3 := Bs3.1
  have ds3 := Bs3.2
  clear Bs3
  have P0 := hp.out 0
  have P1 := hp.out 1
  have P2 := hp.out 2
  have V0 : IntKind.i64.wrap (p 0 : Int) = (p 0 : Int) := IntWalk.i64_in _ (by omega)
  have V1 : IntKind.i64.wrap (p 1 : Int) = (p 1 : Int) := IntWalk.i64_in _ (by omega)
  have V2 : IntKind.i64.wrap (p 2 : Int) = (p 2 : Int) := IntWalk.i64_in _ (by omega)
  have cF := hide fun W => four_any q0 q1 q2 q3 W ⟨by omega, by omega⟩ ⟨by omega, by omega⟩ ⟨by omega, by omega⟩ ⟨by omega, by omega⟩
  have cG := hide fun W => four_any s0 s1 s2 s3 W ⟨by omega, by omega⟩ ⟨by omega, by omega⟩ ⟨by omega, by omega⟩ ⟨by omega, by omega⟩
  have z0 := ((Blk.new w1 78 #[.int .i8 q0, .int .i8 q1, .int .i8 q2, .int .i8 q3]).alloc (.cells #[.int .i8 s0, .int .i8 s1, .int .i8 s2, .int .i8 s3] 78)).alloc (.cells #[.int .u8 (p 0), .int .u8 (p 1), .int .u8 (p 2)] 79)
  have z1 := (Blk.new (w1.alloc (.cells #[.int .i8 q0, .int .i8 q1, .int .i8 q2, .int .i8 q3] 78)) 78 #[.int .i8 s0, .int .i8 s1, .int .i8 s2, .int .i8 s3]).alloc (.cells #[.int .u8 (p 0), .int .u8 (p 1), .int .u8 (p 2)] 79)
  have z2 := Blk.new ((w1.alloc (.cells #[.int .i8 q0, .int .i8 q1, .int .i8 q2, .int .i8 q3] 78)).alloc (.cells #[.int .i8 s0, .int .i8 s1, .int .i8 s2, .int .i8 s3] 78)) 79 #[.int .u8 (p 0), .int .u8 (p 1), .int .u8 (p 2)]
  rw [World.size_alloc] at z1
  rw [World.size_alloc, World.size_alloc] at z2
  have r3 := ((r1.out.alloc (.cells #[.int .i8 q0, .int .i8 q1, .int .i8 q2, .int .i8 q3] 78)).alloc (.cells #[.int .i8 s0, .int .i8 s1, .int .i8 s2, .int .i8 s3] 78)).alloc (.cells #[.int .u8 (p 0), .int .u8 (p 1), .int .u8 (p 2)] 79)
  have hb3 := ((hb2.out.alloc (by omega) (.cells #[.int .i8 q0, .int .i8 q1, .int .i8 q2, .int .i8 q3] 78)).alloc (by simp; omega) (.cells #[.int .i8 s0, .int .i8 s1, .int .i8 s2, .int .i8 s3] 78)).alloc (by simp; omega) (.cells #[.int .u8 (p 0), .int .u8 (p 1), .int .u8 (p 2)] 79)
  have hN : w.heap.size < w1.heap.size := by omega
  clear hb2 r1 hsz bq bs hp
  generalize w1.heap.size = N at *
  generalize ((w1.alloc (.cells #[.int .i8 q0, .int .i8 q1, .int .i8 q2, .int .i8 q3] 78)).alloc (.cells #[.int .i8 s0, .int .i8 s1, .int .i8 s2, .int .i8 s3] 78)).alloc (.cells #[.int .u8 (p 0), .int .u8 (p 1), .int .u8 (p 2)] 79) = w3 at *
  have k0 : w3.cell? ⟨N, 0, none⟩ = some (.int .i8 q0) := z0.cell 0
  have k1 : w3.cell? ⟨N, 1, none⟩ = some (.int .i8 q1) := z0.cell 1
  have k2 : w3.cell? ⟨N, 2, none⟩ = some (.int .i8 q2) := z0.cell 2
  have k3 : w3.cell? ⟨N, 3, none⟩ = some (.int .i8 q3) := z0.cell 3
  have l0 : w3.cell? ⟨N + 1, 0, none⟩ = some (.int .i8 s0) := z1.cell 0
  have l1 : w3.cell? ⟨N + 1, 1, none⟩ = some (.int .i8 s1) := z1.cell 1
  have l2 : w3.cell? ⟨N + 1, 2, none⟩ = some (.int .i8 s2) := z1.cell 2
  have l3 : w3.cell? ⟨N + 1, 3, none⟩ = some (.int .i8 s3) := z1.cell 3
  have m0 : w3.cell? ⟨N + 1 + 1, 0, none⟩ = some (.int .u8 (p 0)) := z2.cell 0
  have m1 : w3.cell? ⟨N + 1 + 1, 1, none⟩ = some (.int .u8 (p 1)) := z2.cell 1
  have m2 : w3.cell? ⟨N + 1 + 1, 2, none⟩ = some (.int .u8 (p 2)) := z2.cell 2
  clear z0 z1 z2
  replace r3 := hide r3
  replace hb3 := hide hb3
  have m0x : ¬ w.heap.size = N := by omega
  have m1x : ¬ w.heap.size = N + 1 := by omega
  have m2x : ¬ w.heap.size = N + 1 + 1 := by omega
  have m0y : ¬ N = w.heap.size := by omega
  have m1y : ¬ N + 1 = w.heap.size := by omega
  have m2y : ¬ N + 1 + 1 = w.heap.size := by omega
  go_region_held3 (fun W => W.cell? ⟨N, 0, none⟩ = some (.int .i8 q0) ∧ W.cell? ⟨N, 1, none⟩ = some (.int .i8 q1) ∧ W.cell? ⟨N, 2, none⟩ = some (.int .i8 q2) ∧ W.cell? ⟨N, 3, none⟩ = some (.int .i8 q3) ∧ W.cell? ⟨N + 1, 0, none⟩ = some (.int .i8 s0) ∧ W.cell? ⟨N + 1, 1, none⟩ = some (.int .i8 s1) ∧ W.cell? ⟨N + 1, 2, none⟩ = some (.int .i8 s2) ∧ W.cell? ⟨N + 1, 3, none⟩ = some (.int .i8 s3) ∧ W.cell? ⟨N + 1 + 1, 0, none⟩ = some (.int .u8 ↑(p 0)) ∧ W.cell? ⟨N + 1 + 1, 1, none⟩ = some (.int .u8 ↑(p 1)) ∧ W.cell? ⟨N + 1 + 1, 2, none⟩ = some (.int .u8 ↑(p 2))) (first | go_keep | (go_split_ands; (repeat' apply And.intro) <;> first | assumption | exact drewB (by assumption) | exact keepB hb' (by assumption))) (first | (go_at_call 45; first | ((with_reducible refine (cF.out _).mono ?_); rintro e w4 ⟨rfl, hb'⟩; have r4 := hide (keepBlk hb' (drewBlk r3.out)); have b4 := hide (keepBe hb' (drewBe hb3.out))) | ((with_reducible refine (cG.out _).mono ?_); rintro e w5 ⟨rfl, hb'⟩; have r5 := keepBlk hb' r4.out; have b5 := hide (keepBe hb' b4.out); have fz := r5.frozen; have x0 : w5.cell? ⟨w.heap.size, 0, none⟩ = some (.bool false) := r5.cell 0; have x1 : w5.cell? ⟨w.heap.size, 1, none⟩ = some (.bool false) := r5.cell 1; have x2 : w5.cell? ⟨w.heap.size, 2, none⟩ = some (.bool false) := r5.cell 2; have x3 : w5.cell? ⟨w.heap.size, 3, none⟩ = some (.int .i64 0) := r5.cell 3; have x4 : w5.cell? ⟨w.heap.size, 4, none⟩ = some (.int .i64 0) := r5.cell 4; have x5 : w5.cell? ⟨w.heap.size, 5, none⟩ = some (.int .i64 0) := r5.cell 5; have x6 : w5.cell? ⟨w.heap.size, 6, none⟩ = some (.int .i64 0) := r5.cell 6; have x7 : w5.cell? ⟨w.heap.size, 7, none⟩ = some (.int .i64 0) := r5.cell 7; have x8 : w5.cell? ⟨w.heap.size, 8, none⟩ = some (.int .i64 0) := r5.cell 8; have x9 : w5.cell? ⟨w.heap.size, 9, none⟩ = some (.int .i64 0) := r5.cell 9; have x10 : w5.cell? ⟨w.heap.size, 10, none⟩ = some (.int .i64 0) := r5.cell 10; have x11 : w5.cell? ⟨w.heap.size, 11, none⟩ = some (.int .i64 0) := r5.cell 11; have x12 : w5.cell? ⟨w.heap.size, 12, none⟩ = some (.int .i64 0) := r5.cell 12; have x13 : w5.cell? ⟨w.heap.size, 13, none⟩ = some (.int .i64 0) := r5.cell 13; have x14 : w5.cell? ⟨w.heap.size, 14, none⟩ = some (.bool false) := r5.cell 14; replace r5 := hide r5)))
  go_wp2
  have hB := blk_set15 r5.out (.bool true) (.bool true) (.bool rel) (.int .i64 q0) (.int .i64 q1) (.int .i64 q2) (.int .i64 q3) (.int .i64 s0) (.int .i64 s1) (.int .i64 s2) (.int .i64 s3) (.int .i64 (p 0)) (.int .i64 (p 1)) (.int .i64 (p 2)) (.bool false)
  have hBel := below_set15 b5.out (Nat.le_refl _) (.bool true) (.bool true) (.bool rel) (.int .i64 q0) (.int .i64 q1) (.int .i64 q2) (.int .i64 q3) (.int .i64 s0) (.int .i64 s1) (.int .i64 s2) (.int .i64 s3) (.int .i64 (p 0)) (.int .i64 (p 1)) (.int .i64 (p 2)) (.bool false)
  have L := load_blk (P := Tryd.prog) (cs := [.bool true, .bool true, .bool rel, .int .i64 q0, .int .i64 q1, .int .i64 q2, .int .i64 q3, .int .i64 s0, .int .i64 s1, .int .i64 s2, .int .i64 s3, .int .i64 (p 0), .int .i64 (p 1), .int .i64 (p 2), .bool false]) hB Tryd.underlying50 rfl size_segs
  refine bodyPost_ret (ret_cell rfl rfl L) rfl ⟨?_, hBel⟩
  unfold segCells
  rw [hq0.out, hq1.out, hq2.out, hq3.out, hs0.out, hs1.out, hs2.out, hs3.out]
end Go.Proofs.YthbidebcljegjaaDoor

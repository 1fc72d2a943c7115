/- 'inverseDCT4': the decoder's walk. -/
import Derived.Test.YthbidebcljegjaaDoorClip
import Derived.Test.YthbidebcljegjaaDoorWht
namespace Go.Proofs.YthbidebcljegjaaDoor
set_option linter.unusedSimpArgs false
set_option linter.unusedVariables false
open Go.RowKit Plain

/-- Between both passes, as the program lays it. -/
def mT (x : Nat → Int) (j : Nat) : Int := pT x (4 * (j % 4) + j / 4)
theorem mT_at (x : Nat → Int) (q j : Nat) (h : j < 4) : mT x (4 * q + j) = pT x (4 * j + q) := by
  have e1 : (4 * q + j) / 4 = q := by omega
  have e2 : (4 * q + j) % 4 = j := by omega
  simp [mT, e1, e2]

theorem Upd.heap {S : List Nat} {w w' w'' : World} (h : Upd S w w'') (e : w'.heap = w''.heap) (e1 : w'.os = w''.os) (e2 : w'.tape = w''.tape) (e3 : w'.output = w''.output) : Upd S w w' :=
  ⟨e1.trans h.os, e2.trans h.tape, e3.trans h.output, by rw [e]; exact h.size, fun k hk hs => by rw [e]; exact h.block k hk hs⟩
/-- Four places of one row are set. -/
def set4 (cs : Array Value) (p : Nat) (u0 u1 u2 u3 : Value) : Array Value := (((cs.setIfInBounds (p + 8) u0).setIfInBounds (p + 9) u1).setIfInBounds (p + 10) u2).setIfInBounds (p + 11) u3
theorem set4_size (cs : Array Value) (p : Nat) (u0 u1 u2 u3 : Value) : (set4 cs p u0 u1 u2 u3).size = cs.size := by simp [set4]
theorem set4_far (cs : Array Value) (j a b : Nat) (u0 u1 u2 u3 : Value) (h : a ≠ j) (hb : b < 4) : (set4 cs (1650 + (1 + j) * 32) u0 u1 u2 u3)[1650 + (32 * (1 + a) + (8 + b))]? = cs[1650 + (32 * (1 + a) + (8 + b))]? := by
  unfold set4
  rw [set_ne _ _ _ _ (by omega), set_ne _ _ _ _ (by omega), set_ne _ _ _ _ (by omega), set_ne _ _ _ _ (by omega)]
theorem set4_at (cs : Array Value) (j : Nat) (u0 u1 u2 u3 : Value) (hs : cs.size = 2482) (hj : j < 4) (G : Nat → Value) (h0 : u0 = G 0) (h1 : u1 = G 1) (h2 : u2 = G 2) (h3 : u3 = G 3) (b : Nat) (hb : b < 4) : (set4 cs (1650 + (1 + j) * 32) u0 u1 u2 u3)[1650 + (32 * (1 + j) + (8 + b))]? = some (G b) := by
  unfold set4
  rcases (show b = 0 ∨ b = 1 ∨ b = 2 ∨ b = 3 by omega) with rfl | rfl | rfl | rfl
  · rw [set_ne _ _ _ _ (by omega), set_ne _ _ _ _ (by omega), set_ne _ _ _ _ (by omega), set_eq _ _ _ _ (by omega) (by omega), h0]
  · rw [set_ne _ _ _ _ (by omega), set_ne _ _ _ _ (by omega), set_eq _ _ _ _ (by simp; omega) (by omega), h1]
  · rw [set_ne _ _ _ _ (by omega), set_eq _ _ _ _ (by simp; omega) (by omega), h2]
  · rw [set_eq _ _ _ _ (by simp; omega) (by omega), h3]

set_option maxRecDepth 100000 in
set_option maxHeartbeats 20000000 in
theorem dct_any (g : Nat) (x v : Nat → Int) (cur : Array Value) (w : World) (hx : ∀ j, -25079 ≤ x j ∧ x j ≤ 25079) (ht : ∀ j, -25079 ≤ pT x j ∧ pT x j ≤ 25079) (hv : ∀ j, 0 ≤ v j ∧ v j ≤ 255)
    (hD : Blk w g 126 cur) (hsz : cur.size = 2482) (hc : ∀ j, j < 16 → cur[1250 + j]? = some (.int .i16 (x j))) (hy : ∀ j k, j < 4 → k < 4 → cur[1650 + (32 * (1 + j) + (8 + k))]? = some (.int .u8 (v (4 * j + k)))) :
    Calls Tryd.prog 66 #[.pointer (some ⟨g, 0, none⟩), .int .i64 1, .int .i64 8, .int .i64 0] w fun e w' => e = .returned (.tuple #[]) ∧ Upd [g] w w' ∧ ∃ cur', Blk w' g 126 cur' ∧ cur'.size = 2482 ∧ ∀ j k, j < 4 → k < 4 → cur'[1650 + (32 * (1 + j) + (8 + k))]? = some (.int .u8 (clB (v (4 * j + k) + iT (pT x) (4 * j + k)))) := by
  have hg := hD.lt
  replace hD := hide hD
  replace hc := hide hc
  replace hy := hide hy
  replace hx := hide hx
  replace ht := hide ht
  replace hv := hide hv
  replace hsz := hide hsz
  go_enter Tryd.func66, Tryd.ntmps66
  go_wp2
  go_loopg [3, 9] 4 (fun k u3 u9 wr => ∃ i : Nat, k + i = 4 ∧ u3 = .int .i64 i ∧ u9 = .int .i64 i ∧ Blk wr w.heap.size 142 (rowF .i32 (fun j => if j / 4 < i then pT x (4 * (j % 4) + j / 4) else 0) 16) ∧ Below w.heap.size w wr)
  case atStart =>
    refine ⟨0, rfl, rfl, rfl, ?_, (Below.refl _ w).alloc (Nat.le_refl _) _⟩
    refine Blk.to (Blk.new w 142 _) rfl ?_
    rw [rowF_congr .i32 (G := fun _ => 0) 16 (fun i _ => if_neg (by omega))]
    rfl
  case round =>
    obtain ⟨i, hi, rfl, rfl, hM, hbel⟩ := hrel
    cases gk with
    | zero =>
      have hi4 : i = 4 := by omega
      subst hi4
      replace hM : Blk wr w.heap.size 142 (rowF .i32 (mT x) 16) := Blk.to hM rfl (rowF_congr .i32 16 (fun j hj => (if_pos (show j / 4 < 4 by omega)).symm))
      obtain ⟨w1, hw1⟩ : ∃ w1, w1 = wr := ⟨_, rfl⟩
      subst hw1
      have hD1 := hide (hD.out.below hbel hg)
      have hM1 := hide hM
      have hbel1 := hide hbel
      have hMlt := hM.lt
      clear hM hbel
      go_wp2
      go_loopg [14] 4 (fun k u14 wr => ∃ j cur', k + j = 4 ∧ u14 = .int .i64 (j : Nat) ∧ Blk wr g 126 cur' ∧ cur'.size = 2482 ∧ (∀ a b, a < j → b < 4 → cur'[1650 + (32 * (1 + a) + (8 + b))]? = some (.int .u8 (clB (v (4 * a + b) + iT (pT x) (4 * a + b))))) ∧
        (∀ a b, j ≤ a → a < 4 → b < 4 → cur'[1650 + (32 * (1 + a) + (8 + b))]? = some (.int .u8 (v (4 * a + b)))) ∧ Upd [g] w1 wr)
      case atStart => exact ⟨0, cur, rfl, rfl, hD1.out, hsz.out, fun a b h => absurd h (by omega), fun a b _ => hy.out a b, Upd.refl _ _⟩
      case round =>
        obtain ⟨j, cur', hj, rfl, hC, hCs, hCo, hCv, hU⟩ := hrel
        cases gk with
        | zero =>
          have hj4 : j = 4 := by omega
          subst hj4
          replace hU := hide hU
          replace hC := hide hC
          replace hCo := hide hCo
          replace hCv := hide hCv
          go_wp2
          go_end0
          exact ⟨rfl, (Upd.ofBelow (S := [g]) hbel1.out).trans hU.out, cur', hC.out, hCs, fun a b ha hb => hCo.out a b ha hb⟩
        | succ k =>
          have hj4 : j < 4 := by omega
          have hjj : (j : Int) < 4 := by omega
          have hj0 : (0 : Int) ≤ (j : Int) := by omega
          have hcl := fun q (hq : q < 4) => (hU.cell (p := ⟨w.heap.size, 4 * q + j, none⟩) hMlt (by simp; omega)).trans ((Blk.rowCell hM1.out (4 * q + j) (by omega)).trans (by rw [mT_at x q j hj4]))
          have k0 := hcl 0 (by omega)
          have k1 := hcl 1 (by omega)
          have k2 := hcl 2 (by omega)
          have k3 := hcl 3 (by omega)
          simp only [Nat.mul_zero, Nat.zero_add, Nat.mul_one, Nat.reduceMul, Nat.add_zero] at k0 k1 k2 k3
          have b0 := ht.out (4 * j)
          have b1 := ht.out (4 * j + 1)
          have b2 := ht.out (4 * j + 2)
          have b3 := ht.out (4 * j + 3)
          have o0 : iT (pT x) (4 * j + 0) = (pT x (4 * j) + pT x (4 * j + 2) + (sB (pT x (4 * j + 1)) + sA (pT x (4 * j + 3))) + 4) / 8 := iT_at (pT x) j 0 (by decide)
          have o1 : iT (pT x) (4 * j + 1) = (pT x (4 * j) - pT x (4 * j + 2) + (sA (pT x (4 * j + 1)) - sB (pT x (4 * j + 3))) + 4) / 8 := iT_at (pT x) j 1 (by decide)
          have o2 : iT (pT x) (4 * j + 2) = (pT x (4 * j) - pT x (4 * j + 2) - (sA (pT x (4 * j + 1)) - sB (pT x (4 * j + 3))) + 4) / 8 := iT_at (pT x) j 2 (by decide)
          have o3 : iT (pT x) (4 * j + 3) = (pT x (4 * j) + pT x (4 * j + 2) - (sB (pT x (4 * j + 1)) + sA (pT x (4 * j + 3))) + 4) / 8 := iT_at (pT x) j 3 (by decide)
          clear hcl
          generalize pT x (4 * j) = y0 at *
          generalize pT x (4 * j + 1) = y1 at *
          generalize pT x (4 * j + 2) = y2 at *
          generalize pT x (4 * j + 3) = y3 at *
          have hA1 := sA_bd y1 b1
          have hB1 := sB_bd y1 b1
          have hA3 := sA_bd y3 b3
          have hB3 := sB_bd y3 b3
          have S0 : IntKind.i32.wrap (y0 + 4) = y0 + 4 := IntWalk.i32_in _ (by omega)
          have S1 : IntKind.i32.wrap (y0 + 4 + y2) = y0 + 4 + y2 := IntWalk.i32_in _ (by omega)
          have S2 : IntKind.i32.wrap (y0 + 4 - y2) = y0 + 4 - y2 := IntWalk.i32_in _ (by omega)
          have X1 : IntKind.i32.wrap (y1 * 35468) = y1 * 35468 := IntWalk.i32_in _ (by omega)
          have X2 : IntKind.i32.wrap (y1 * 85627) = y1 * 85627 := IntWalk.i32_in _ (by omega)
          have X3 : IntKind.i32.wrap (y3 * 35468) = y3 * 35468 := IntWalk.i32_in _ (by omega)
          have X4 : IntKind.i32.wrap (y3 * 85627) = y3 * 85627 := IntWalk.i32_in _ (by omega)
          have F1 : y1 * 35468 / 65536 = sA y1 := rfl
          have F2 : y1 * 85627 / 65536 = sB y1 := rfl
          have F3 : y3 * 35468 / 65536 = sA y3 := rfl
          have F4 : y3 * 85627 / 65536 = sB y3 := rfl
          have G1 : IntKind.i32.wrap (sA y1 - sB y3) = sA y1 - sB y3 := IntWalk.i32_in _ (by omega)
          have G2 : IntKind.i32.wrap (sB y1 + sA y3) = sB y1 + sA y3 := IntWalk.i32_in _ (by omega)
          generalize sA y1 = p1 at *
          generalize sB y1 = p2 at *
          generalize sA y3 = p3 at *
          generalize sB y3 = p4 at *
          have v0b := hv.out (4 * j + 0)
          have v1b := hv.out (4 * j + 1)
          have v2b := hv.out (4 * j + 2)
          have v3b := hv.out (4 * j + 3)
          have e0 := (hC.cell _).trans (hCv j 0 (Nat.le_refl _) hj4 (by decide))
          have e1 := (hC.cell _).trans (hCv j 1 (Nat.le_refl _) hj4 (by decide))
          have e2 := (hC.cell _).trans (hCv j 2 (Nat.le_refl _) hj4 (by decide))
          have e3 := (hC.cell _).trans (hCv j 3 (Nat.le_refl _) hj4 (by decide))
          have hpl : ∀ b : Nat, 1650 + (32 * (1 + j) + (8 + b)) = 1650 + (1 + j) * 32 + (8 + b) := fun b => by omega
          rw [hpl] at e0 e1 e2 e3
          have z0 := hC.frozen (1650 + (1 + j) * 32 + (8 + 0))
          have z1 := hC.frozen (1650 + (1 + j) * 32 + (8 + 1))
          have z2 := hC.frozen (1650 + (1 + j) * 32 + (8 + 2))
          have z3 := hC.frozen (1650 + (1 + j) * 32 + (8 + 3))
          simp only [Nat.reduceAdd, Nat.add_zero] at e0 e1 e2 e3 z0 z1 z2 z3
          generalize hq0 : v (4 * j) = q0 at *
          generalize hq1 : v (4 * j + 1) = q1 at *
          generalize hq2 : v (4 * j + 2) = q2 at *
          generalize hq3 : v (4 * j + 3) = q3 at *
          have c0 := fun w => clip_any (q0 + (y0 + 4 + y2 + (p2 + p3)) / 8) w (by omega)
          have c1 := fun w => clip_any (q1 + (y0 + 4 - y2 + (p1 - p4)) / 8) w (by omega)
          have c2 := fun w => clip_any (q2 + (y0 + 4 - y2 - (p1 - p4)) / 8) w (by omega)
          have c3 := fun w => clip_any (q3 + (y0 + 4 + y2 - (p2 + p3)) / 8) w (by omega)
          have Q0 : IntKind.i32.wrap q0 = q0 := IntWalk.i32_in _ (by omega)
          have R0 : IntKind.i32.wrap (q0 + (y0 + 4 + y2 + (p2 + p3)) / 8) = q0 + (y0 + 4 + y2 + (p2 + p3)) / 8 := IntWalk.i32_in _ (by omega)
          have I0 : IntKind.i32.wrap (y0 + 4 + y2 + (p2 + p3)) = y0 + 4 + y2 + (p2 + p3) := IntWalk.i32_in _ (by omega)
          have Q1 : IntKind.i32.wrap q1 = q1 := IntWalk.i32_in _ (by omega)
          have R1 : IntKind.i32.wrap (q1 + (y0 + 4 - y2 + (p1 - p4)) / 8) = q1 + (y0 + 4 - y2 + (p1 - p4)) / 8 := IntWalk.i32_in _ (by omega)
          have I1 : IntKind.i32.wrap (y0 + 4 - y2 + (p1 - p4)) = y0 + 4 - y2 + (p1 - p4) := IntWalk.i32_in _ (by omega)
          have Q2 : IntKind.i32.wrap q2 = q2 := IntWalk.i32_in _ (by omega)
          have R2 : IntKind.i32.wrap (q2 + (y0 + 4 - y2 - (p1 - p4)) / 8) = q2 + (y0 + 4 - y2 - (p1 - p4)) / 8 := IntWalk.i32_in _ (by omega)
          have I2 : IntKind.i32.wrap (y0 + 4 - y2 - (p1 - p4)) = y0 + 4 - y2 - (p1 - p4) := IntWalk.i32_in _ (by omega)
          have Q3 : IntKind.i32.wrap q3 = q3 := IntWalk.i32_in _ (by omega)
          have R3 : IntKind.i32.wrap (q3 + (y0 + 4 + y2 - (p2 + p3)) / 8) = q3 + (y0 + 4 + y2 - (p2 + p3)) / 8 := IntWalk.i32_in _ (by omega)
          have I3 : IntKind.i32.wrap (y0 + 4 + y2 - (p2 + p3)) = y0 + 4 + y2 - (p2 + p3) := IntWalk.i32_in _ (by omega)
          have WJ : IntKind.i64.wrap (1 + (j : Int)) = 1 + (j : Int) := IntWalk.i64_in _ (by omega)
          have TJ : (1 + (j : Int)).toNat = 1 + j := by omega
          have LJ : 1 + (j : Int) < 26 := by omega
          have PJ : (0 : Int) ≤ 1 + (j : Int) := by omega
          replace hq0 := hide hq0
          replace hq1 := hide hq1
          replace hq2 := hide hq2
          replace hq3 := hide hq3
          replace c0 := hide c0
          replace c1 := hide c1
          replace c2 := hide c2
          replace c3 := hide c3
          replace o0 := hide o0
          replace o1 := hide o1
          replace o2 := hide o2
          replace o3 := hide o3
          replace hU := hide hU
          replace hC := hide hC
          replace hCo := hide hCo
          replace hCv := hide hCv
          clear hpl
          have g0 : clB (q0 + (y0 + 4 + y2 + (p2 + p3)) / 8) = clB (v (4 * j + 0) + iT (pT x) (4 * j + 0)) := by
            rw [show v (4 * j + 0) = q0 from hq0.out, o0.out]
            congr 3
            omega
          replace g0 := hide g0
          have g1 : clB (q1 + (y0 + 4 - y2 + (p1 - p4)) / 8) = clB (v (4 * j + 1) + iT (pT x) (4 * j + 1)) := by
            rw [show v (4 * j + 1) = q1 from hq1.out, o1.out]
            congr 3
            omega
          replace g1 := hide g1
          have g2 : clB (q2 + (y0 + 4 - y2 - (p1 - p4)) / 8) = clB (v (4 * j + 2) + iT (pT x) (4 * j + 2)) := by
            rw [show v (4 * j + 2) = q2 from hq2.out, o2.out]
            congr 3
            omega
          replace g2 := hide g2
          have g3 : clB (q3 + (y0 + 4 + y2 - (p2 + p3)) / 8) = clB (v (4 * j + 3) + iT (pT x) (4 * j + 3)) := by
            rw [show v (4 * j + 3) = q3 from hq3.out, o3.out]
            congr 3
            omega
          replace g3 := hide g3
          clear o0 o1 o2 o3 hq0 hq1 hq2 hq3
          go_wp2
          go_quiet (fail)
          go_wp2
          go_quiet (fail)
          go_wp2
          go_region_with (go_at_call 81; first | ((with_reducible refine (c0.out _).mono ?_); rintro e w' ⟨rfl, rfl⟩) | ((with_reducible refine (c1.out _).mono ?_); rintro e w' ⟨rfl, rfl⟩) | ((with_reducible refine (c2.out _).mono ?_); rintro e w' ⟨rfl, rfl⟩) | ((with_reducible refine (c3.out _).mono ?_); rintro e w' ⟨rfl, rfl⟩))
          go_wp2
          go_region_with (go_at_call 81; first | ((with_reducible refine (c0.out _).mono ?_); rintro e w' ⟨rfl, rfl⟩) | ((with_reducible refine (c1.out _).mono ?_); rintro e w' ⟨rfl, rfl⟩) | ((with_reducible refine (c2.out _).mono ?_); rintro e w' ⟨rfl, rfl⟩) | ((with_reducible refine (c3.out _).mono ?_); rintro e w' ⟨rfl, rfl⟩))
          go_wp2
          go_region_with (go_at_call 81; first | ((with_reducible refine (c0.out _).mono ?_); rintro e w' ⟨rfl, rfl⟩) | ((with_reducible refine (c1.out _).mono ?_); rintro e w' ⟨rfl, rfl⟩) | ((with_reducible refine (c2.out _).mono ?_); rintro e w' ⟨rfl, rfl⟩) | ((with_reducible refine (c3.out _).mono ?_); rintro e w' ⟨rfl, rfl⟩))
          go_wp2
          go_region_with (go_at_call 81; first | ((with_reducible refine (c0.out _).mono ?_); rintro e w' ⟨rfl, rfl⟩) | ((with_reducible refine (c1.out _).mono ?_); rintro e w' ⟨rfl, rfl⟩) | ((with_reducible refine (c2.out _).mono ?_); rintro e w' ⟨rfl, rfl⟩) | ((with_reducible refine (c3.out _).mono ?_); rintro e w' ⟨rfl, rfl⟩))
          go_wp2
          go_roundg k
          case measure => omega
          case rel =>
            refine ⟨j + 1, set4 cur' (1650 + (1 + j) * 32) (.int .u8 (clB (q0 + (y0 + 4 + y2 + (p2 + p3)) / 8))) (.int .u8 (clB (q1 + (y0 + 4 - y2 + (p1 - p4)) / 8))) (.int .u8 (clB (q2 + (y0 + 4 - y2 - (p1 - p4)) / 8))) (.int .u8 (clB (q3 + (y0 + 4 + y2 - (p2 + p3)) / 8))), by omega, by go_num, (((((hC.out.drewN 0).set_ (1650 + (1 + j) * 32 + 8) _).set_ (1650 + (1 + j) * 32 + 9) _).set_ (1650 + (1 + j) * 32 + 10) _).set_ (1650 + (1 + j) * 32 + 11) _), (set4_size _ _ _ _ _ _).trans hCs, ?_, ?_, ?_⟩
            · intro a b ha hb
              by_cases h : a = j
              · subst h
                exact set4_at cur' a _ _ _ _ hCs hj4 (fun b => .int .u8 (clB (v (4 * a + b) + iT (pT x) (4 * a + b)))) (by rw [g0.out]) (by rw [g1.out]) (by rw [g2.out]) (by rw [g3.out]) b hb
              · rw [set4_far _ _ _ _ _ _ _ _ h hb]
                exact hCo.out a b (by omega) hb
            · intro a b ha ha4 hb
              rw [set4_far _ _ _ _ _ _ _ _ (by omega) hb]
              exact hCv.out a b (by omega) ha4 hb
            · exact Upd.heap ((((hU.out.setCell (p := ⟨g, 1650 + (1 + j) * 32 + 8, none⟩) (.inl (by simp)) (.int .u8 (clB (q0 + (y0 + 4 + y2 + (p2 + p3)) / 8)))).setCell (p := ⟨g, 1650 + (1 + j) * 32 + 9, none⟩) (.inl (by simp)) (.int .u8 (clB (q1 + (y0 + 4 - y2 + (p1 - p4)) / 8)))).setCell (p := ⟨g, 1650 + (1 + j) * 32 + 10, none⟩) (.inl (by simp)) (.int .u8 (clB (q2 + (y0 + 4 - y2 - (p1 - p4)) / 8)))).setCell (p := ⟨g, 1650 + (1 + j) * 32 + 11, none⟩) (.inl (by simp)) (.int .u8 (clB (q3 + (y0 + 4 + y2 - (p2 + p3)) / 8)))) rfl rfl rfl rfl
    | succ k =>
      have hi4 : i < 4 := by omega
      have hii : (i : Int) < 4 := by omega
      have hi0 : (0 : Int) ≤ (i : Int) := by omega
      have hcl := fun j (hj : j < 16) => (hbel.cell (p := ⟨g, 1250 + j, none⟩) hg).trans ((hD.out.cell (1250 + j)).trans (hc.out j hj))
      have k0 := hcl i (by omega)
      have k1 := hcl (4 + i) (by omega)
      have k2 := hcl (8 + i) (by omega)
      have k3 := hcl (12 + i) (by omega)
      rw [show 1250 + (4 + i) = 1250 + (i + 4) by omega] at k1
      rw [show 1250 + (8 + i) = 1250 + (i + 8) by omega] at k2
      rw [show 1250 + (12 + i) = 1250 + (i + 12) by omega] at k3
      have ii : (i : Int) < 400 := by omega
      have i1 : (i : Int) + 4 < 400 := by omega
      have i2 : (i : Int) + 8 < 400 := by omega
      have i3 : (i : Int) + 12 < 400 := by omega
      have j1 : (0 : Int) ≤ (i : Int) + 4 := by omega
      have j2 : (0 : Int) ≤ (i : Int) + 8 := by omega
      have j3 : (0 : Int) ≤ (i : Int) + 12 := by omega
      have W0 : IntKind.i64.wrap (i : Int) = (i : Int) := IntWalk.i64_in _ (by omega)
      have W1 : IntKind.i64.wrap ((i : Int) + 4) = (i : Int) + 4 := IntWalk.i64_in _ (by omega)
      have W2 : IntKind.i64.wrap ((i : Int) + 8) = (i : Int) + 8 := IntWalk.i64_in _ (by omega)
      have W3 : IntKind.i64.wrap ((i : Int) + 12) = (i : Int) + 12 := IntWalk.i64_in _ (by omega)
      have T1 : ((i : Int) + 4).toNat = i + 4 := by omega
      have T2 : ((i : Int) + 8).toNat = i + 8 := by omega
      have T3 : ((i : Int) + 12).toNat = i + 12 := by omega
      have b0 := hx.out i
      have b1 := hx.out (4 + i)
      have b2 := hx.out (8 + i)
      have b3 := hx.out (12 + i)
      have m0 : pT x (4 * 0 + i) = x i + x (8 + i) + (sB (x (4 + i)) + sA (x (12 + i))) := pT_at x i 0 hi4
      have m1 : pT x (4 * 1 + i) = x i - x (8 + i) + (sA (x (4 + i)) - sB (x (12 + i))) := pT_at x i 1 hi4
      have m2 : pT x (4 * 2 + i) = x i - x (8 + i) - (sA (x (4 + i)) - sB (x (12 + i))) := pT_at x i 2 hi4
      have m3 : pT x (4 * 3 + i) = x i + x (8 + i) - (sB (x (4 + i)) + sA (x (12 + i))) := pT_at x i 3 hi4
      clear hcl
      generalize x i = y0 at *
      generalize x (4 + i) = y1 at *
      generalize x (8 + i) = y2 at *
      generalize x (12 + i) = y3 at *
      have hA1 := sA_bd y1 b1
      have hB1 := sB_bd y1 b1
      have hA3 := sA_bd y3 b3
      have hB3 := sB_bd y3 b3
      have V0 : IntKind.i32.wrap y0 = y0 := IntWalk.i32_in _ (by omega)
      have V1 : IntKind.i32.wrap y1 = y1 := IntWalk.i32_in _ (by omega)
      have V2 : IntKind.i32.wrap y2 = y2 := IntWalk.i32_in _ (by omega)
      have V3 : IntKind.i32.wrap y3 = y3 := IntWalk.i32_in _ (by omega)
      have S0 : IntKind.i32.wrap (y0 + y2) = y0 + y2 := IntWalk.i32_in _ (by omega)
      have S1 : IntKind.i32.wrap (y0 - y2) = y0 - y2 := IntWalk.i32_in _ (by omega)
      have X1 : IntKind.i32.wrap (y1 * 35468) = y1 * 35468 := IntWalk.i32_in _ (by omega)
      have X2 : IntKind.i32.wrap (y1 * 85627) = y1 * 85627 := IntWalk.i32_in _ (by omega)
      have X3 : IntKind.i32.wrap (y3 * 35468) = y3 * 35468 := IntWalk.i32_in _ (by omega)
      have X4 : IntKind.i32.wrap (y3 * 85627) = y3 * 85627 := IntWalk.i32_in _ (by omega)
      have F1 : y1 * 35468 / 65536 = sA y1 := rfl
      have F2 : y1 * 85627 / 65536 = sB y1 := rfl
      have F3 : y3 * 35468 / 65536 = sA y3 := rfl
      have F4 : y3 * 85627 / 65536 = sB y3 := rfl
      have G1 : IntKind.i32.wrap (sA y1 - sB y3) = sA y1 - sB y3 := IntWalk.i32_in _ (by omega)
      have G2 : IntKind.i32.wrap (sB y1 + sA y3) = sB y1 + sA y3 := IntWalk.i32_in _ (by omega)
      generalize sA y1 = p1 at *
      generalize sB y1 = p2 at *
      generalize sA y3 = p3 at *
      generalize sB y3 = p4 at *
      replace m0 := hide m0
      replace m1 := hide m1
      replace m2 := hide m2
      replace m3 := hide m3
      have q0 := Blk.rowCell hM (i * 4) (by omega)
      have q1 := Blk.rowCell hM (i * 4 + 1) (by omega)
      have q2 := Blk.rowCell hM (i * 4 + 2) (by omega)
      have q3 := Blk.rowCell hM (i * 4 + 3) (by omega)
      have z0 := Blk.frozen hM (i * 4)
      have z1 := Blk.frozen hM (i * 4 + 1)
      have z2 := Blk.frozen hM (i * 4 + 2)
      have z3 := Blk.frozen hM (i * 4 + 3)
      have hM' := hide hM
      replace hbel := hide hbel
      clear hM
      go_wp2
      go_quiet (fail)
      go_wp2
      go_quiet (fail)
      go_wp2
      go_quiet (fail)
      go_wp2
      go_quiet (fail)
      go_wp2
      go_roundg k
      case measure => omega
      case rel =>
        refine ⟨i + 1, by omega, by go_num, by go_num, ?_, ?_⟩
        · refine Blk.to (((((hM'.out.drewN 0).set_ (i * 4) _).set_ (i * 4 + 1) _).set_ (i * 4 + 2) _).set_ (i * 4 + 3) _) rfl ?_
          rw [rowF_set, rowF_set, rowF_set, rowF_set]
          refine rowF_congr _ _ ?_
          intro j hj
          rcases (show j = i * 4 ∨ j = i * 4 + 1 ∨ j = i * 4 + 2 ∨ j = i * 4 + 3 ∨ j / 4 ≠ i by omega) with rfl | rfl | rfl | rfl | hne
          · rw [if_pos (by omega), if_neg (by omega), if_neg (by omega), if_neg (by omega), if_pos rfl, show 4 * (i * 4 % 4) + i * 4 / 4 = 4 * 0 + i by omega, m0.out]
          · rw [if_pos (by omega), if_neg (by omega), if_neg (by omega), if_pos rfl, show 4 * ((i * 4 + 1) % 4) + (i * 4 + 1) / 4 = 4 * 1 + i by omega, m1.out]
          · rw [if_pos (by omega), if_neg (by omega), if_pos rfl, show 4 * ((i * 4 + 2) % 4) + (i * 4 + 2) / 4 = 4 * 2 + i by omega, m2.out]
          · rw [if_pos (by omega), if_pos rfl, show 4 * ((i * 4 + 3) % 4) + (i * 4 + 3) / 4 = 4 * 3 + i by omega, m3.out]
          · rw [if_neg (show ¬ j = i * 4 + 3 by omega), if_neg (show ¬ j = i * 4 + 2 by omega), if_neg (show ¬ j = i * 4 + 1 by omega), if_neg (show ¬ j = i * 4 by omega)]
            by_cases h : j / 4 < i
            · rw [if_pos h, if_pos (by omega)]
            · rw [if_neg h, if_neg (by omega)]
        · exact ((((below_drewN' hbel.out _).setCell (by simp) _).setCell (by simp) _).setCell (by simp) _).setCell (by simp) _
end Go.Proofs.YthbidebcljegjaaDoor

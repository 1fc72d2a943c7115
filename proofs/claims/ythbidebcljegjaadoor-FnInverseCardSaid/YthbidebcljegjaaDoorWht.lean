/- The transform of second order: the decoder's walk. -/
import Derived.Test.YthbidebcljegjaaDoorDec
import Derived.Test.YthbidebcljegjaaDoorRowf
namespace Go.Proofs.YthbidebcljegjaaDoor
set_option linter.unusedSimpArgs false
set_option linter.unusedVariables false
open Go.RowKit Plain

/-- Between both passes. -/
def mW (x : Nat → Int) (j : Nat) : Int :=
  if j / 4 = 0 then x (j % 4) + x (12 + j % 4) + (x (4 + j % 4) + x (8 + j % 4))
  else if j / 4 = 1 then x (j % 4) - x (12 + j % 4) + (x (4 + j % 4) - x (8 + j % 4))
  else if j / 4 = 2 then x (j % 4) + x (12 + j % 4) - (x (4 + j % 4) + x (8 + j % 4))
  else x (j % 4) - x (12 + j % 4) - (x (4 + j % 4) - x (8 + j % 4))
theorem mW0 (x : Nat → Int) (i : Nat) (h : i < 4) : mW x i = x i + x (12 + i) + (x (4 + i) + x (8 + i)) := by
  have e1 : i / 4 = 0 := by omega
  have e2 : i % 4 = i := by omega
  simp [mW, e1, e2]
theorem mW1 (x : Nat → Int) (i : Nat) (h : i < 4) : mW x (4 + i) = x i - x (12 + i) + (x (4 + i) - x (8 + i)) := by
  have e1 : (4 + i) / 4 = 1 := by omega
  have e2 : (4 + i) % 4 = i := by omega
  simp [mW, e1, e2]
theorem mW2 (x : Nat → Int) (i : Nat) (h : i < 4) : mW x (8 + i) = x i + x (12 + i) - (x (4 + i) + x (8 + i)) := by
  have e1 : (8 + i) / 4 = 2 := by omega
  have e2 : (8 + i) % 4 = i := by omega
  simp [mW, e1, e2]
theorem mW3 (x : Nat → Int) (i : Nat) (h : i < 4) : mW x (12 + i) = x i - x (12 + i) - (x (4 + i) - x (8 + i)) := by
  have e1 : (12 + i) / 4 = 3 := by omega
  have e2 : (12 + i) % 4 = i := by omega
  simp [mW, e1, e2]
theorem mW_bd (x : Nat → Int) (hx : ∀ j, -2048 ≤ x j ∧ x j ≤ 2048) (j : Nat) : -8192 ≤ mW x j ∧ mW x j ≤ 8192 := by
  have h0 := hx (j % 4)
  have h1 := hx (4 + j % 4)
  have h2 := hx (8 + j % 4)
  have h3 := hx (12 + j % 4)
  unfold mW
  split
  · omega
  · split
    · omega
    · split <;> omega
/-- What the transform gives. -/
def oW (m : Nat → Int) (j : Nat) : Int :=
  if j % 4 = 0 then (m (4 * (j / 4)) + 3 + m (4 * (j / 4) + 3) + (m (4 * (j / 4) + 1) + m (4 * (j / 4) + 2))) / 8
  else if j % 4 = 1 then (m (4 * (j / 4)) + 3 - m (4 * (j / 4) + 3) + (m (4 * (j / 4) + 1) - m (4 * (j / 4) + 2))) / 8
  else if j % 4 = 2 then (m (4 * (j / 4)) + 3 + m (4 * (j / 4) + 3) - (m (4 * (j / 4) + 1) + m (4 * (j / 4) + 2))) / 8
  else (m (4 * (j / 4)) + 3 - m (4 * (j / 4) + 3) - (m (4 * (j / 4) + 1) - m (4 * (j / 4) + 2))) / 8
theorem oW_at (m : Nat → Int) (i k : Nat) (h : k < 4) : oW m (4 * i + k) = if k = 0 then (m (4 * i) + 3 + m (4 * i + 3) + (m (4 * i + 1) + m (4 * i + 2))) / 8
    else if k = 1 then (m (4 * i) + 3 - m (4 * i + 3) + (m (4 * i + 1) - m (4 * i + 2))) / 8
    else if k = 2 then (m (4 * i) + 3 + m (4 * i + 3) - (m (4 * i + 1) + m (4 * i + 2))) / 8
    else (m (4 * i) + 3 - m (4 * i + 3) - (m (4 * i + 1) - m (4 * i + 2))) / 8 := by
  have e1 : (4 * i + k) / 4 = i := by omega
  have e2 : (4 * i + k) % 4 = k := by omega
  simp only [oW, e1, e2]

theorem below_drewN' {b : Nat} {w w' : World} (h : Below b w w') (n : Nat) : Below b w (w'.drewN n) := ⟨h.os, h.tape, h.output, h.size, h.block⟩

set_option maxRecDepth 100000 in
set_option maxHeartbeats 4000000 in
theorem wht_any (g : Nat) (x : Nat → Int) (cur : Array Value) (w : World) (hx : ∀ j, -2048 ≤ x j ∧ x j ≤ 2048) (hD : Blk w g 126 cur) (hsz : cur.size = 2482) (hc : ∀ j, j < 16 → cur[1634 + j]? = some (.int .i16 (x j))) :
    Calls Tryd.prog 57 #[.pointer (some ⟨g, 0, none⟩)] w fun e w' => e = .returned (.tuple #[]) ∧ Upd [g] w w' ∧ ∃ cur', Blk w' g 126 cur' ∧ cur'.size = 2482 ∧ ∀ j, j < 16 → cur'[1250 + 16 * j]? = some (.int .i16 (oW (mW x) j)) := by
  have hg := hD.lt
  replace hD := hide hD
  replace hc := hide hc
  replace hx := hide hx
  replace hsz := hide hsz
  go_enter Tryd.func57, Tryd.ntmps57
  go_wp2
  go_loopg [3] 4 (fun k u3 wr => ∃ i : Nat, k + i = 4 ∧ u3 = .int .i64 i ∧ Blk wr w.heap.size 136 (rowF .i32 (fun j => if j % 4 < i then mW x j else 0) 16) ∧ Below w.heap.size w wr)
  case atStart =>
    refine ⟨0, rfl, rfl, ?_, (Below.refl _ w).alloc (Nat.le_refl _) _⟩
    refine Blk.to (Blk.new w 136 _) rfl ?_
    rw [rowF_congr .i32 (G := fun _ => 0) 16 (fun i _ => if_neg (by omega))]
    rfl
  case round =>
    obtain ⟨i, hi, rfl, hM, hbel⟩ := hrel
    cases gk with
    | zero =>
      have hi4 : i = 4 := by omega
      subst hi4
      rw [rowF_congr .i32 (G := mW x) 16 (fun j _ => if_pos (Nat.mod_lt _ (by decide)))] at hM
      have hMb := fun j => mW_bd x hx.out j
      obtain ⟨w1, hw1⟩ : ∃ w1, w1 = wr := ⟨_, rfl⟩
      subst hw1
      have hD1 := hide (hD.out.below hbel hg)
      have hM1 := hide hM
      have hbel1 := hide hbel
      have hMlt := hM.lt
      clear hM hbel
      replace hMb := hide hMb
      go_wp2
      go_loopg [8, 9] 4 (fun k u8 u9 wr => ∃ i cur', k + i = 4 ∧ u9 = .int .i64 (i : Nat) ∧ u8 = .int .i64 (64 * (i : Int)) ∧ Blk wr g 126 cur' ∧ cur'.size = 2482 ∧ (∀ j, j < 4 * i → cur'[1250 + 16 * j]? = some (.int .i16 (oW (mW x) j))) ∧ Upd [g] w1 wr)
      case atStart => exact ⟨0, cur, rfl, rfl, rfl, hD1.out, hsz.out, by omega, Upd.refl _ _⟩
      case round =>
        obtain ⟨i, cur', hi, rfl, rfl, hC, hCs, hCo, hU⟩ := hrel
        cases gk with
        | zero =>
          have hi4 : i = 4 := by omega
          subst hi4
          replace hU := hide hU
          replace hC := hide hC
          replace hCo := hide hCo
          go_wp2
          go_end0
          exact ⟨rfl, (Upd.ofBelow (S := [g]) hbel1.out).trans hU.out, cur', hC.out, hCs, fun j hj => hCo.out j (by omega)⟩
        | succ k =>
          have hi4 : i < 4 := by omega
          have hii : (i : Int) < 4 := by omega
          have hi0 : (0 : Int) ≤ (i : Int) := by omega
          have hcl := fun j (hj : j < 16) => (hU.cell (p := ⟨w.heap.size, j, none⟩) hMlt (by simp; omega)).trans (Blk.rowCell hM1.out j hj)
          have k0 := hcl (4 * i) (by omega)
          have k1 := hcl (4 * i + 1) (by omega)
          have k2 := hcl (4 * i + 2) (by omega)
          have k3 := hcl (4 * i + 3) (by omega)
          have b0 := hMb.out (4 * i)
          have b1 := hMb.out (4 * i + 1)
          have b2 := hMb.out (4 * i + 2)
          have b3 := hMb.out (4 * i + 3)
          have o0 := oW_at (mW x) i 0 (by decide)
          have o1 := oW_at (mW x) i 1 (by decide)
          have o2 := oW_at (mW x) i 2 (by decide)
          have o3 := oW_at (mW x) i 3 (by decide)
          simp at o0 o1 o2 o3
          clear hcl
          generalize mW x (4 * i) = y0 at *
          generalize mW x (4 * i + 1) = y1 at *
          generalize mW x (4 * i + 2) = y2 at *
          generalize mW x (4 * i + 3) = y3 at *
          have hex := fun j (hj : j < 400) => (show ∃ v, wr.cell? ⟨g, 1250 + j, none⟩ = some v from ⟨_, (hC.cell (1250 + j)).trans (Array.getElem?_eq_getElem (by omega))⟩)
          obtain ⟨v0, e0⟩ := hex (64 * i) (by omega)
          obtain ⟨v1, e1⟩ := hex (64 * i + 16) (by omega)
          obtain ⟨v2, e2⟩ := hex (64 * i + 32) (by omega)
          obtain ⟨v3, e3⟩ := hex (64 * i + 48) (by omega)
          have z0 := hC.frozen (1250 + 64 * i)
          have z1 := hC.frozen (1250 + (64 * i + 16))
          have z2 := hC.frozen (1250 + (64 * i + 32))
          have z3 := hC.frozen (1250 + (64 * i + 48))
          clear hex
          have t4 : ((i : Int) * 4).toNat = 4 * i := by omega
          have t41 : (1 + (i : Int) * 4).toNat = 4 * i + 1 := by omega
          have t42 : (2 + (i : Int) * 4).toNat = 4 * i + 2 := by omega
          have t43 : (3 + (i : Int) * 4).toNat = 4 * i + 3 := by omega
          have u0 : (64 * (i : Int)).toNat = 64 * i := by omega
          have u1 : (64 * (i : Int) + 16).toNat = 64 * i + 16 := by omega
          have u2 : (64 * (i : Int) + 32).toNat = 64 * i + 32 := by omega
          have u3 : (64 * (i : Int) + 48).toNat = 64 * i + 48 := by omega
          replace o0 := hide o0
          replace o1 := hide o1
          replace o2 := hide o2
          replace o3 := hide o3
          replace hU := hide hU
          replace hC := hide hC
          replace hCo := hide hCo
          go_wp2
          have W4 : IntKind.i64.wrap ((i : Int) * 4) = (i : Int) * 4 := IntWalk.i64_in _ (by omega)
          have W41 : IntKind.i64.wrap (1 + (i : Int) * 4) = 1 + (i : Int) * 4 := IntWalk.i64_in _ (by omega)
          have W42 : IntKind.i64.wrap (2 + (i : Int) * 4) = 2 + (i : Int) * 4 := IntWalk.i64_in _ (by omega)
          have P1 : (0 : Int) ≤ 1 + (i : Int) * 4 := by omega
          have P2 : (0 : Int) ≤ 2 + (i : Int) * 4 := by omega
          have P3 : 1 + (i : Int) * 4 < 16 := by omega
          have P4 : 2 + (i : Int) * 4 < 16 := by omega
          have S1 : IntKind.i32.wrap (y1 + y2) = y1 + y2 := IntWalk.i32_in _ (by omega)
          have S2 : IntKind.i32.wrap (y1 - y2) = y1 - y2 := IntWalk.i32_in _ (by omega)
          go_quiet (fail)
          go_wp2
          go_quiet (fail)
          go_wp2
          go_roundg k
          case measure => omega
          case rel =>
            refine ⟨i + 1, _, by omega, by go_num, by go_num, (((((hC.out.drewN 0).set_ (1250 + 64 * i) _).set_ (1250 + (64 * i + 16)) _).set_ (1250 + (64 * i + 32)) _).set_ (1250 + (64 * i + 48)) _), by simpa using hCs, ?_, ?_⟩
            · intro j hj
              rcases (show j = 4 * i ∨ j = 4 * i + 1 ∨ j = 4 * i + 2 ∨ j = 4 * i + 3 ∨ j < 4 * i by omega) with rfl | rfl | rfl | rfl | hlt
              · rw [set_ne _ _ _ _ (by omega), set_ne _ _ _ _ (by omega), set_ne _ _ _ _ (by omega), set_eq _ _ _ _ (by rw [hCs]; omega) (by omega), o0.out]
              · rw [set_ne _ _ _ _ (by omega), set_ne _ _ _ _ (by omega), set_eq _ _ _ _ (by simp [hCs]; omega) (by omega), o1.out]
              · rw [set_ne _ _ _ _ (by omega), set_eq _ _ _ _ (by simp [hCs]; omega) (by omega), o2.out]
              · rw [set_eq _ _ _ _ (by simp [hCs]; omega) (by omega), o3.out]
              · rw [set_ne _ _ _ _ (by omega), set_ne _ _ _ _ (by omega), set_ne _ _ _ _ (by omega), set_ne _ _ _ _ (by omega)]
                exact hCo.out j hlt
            · exact ((((hU.out.drewN _).setCell (by simp) _).setCell (by simp) _).setCell (by simp) _).setCell (by simp) _
    | succ k =>
      have hi4 : i < 4 := by omega
      have hii : (i : Int) < 4 := by omega
      have hcl := fun j (hj : j < 16) => (hbel.cell (p := ⟨g, 1634 + j, none⟩) hg).trans ((hD.out.cell (1634 + j)).trans (hc.out j hj))
      have k0 := hcl i (by omega)
      have k1 := hcl (4 + i) (by omega)
      have k2 := hcl (8 + i) (by omega)
      have k3 := hcl (12 + i) (by omega)
      rw [show 1634 + i = 1250 + (384 + i) by omega] at k0
      rw [show 1634 + (4 + i) = 1250 + (388 + i) by omega] at k1
      rw [show 1634 + (8 + i) = 1250 + (392 + i) by omega] at k2
      rw [show 1634 + (12 + i) = 1250 + (396 + i) by omega] at k3
      have i0 : (384 : Int) + (i : Int) < 400 := by omega
      have i1 : (388 : Int) + (i : Int) < 400 := by omega
      have i2 : (392 : Int) + (i : Int) < 400 := by omega
      have i3 : (396 : Int) + (i : Int) < 400 := by omega
      have j0 : (0 : Int) ≤ 384 + (i : Int) := by omega
      have j1 : (0 : Int) ≤ 388 + (i : Int) := by omega
      have j2 : (0 : Int) ≤ 392 + (i : Int) := by omega
      have j3 : (0 : Int) ≤ 396 + (i : Int) := by omega
      have W0 : IntKind.i64.wrap (384 + (i : Int)) = 384 + (i : Int) := IntWalk.i64_in _ (by omega)
      have W1 : IntKind.i64.wrap (388 + (i : Int)) = 388 + (i : Int) := IntWalk.i64_in _ (by omega)
      have W2 : IntKind.i64.wrap (392 + (i : Int)) = 392 + (i : Int) := IntWalk.i64_in _ (by omega)
      have W3 : IntKind.i64.wrap (396 + (i : Int)) = 396 + (i : Int) := IntWalk.i64_in _ (by omega)
      have T0 : ((384 : Int) + (i : Int)).toNat = 384 + i := by omega
      have T1 : ((388 : Int) + (i : Int)).toNat = 388 + i := by omega
      have T2 : ((392 : Int) + (i : Int)).toNat = 392 + i := by omega
      have T3 : ((396 : Int) + (i : Int)).toNat = 396 + i := by omega
      have b0 := hx.out i
      have b1 := hx.out (4 + i)
      have b2 := hx.out (8 + i)
      have b3 := hx.out (12 + i)
      have m0 := mW0 x i hi4
      have m1 := mW1 x i hi4
      have m2 := mW2 x i hi4
      have m3 := mW3 x i hi4
      clear hcl
      generalize x i = y0 at *
      generalize x (4 + i) = y1 at *
      generalize x (8 + i) = y2 at *
      generalize x (12 + i) = y3 at *
      have V0 : IntKind.i32.wrap y0 = y0 := IntWalk.i32_in _ (by omega)
      have V1 : IntKind.i32.wrap y1 = y1 := IntWalk.i32_in _ (by omega)
      have V2 : IntKind.i32.wrap y2 = y2 := IntWalk.i32_in _ (by omega)
      have V3 : IntKind.i32.wrap y3 = y3 := IntWalk.i32_in _ (by omega)
      have S0 : IntKind.i32.wrap (y0 + y3) = y0 + y3 := IntWalk.i32_in _ (by omega)
      have S1 : IntKind.i32.wrap (y1 + y2) = y1 + y2 := IntWalk.i32_in _ (by omega)
      have S2 : IntKind.i32.wrap (y1 - y2) = y1 - y2 := IntWalk.i32_in _ (by omega)
      have S3 : IntKind.i32.wrap (y0 - y3) = y0 - y3 := IntWalk.i32_in _ (by omega)
      replace m0 := hide m0
      replace m1 := hide m1
      replace m2 := hide m2
      replace m3 := hide m3
      have q0 := Blk.rowCell hM i (by omega)
      have q1 := Blk.rowCell hM (4 + i) (by omega)
      have q2 := Blk.rowCell hM (8 + i) (by omega)
      have q3 := Blk.rowCell hM (12 + i) (by omega)
      have z0 := Blk.frozen hM i
      have z1 := Blk.frozen hM (4 + i)
      have z2 := Blk.frozen hM (8 + i)
      have z3 := Blk.frozen hM (12 + i)
      have hM' := hide hM
      replace hbel := hide hbel
      have hi0 : (0 : Int) ≤ (i : Int) := by omega
      clear hM
      go_wp2
      go_quiet (fail)
      go_wp2
      go_quiet (fail)
      go_wp2
      go_quiet (fail)
      go_wp2
      go_quiet (fail)
      go_wp2
      go_roundg k
      case measure => omega
      case rel =>
        refine ⟨i + 1, by omega, by go_num, ?_, ?_⟩
        · refine Blk.to (((((hM'.out.drewN 0).set_ i _).set_ (8 + i) _).set_ (4 + i) _).set_ (12 + i) _) rfl ?_
          rw [rowF_set, rowF_set, rowF_set, rowF_set]
          refine rowF_congr _ _ ?_
          intro j hj
          rcases (show j = i ∨ j = 4 + i ∨ j = 8 + i ∨ j = 12 + i ∨ j % 4 ≠ i by omega) with rfl | rfl | rfl | rfl | hne
          · rw [if_pos (by omega), if_neg (by omega), if_neg (by omega), if_neg (by omega), if_pos rfl, m0.out]
          · rw [if_pos (by omega), if_neg (by omega), if_pos rfl, m1.out]
          · rw [if_pos (by omega), if_neg (by omega), if_neg (by omega), if_pos rfl, m2.out]
          · rw [if_pos (by omega), if_pos rfl, m3.out]
          · rw [if_neg (show ¬ j = 12 + i by omega), if_neg (show ¬ j = 4 + i by omega), if_neg (show ¬ j = 8 + i by omega), if_neg (show ¬ j = i by omega)]
            by_cases h : j % 4 < i
            · rw [if_pos h, if_pos (by omega)]
            · rw [if_neg h, if_neg (by omega)]
        · exact ((((below_drewN' hbel.out _).setCell (by simp) _).setCell (by simp) _).setCell (by simp) _).setCell (by simp) _
end Go.Proofs.YthbidebcljegjaaDoor

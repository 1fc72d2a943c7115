/- 'parseSegmentHeader': the walk. -/
import Derived.Test.YthbidebcljegjaaDoorSegRead
namespace Go.Proofs.YthbidebcljegjaaDoor
set_option linter.unusedSimpArgs false
set_option linter.unusedVariables false
open Go.RowKit Plain

theorem optV_bd7 (v : Int) : -127 ≤ optV v 7 ∧ optV v 7 ≤ 127 := by
  have h := optN_lt v 7
  unfold optV
  split <;> omega
theorem optV_bd6 (v : Int) : -63 ≤ optV v 6 ∧ optV v 6 ≤ 63 := by
  have h := optN_lt v 6
  unfold optV
  split <;> omega
theorem optV_if (v : Int) (s : Nat) : optV v s = if decide (v < 0) then -(optN v s : Int) else (optN v s : Int) := by
  unfold optV
  by_cases h : v < 0 <;> simp [h]

theorem bit128 (g o : Nat) (A : Option Addr) (cap : Nat) (bytes : List Nat) (dn rs : List (Bool × Nat)) (b : Bool) (w : World) (R : Rdr w g o A cap bytes dn ((b, 128) :: rs)) :
    Calls Tryd.prog 71 #[.pointer (some ⟨g, o, none⟩), .int .u8 128] w fun x w' => x = .returned (.bool b) ∧ Rdr w' g o A cap bytes (dn ++ [(b, 128)]) rs ∧ Only g o 6 w w' := readBit_ev g o A cap bytes dn rs b 128 w R
theorem opt7 (g o : Nat) (A : Option Addr) (cap : Nat) (bytes : List Nat) (dn rs : List (Bool × Nat)) (v : Int) (w : World) (R : Rdr w g o A cap bytes dn (optEv (optN v 7) 128 7 (decide (v < 0)) ++ rs)) :
    Calls Tryd.prog 56 #[.pointer (some ⟨g, o, none⟩), .int .u8 128, .int .u8 7] w fun x w' => x = .returned (.int .i32 (optV v 7)) ∧ Rdr w' g o A cap bytes (dn ++ optEv (optN v 7) 128 7 (decide (v < 0))) rs ∧ Only g o 6 w w' := by
  rw [optV_if]
  exact readOpt_ev g o A cap bytes dn rs _ 128 7 _ w (optN_lt v 7) (by decide) R
theorem opt6 (g o : Nat) (A : Option Addr) (cap : Nat) (bytes : List Nat) (dn rs : List (Bool × Nat)) (v : Int) (w : World) (R : Rdr w g o A cap bytes dn (optEv (optN v 6) 128 6 (decide (v < 0)) ++ rs)) :
    Calls Tryd.prog 56 #[.pointer (some ⟨g, o, none⟩), .int .u8 128, .int .u8 6] w fun x w' => x = .returned (.int .i32 (optV v 6)) ∧ Rdr w' g o A cap bytes (dn ++ optEv (optN v 6) 128 6 (decide (v < 0))) rs ∧ Only g o 6 w w' := by
  rw [optV_if]
  exact readOpt_ev g o A cap bytes dn rs _ 128 6 _ w (optN_lt v 6) (by decide) R
theorem uint8 (g o : Nat) (A : Option Addr) (cap : Nat) (bytes : List Nat) (dn rs : List (Bool × Nat)) (n : Nat) (w : World) (hn : n ≤ 255) (R : Rdr w g o A cap bytes dn (bitsOf n 128 8 ++ rs)) :
    Calls Tryd.prog 54 #[.pointer (some ⟨g, o, none⟩), .int .u8 128, .int .u8 8] w fun x w' => x = .returned (.int .u32 n) ∧ Rdr w' g o A cap bytes (dn ++ bitsOf n 128 8) rs ∧ Only g o 6 w w' :=
  readUint_ev g o A cap bytes dn rs n 128 8 w (by omega) (by decide) R

theorem both_set {g : Nat} {w w' : World} (h : Only g 21 36 w w') (o : ∀ j, 21 ≤ j → j < 35 → (w'.cell? ⟨g, j, none⟩).isSome = true) (i : Nat) (h1 : 21 ≤ i) (h2 : i < 57) (u : Value) :
    Only g 21 36 w (w'.setCell ⟨g, i, none⟩ u) ∧ ∀ j, 21 ≤ j → j < 35 → ((w'.setCell ⟨g, i, none⟩ u).cell? ⟨g, j, none⟩).isSome = true := ⟨h.setCell i h1 h2 u, some_set o i u⟩

set_option maxRecDepth 100000 in
set_option maxHeartbeats 8000000 in
theorem segHead_any (g : Nat) (A : Option Addr) (cap : Nat) (bytes : List Nat) (rel : Bool) (q s : Nat → Int) (p : Nat → Nat) (w : World) (hp : ∀ j, p j ≤ 255)
    (hH : ∀ j, 21 ≤ j → j < 35 → (w.cell? ⟨g, j, none⟩).isSome = true) (hF : ∀ j, w.frozen? ⟨g, j, none⟩ = false) (R : Rdr w g 51 A cap bytes [] (segE rel q s p)) :
    Calls Tryd.prog 62 #[.pointer (some ⟨g, 0, none⟩)] w fun e w' => e = .returned (.tuple #[]) ∧ SegAt w' g rel q s p 4 4 3 ∧ Only g 21 36 w w' ∧ Rdr w' g 51 A cap bytes (segE rel q s p) [] := by
  obtain ⟨v0, h0⟩ := Option.isSome_iff_exists.1 (hH 21 (by decide) (by decide))
  obtain ⟨v1, h1⟩ := Option.isSome_iff_exists.1 (hH 22 (by decide) (by decide))
  obtain ⟨v2, h2⟩ := Option.isSome_iff_exists.1 (hH 23 (by decide) (by decide))
  have f0 := hF 21
  have f1 := hF 22
  have f2 := hF 23
  unfold segE hdE at R
  simp only [List.cons_append, List.nil_append] at R
  have cB := hide (bit128 g 51 A cap bytes)
  replace R := hide R
  replace hH := hide hH
  replace hF := hide hF
  replace hp := hide hp
  go_enter Tryd.func62, Tryd.ntmps62
  go_wp2_with fail
  (with_reducible refine (cB.out _ _ _ _ R.out).mono ?_)
  rintro e w1 ⟨rfl, R1, O1⟩
  have k0 := (O1.cell ⟨g, 21, none⟩ (by simp)).trans h0
  have k1 := (O1.cell ⟨g, 22, none⟩ (by simp)).trans h1
  have k2 := (O1.cell ⟨g, 23, none⟩ (by simp)).trans h2
  have fz0 := (O1.frozen ⟨g, 21, none⟩).trans f0
  have U1 := hide (both_set (O1.wide (o' := 21) (n' := 36) (by decide) (by decide)) (fun j h1 h2 => by rw [O1.cell _ (by simp; omega)]; exact hH.out j h1 h2) 21 (by decide) (by decide) (.bool true))
  replace R1 := hide (R1.setFar (i := 21) (by decide) (.bool true))
  have j0 := World.cell?_setCell_same w1 ⟨g, 21, none⟩ (.bool true) k0
  have j1 := (World.cell?_setCell_other w1 ⟨g, 21, none⟩ ⟨g, 22, none⟩ (.bool true) (by simp)).trans k1
  have j2 := (World.cell?_setCell_other w1 ⟨g, 21, none⟩ ⟨g, 23, none⟩ (.bool true) (by simp)).trans k2
  clear h0 h1 h2 R O1
  go_wp2_with fail
  (with_reducible refine (cB.out _ _ _ _ R1.out).mono ?_)
  rintro e w2 ⟨rfl, R2, O2⟩
  replace j0 := (O2.cell ⟨g, 21, none⟩ (by simp)).trans j0
  replace k1 := (O2.cell ⟨g, 22, none⟩ (by simp)).trans j1
  replace j2 := (O2.cell ⟨g, 23, none⟩ (by simp)).trans j2
  have U2 := hide (both_set (U1.out.1.trans (O2.wide (o' := 21) (n' := 36) (by decide) (by decide))) (fun j h1 h2 => by rw [O2.cell _ (by simp; omega)]; exact U1.out.2 j h1 h2) 22 (by decide) (by decide) (.bool true))
  have fz1 := (O2.frozen ⟨g, 22, none⟩).trans ((U1.out.1.frozen ⟨g, 22, none⟩).trans f1)
  replace R2 := hide (R2.setFar (i := 22) (by decide) (.bool true))
  replace j0 := (World.cell?_setCell_other w2 ⟨g, 22, none⟩ ⟨g, 21, none⟩ (.bool true) (by simp)).trans j0
  replace j1 := World.cell?_setCell_same w2 ⟨g, 22, none⟩ (.bool true) k1
  replace j2 := (World.cell?_setCell_other w2 ⟨g, 22, none⟩ ⟨g, 23, none⟩ (.bool true) (by simp)).trans j2
  clear R1 O2 U1 k0 fz0
  go_wp2_with fail
  (with_reducible refine (cB.out _ _ _ _ R2.out).mono ?_)
  rintro e w3 ⟨rfl, R3, O3⟩
  replace j0 := (O3.cell ⟨g, 21, none⟩ (by simp)).trans j0
  replace j1 := (O3.cell ⟨g, 22, none⟩ (by simp)).trans j1
  replace j2 := (O3.cell ⟨g, 23, none⟩ (by simp)).trans j2
  have U3 := hide (And.intro (U2.out.1.trans (O3.wide (o' := 21) (n' := 36) (by decide) (by decide))) (fun j h1 h2 => by rw [O3.cell _ (by simp; omega)]; exact U2.out.2 j h1 h2 : ∀ j, 21 ≤ j → j < 35 → (w3.cell? ⟨g, j, none⟩).isSome = true))
  replace R3 := hide R3
  clear R2 O3 U2 k1 fz1
  go_wp2_with fail
  (with_reducible refine (cB.out _ _ _ _ R3.out).mono ?_)
  rintro e w4 ⟨rfl, R4, O4⟩
  replace j0 := (O4.cell ⟨g, 21, none⟩ (by simp)).trans j0
  replace j1 := (O4.cell ⟨g, 22, none⟩ (by simp)).trans j1
  replace k2 := (O4.cell ⟨g, 23, none⟩ (by simp)).trans j2
  have fz2 := (O4.frozen ⟨g, 23, none⟩).trans ((U3.out.1.frozen ⟨g, 23, none⟩).trans f2)
  have U4 := hide ((U3.out.1.trans (O4.wide (o' := 21) (n' := 36) (by decide) (by decide))).setCell 23 (by decide) (by decide) (.bool rel))
  replace R4 := hide (R4.setFar (i := 23) (by decide) (.bool rel))
  have hH4 : ∀ j, 21 ≤ j → j < 35 → (w4.cell? ⟨g, j, none⟩).isSome = true := by
    intro j h1 h2
    rw [O4.cell _ (by simp; omega)]
    exact U3.out.2 j h1 h2
  have S4 : Hid (SegAt (w4.setCell ⟨g, 23, none⟩ (.bool rel)) g rel q s p 0 0 0) := hide ⟨(World.cell?_setCell_other w4 ⟨g, 23, none⟩ ⟨g, 21, none⟩ (.bool rel) (by simp)).trans j0,
    (World.cell?_setCell_other w4 ⟨g, 23, none⟩ ⟨g, 22, none⟩ (.bool rel) (by simp)).trans j1, World.cell?_setCell_same w4 ⟨g, 23, none⟩ (.bool rel) k2, fun j hj => absurd hj (by omega), fun j hj => absurd hj (by omega), fun j hj => absurd hj (by omega), some_set hH4 23 (.bool rel)⟩
  clear R3 O4 U3 j0 j1 j2 f0 f1 f2 hH4 hH cB
  have cQ := hide (opt7 g 51 A cap bytes)
  go_wp2
  go_loopg [2, 44] 4 (fun k u2 u44 wr => ∃ i : Nat, k + i = 4 ∧ u44 = .int .i64 i ∧ SegAt wr g rel q s p i 0 0 ∧ Only g 21 36 w wr ∧ Rdr wr g 51 A cap bytes (hdE rel ++ optsE q 7 i) (optsF q 7 4 k ++ (optsE s 6 4 ++ psE p 3)))
  case atStart =>
    refine ⟨0, rfl, rfl, S4.out, U4.out, ?_⟩
    have h := R4.out
    rw [opts_split q 7 4 4 (by decide)] at h
    simpa [hdE, optsE] using h
  case round =>
    obtain ⟨i, hi, rfl, hS, hO, hR⟩ := hrel
    clear S4 U4 R4
    cases gk with
    | zero =>
      have hi4 : i = 4 := by omega
      subst hi4
      have S5 := hide hS
      have U5 := hide hO
      have R5 := hide hR
      clear hS hO hR hi
      obtain ⟨wa, hwa⟩ : ∃ wa, wa = wr := ⟨_, rfl⟩
      subst hwa
      have cP := hide (opt6 g 51 A cap bytes)
      clear cQ
      go_wp2
      go_loopg [3, 59] 4 (fun k u3 u59 wr => ∃ i : Nat, k + i = 4 ∧ u59 = .int .i64 i ∧ SegAt wr g rel q s p 4 i 0 ∧ Only g 21 36 w wr ∧ Rdr wr g 51 A cap bytes ((hdE rel ++ optsE q 7 4) ++ optsE s 6 i) (optsF s 6 4 k ++ psE p 3))
      case atStart =>
        refine ⟨0, rfl, rfl, S5.out, U5.out, ?_⟩
        have h := R5.out
        rw [opts_split s 6 4 4 (by decide)] at h
        simpa [optsE, optsF] using h
      case round =>
        obtain ⟨i, hi, rfl, hS, hO, hR⟩ := hrel
        clear S5 U5 R5
        cases gk with
        | zero =>
          have hi4 : i = 4 := by omega
          subst hi4
          have S5 := hide hS
          have U5 := hide hO
          have R5 := hide hR
          have m5 := hS.m
          clear hS hO hR hi
          obtain ⟨wb, hwb⟩ : ∃ wb, wb = wr := ⟨_, rfl⟩
          subst hwb
          have cB := hide (bit128 g 51 A cap bytes)
          have cU := hide (uint8 g 51 A cap bytes)
          clear cP
          go_wp2
          go_loopg [4, 80] 3 (fun k u4 u80 wr => ∃ i : Nat, k + i = 3 ∧ u80 = .int .i64 i ∧ SegAt wr g rel q s p 4 4 i ∧ Only g 21 36 w wr ∧ Rdr wr g 51 A cap bytes (((hdE rel ++ optsE q 7 4) ++ optsE s 6 4) ++ psE p i) (psF p 3 k))
          case atStart =>
            refine ⟨0, rfl, rfl, S5.out, U5.out, ?_⟩
            have h := R5.out
            rw [ps_split p 3 3 (by decide)] at h
            simpa [psE, optsF] using h
          case round =>
            obtain ⟨i, hi, rfl, hS, hO, hR⟩ := hrel
            clear S5 U5 R5 m5
            cases gk with
            | zero =>
              have hi3 : i = 3 := by omega
              subst hi3
              replace hS := hide hS
              replace hO := hide hO
              replace hR := hide hR
              go_wp2
              go_end0
              refine ⟨rfl, hS.out, hO.out, ?_⟩
              have h := hR.out
              simpa [segE, psF] using h
            | succ k =>
              have hi3 : i < 3 := by omega
              have hii : (i : Int) < 3 := by omega
              have hi0 : (0 : Int) ≤ (i : Int) := by omega
              have hE : psF p 3 (k + 1) = pEv (p i) ++ psF p 3 k := by
                rw [psF, show 3 - (k + 1) = i by omega]
              rw [hE] at hR
              obtain ⟨v, hv⟩ := Option.isSome_iff_exists.1 (hS.o (32 + i) (by omega) (by omega))
              have hf := (hO.frozen ⟨g, 32 + i, none⟩).trans (hF.out _)
              have hb := hp.out i
              have hsn : psE p (i + 1) = psE p i ++ pEv (p i) := rfl
              have hcu := fun dn rs w R => cU.out dn rs (p i) w hb R
              unfold pEv at hR hsn
              generalize hy : p i = y at *
              have V : IntKind.u8.wrap (y : Int) = (y : Int) := IntWalk.u8_in _ (by omega)
              have hbi : (y : Int) ≤ 255 := by omega
              replace hy := hide hy
              replace hS := hide hS
              replace hO := hide hO
              replace hsn := hide hsn
              replace hcu := hide hcu
              clear hE cU
              by_cases h255 : y = 255
              · subst h255
                rw [if_pos rfl] at hR
                replace hR := hide hR
                replace hv := hide hv
                go_wp2_with fail
                (with_reducible refine (cB.out _ _ _ _ hR.out).mono ?_)
                rintro e w5 ⟨rfl, hR5, hO5⟩
                have hv5 := (hO5.cell ⟨g, 32 + i, none⟩ (by simp; omega)).trans hv.out
                have hf5 := (hO5.frozen ⟨g, 32 + i, none⟩).trans hf
                replace hR5 := hide hR5
                replace hO5 := hide hO5
                go_wp2
                go_roundg k
                case measure => omega
                case rel =>
                  refine ⟨i + 1, by omega, by go_num, ?_, (hO.out.trans (hO5.out.wide (by decide) (by decide))).setCell (32 + i) (by omega) (by omega) _, ?_⟩
                  · have h := (hS.out.fp (by decide) (by decide) (by omega) hO5.out).addP hi3
                    rw [hy.out] at h
                    exact h
                  · have h := hR5.out.setFar (i := 32 + i) (by omega) (.int .u8 255)
                    rw [hsn.out]
                    simpa using h
              · rw [if_neg h255] at hR
                simp only [List.cons_append] at hR
                replace hR := hide hR
                replace hv := hide hv
                go_wp2_with fail
                (with_reducible refine (cB.out _ _ _ _ hR.out).mono ?_)
                rintro e w5 ⟨rfl, hR5, hO5⟩
                have hv5 := (hO5.cell ⟨g, 32 + i, none⟩ (by simp; omega)).trans hv.out
                have hf5 := (hO5.frozen ⟨g, 32 + i, none⟩).trans hf
                replace hv5 := hide hv5
                replace hR5 := hide hR5
                replace hO5 := hide hO5
                go_wp2
                go_region_with (go_at_call 54; (with_reducible refine (hcu.out _ _ _ hR5.out.drew).mono ?_); rintro e w6 ⟨rfl, hR6, hO6⟩; have hv6 := (hO6.cell ⟨g, 32 + i, none⟩ (by simp; omega)).trans hv5.out; have hf6 := (hO6.frozen ⟨g, 32 + i, none⟩).trans hf5; replace hR6 := hide hR6; replace hO6 := hide hO6)
                go_wp2
                go_roundg k
                case measure => omega
                case rel =>
                  refine ⟨i + 1, by omega, by go_num, ?_, ((hO.out.trans (hO5.out.wide (by decide) (by decide))).drew.trans (hO6.out.wide (by decide) (by decide))).setCell (32 + i) (by omega) (by omega) _, ?_⟩
                  · have h := (((hS.out.fp (by decide) (by decide) (by omega) hO5.out).drewN 1).fp (by decide) (by decide) (by omega) hO6.out).addP hi3
                    rw [hy.out] at h
                    exact h
                  · have h := hR6.out.setFar (i := 32 + i) (by omega) (.int .u8 y)
                    rw [hsn.out, if_neg h255]
                    simpa using h
        | succ k =>
          have hi4 : i < 4 := by omega
          have hii : (i : Int) < 4 := by omega
          have hi0 : (0 : Int) ≤ (i : Int) := by omega
          have hE : optsF s 6 4 (k + 1) ++ psE p 3 = optEv (optN (s i) 6) 128 6 (decide (s i < 0)) ++ (optsF s 6 4 k ++ psE p 3) := by
            rw [optsF, show 4 - (k + 1) = i by omega, List.append_assoc]
          rw [hE] at hR
          obtain ⟨v, hv⟩ := Option.isSome_iff_exists.1 (hS.o (28 + i) (by omega) (by omega))
          have hf := (hO.frozen ⟨g, 28 + i, none⟩).trans (hF.out _)
          have hb := optV_bd6 (s i)
          have V : IntKind.i8.wrap (optV (s i) 6) = optV (s i) 6 := IntWalk.i8_in _ (by omega)
          have cPi := fun dn rs w R => cP.out dn rs (s i) w R
          generalize hy : optV (s i) 6 = y at *
          replace cPi := hide cPi
          obtain ⟨hb1, hb2⟩ := hb
          replace hy := hide hy
          replace hS := hide hS
          replace hO := hide hO
          replace hR := hide hR
          replace hv := hide hv
          clear hE
          go_wp2
          go_region_with (go_at_call 56; (with_reducible refine (cPi.out _ _ _ hR.out.drew).mono ?_); rintro e w5 ⟨rfl, hR5, hO5⟩; have hv5 := (hO5.cell ⟨g, 28 + i, none⟩ (by simp; omega)).trans hv.out; have hf5 := (hO5.frozen ⟨g, 28 + i, none⟩).trans hf; replace hR5 := hide hR5; replace hO5 := hide hO5)
          go_wp2
          go_roundg k
          case measure => omega
          case rel =>
            refine ⟨i + 1, by omega, by go_num, ?_, (hO.out.drew.trans (hO5.out.wide (by decide) (by decide))).setCell (28 + i) (by omega) (by omega) _, ?_⟩
            · rw [← hy.out]
              exact ((hS.out.drewN 1).fp (by decide) (by omega) (by decide) hO5.out).addS hi4
            · have h := hR5.out.setFar (i := 28 + i) (by omega) (.int .i8 y)
              simpa [optsE] using h
    | succ k =>
      have hi4 : i < 4 := by omega
      have hii : (i : Int) < 4 := by omega
      have hi0 : (0 : Int) ≤ (i : Int) := by omega
      have hE : optsF q 7 4 (k + 1) = optEv (optN (q i) 7) 128 7 (decide (q i < 0)) ++ optsF q 7 4 k := by
        rw [optsF, show 4 - (k + 1) = i by omega]
      rw [hE, List.append_assoc] at hR
      obtain ⟨v, hv⟩ := Option.isSome_iff_exists.1 (hS.o (24 + i) (by omega) (by omega))
      have hf := (hO.frozen ⟨g, 24 + i, none⟩).trans (hF.out _)
      have hb := optV_bd7 (q i)
      have V : IntKind.i8.wrap (optV (q i) 7) = optV (q i) 7 := IntWalk.i8_in _ (by omega)
      have cQi := fun dn rs w R => cQ.out dn rs (q i) w R
      generalize hy : optV (q i) 7 = y at *
      replace cQi := hide cQi
      obtain ⟨hb1, hb2⟩ := hb
      replace hy := hide hy
      replace hS := hide hS
      replace hO := hide hO
      replace hR := hide hR
      replace hv := hide hv
      clear hE
      go_wp2
      go_region_with (go_at_call 56; (with_reducible refine (cQi.out _ _ _ hR.out.drew).mono ?_); rintro e w5 ⟨rfl, hR5, hO5⟩; have hv5 := (hO5.cell ⟨g, 24 + i, none⟩ (by simp; omega)).trans hv.out; have hf5 := (hO5.frozen ⟨g, 24 + i, none⟩).trans hf; replace hR5 := hide hR5; replace hO5 := hide hO5)
      go_wp2
      go_roundg k
      case measure => omega
      case rel =>
        refine ⟨i + 1, by omega, by go_num, ?_, (hO.out.drew.trans (hO5.out.wide (by decide) (by decide))).setCell (24 + i) (by omega) (by omega) _, ?_⟩
        · rw [← hy.out]
          exact ((hS.out.drewN 1).fp (by omega) (by decide) (by decide) hO5.out).addQ hi4
        · have h := hR5.out.setFar (i := 24 + i) (by omega) (.int .i8 y)
          simpa [optsE] using h
end Go.Proofs.YthbidebcljegjaaDoor

/- 'inverseColorIndexing' with one number a pixel: the walk. -/
import Derived.Test.YtpiapfahcoopbaaIdxPlain
namespace Go.Proofs.Ytpiapfahcoopbaa
set_option linter.unusedSimpArgs false
set_option linter.unusedVariables false
open Go.RowKit Plain

theorem blkN_zero (W : Nat) : blkN W 0 = W := by simp [blkN]
theorem kAt_zero (P : List Int) (W i : Nat) (hB : Byt P) (hW : 1 ≤ W) : ((kAt P W 0 i : Nat) : Int) = P.getD (4 * i + 1) 0 := by
  unfold kAt
  rw [kN_cast _ _ _ _ _ (by decide)]
  unfold kI
  have e : i / W * W + i % W = i := by rw [Nat.mul_comm]; exact Nat.div_add_mod i W
  have h := hB (4 * i + 1)
  rw [blkN_zero, Nat.pow_zero, Nat.div_one, Nat.mod_one, e]
  generalize P.getD (4 * i + 1) 0 = x at *
  simp [ea]
  omega

set_option maxRecDepth 100000 in
set_option maxHeartbeats 2000000 in
theorem idx0_any (T g cap W N : Nat) (H : Int) (base : Nat) (Ad : Option Addr) (capd : Nat) (P D : List Int) (w : World) (hW : 1 ≤ W) (hN : (N : Int) ≤ 16384) (hP : P.length = 4 * N) (hPB : Byt P) (hDl : D.length = 1024) (hT : T ≠ g)
    (hTB : Blk w T 55 #[.int .u32 0, .int .i32 W, .int .u32 0, .slice Ad 1024 capd]) (hrd : Rd .u8 w base Ad D)
    (hown : w.ownsRow base 5 1 (.slice (some ⟨g, 0, none⟩) (4 * N) cap) (4 * N) (P.map (Value.int .u8))) :
    Calls Try.prog 33 #[.pointer (some ⟨T, 0, none⟩), .slice (some ⟨g, 0, none⟩) (4 * N) cap, .int .i32 H] w fun e w' => e = .returned (.slice (some ⟨g, 0, none⟩) (4 * N) cap) ∧
      w'.ownsRow base 5 1 (.slice (some ⟨g, 0, none⟩) (4 * N) cap) (4 * N) ((outN P D W 0 N).map (Value.int .u8)) ∧ Upd [g] w w' := by
  have t2 := hTB.cell 2
  simp at t2
  have hlen := outN_len P D W 0 N
  have hcast : ((4 * N : Nat) : Int) = 4 * (N : Int) := by omega
  have hTw : T < w.heap.size := hTB.lt
  replace hPB := hide hPB
  replace hrd := hide hrd
  replace hTB := hide hTB
  replace hown := hide hown
  replace hP := hide hP
  replace hDl := hide hDl
  replace hlen := hide hlen
  go_enter Try.func33, Try.ntmps33
  go_wp2
  go_loopg [7] N (fun k u7 wr => ∃ m : Nat, k + m = N ∧ u7 = .int .i64 (4 * (m : Int)) ∧ wr.ownsRow base 5 1 (.slice (some ⟨g, 0, none⟩) (4 * N) cap) (4 * N) ((halfP (outN P D W 0 N) P m).map (Value.int .u8)) ∧ Upd [g] w wr)
  case atStart => exact ⟨0, rfl, by simp, by rw [halfP_none]; exact hown.out, Upd.refl _ _⟩
  case round =>
    obtain ⟨m, hm, rfl, ho, hU⟩ := hrel
    cases gk with
    | zero =>
      have hm' : m = N := by omega
      subst hm'
      rw [halfP_full _ _ _ (by rw [hP.out, hlen.out]) hlen.out] at ho
      replace ho := hide ho
      replace hU := hide hU
      clear t2
      go_wp2
      go_ret
      exact ⟨rfl, ho.out, hU.out⟩
    | succ k =>
      have hmN : m < N := by omega
      have hmNi : (m : Int) < (N : Int) := by omega
      have hPl : P.length = (outN P D W 0 N).length := by rw [hP.out, hlen.out]
      have hk := kAt_zero P W m hPB.out hW
      have hk2 := kAt_lt P W 0 m (by decide)
      have hst := halfO_step (outN P D W 0 N) P m hPl (by rw [hlen.out]; omega)
      have g0 := outN_get P D W 0 N m hmN 0 (by decide)
      have g1 := outN_get P D W 0 N m hmN 1 (by decide)
      have g2 := outN_get P D W 0 N m hmN 2 (by decide)
      have g3 := outN_get P D W 0 N m hmN 3 (by decide)
      rw [Nat.add_zero, Nat.add_zero] at g0
      rw [g0, g1, g2, g3] at hst
      have hx := own_cell ho (4 * m + 1) (by omega)
      rw [halfP_hi _ _ _ _ hPl (by rw [hlen.out]; omega) (by omega), ← hk] at hx
      generalize kAt P W 0 m = q at *
      obtain ⟨bd, offd, rfl, hbd, hcd⟩ := hrd.out.at_ (j := 4 * q) (by rw [hDl.out]; omega)
      have hgb : base ≤ g := (hown.out.lt g rfl).1
      have dc := fun c (hc : c < 4) => (hU.cell (p := ⟨bd, offd + (4 * q + c), none⟩) (by have := (hown.out.lt g rfl).2; simp; omega) (by simp; omega)).trans (hcd (4 * q + c) (by rw [hDl.out]; omega))
      have d0 := dc 0 (by decide)
      have d1 := dc 1 (by decide)
      have d2 := dc 2 (by decide)
      have d3 := dc 3 (by decide)
      rw [Nat.add_zero] at d0
      have hbg : bd ≠ g := by omega
      have hbg' : g ≠ bd := by omega
      have hT' : g ≠ T := fun e => hT e.symm
      have t3 := (hU.cell (p := ⟨T, 3, none⟩) hTw (by simp; omega)).trans (hTB.out.cell 3)
      simp at t3
      clear dc hcd t2 g0 g1 g2 g3
      generalize D.getD (4 * q) 0 = y0 at *
      generalize D.getD (4 * q + 1) 0 = y1 at *
      generalize D.getD (4 * q + 2) 0 = y2 at *
      generalize D.getD (4 * q + 3) 0 = y3 at *
      have o1 := own_set ho (4 * m) y0
      have o2 := own_set o1 (4 * m + 1) y1
      have o3 := own_set o2 (4 * m + 2) y2
      have o4 := own_set o3 (4 * m + 3) y3
      rw [hst] at o4
      have v0 := own_cell ho (4 * m) (by omega)
      have v1 := own_cell o1 (4 * m + 1) (by omega)
      have v2 := own_cell o2 (4 * m + 2) (by omega)
      have v3 := own_cell o3 (4 * m + 3) (by omega)
      have hf := ho.frozenAt (4 * m)
      have hf1 := o1.frozenAt (4 * m + 1)
      have hf2 := o2.frozenAt (4 * m + 2)
      have hf3 := o3.frozenAt (4 * m + 3)
      have t31 := (World.cell?_setCell_other wr ⟨g, 4 * m, none⟩ ⟨T, 3, none⟩ (.int .u8 y0) (by simp [hT, hT'])).trans t3
      have d11 := (World.cell?_setCell_other wr ⟨g, 4 * m, none⟩ ⟨bd, offd + (4 * q + 1), none⟩ (.int .u8 y0) (by simp [hbg, hbg'])).trans d1
      have d21 := (World.cell?_setCell_other wr ⟨g, 4 * m, none⟩ ⟨bd, offd + (4 * q + 2), none⟩ (.int .u8 y0) (by simp [hbg, hbg'])).trans d2
      have d31 := (World.cell?_setCell_other wr ⟨g, 4 * m, none⟩ ⟨bd, offd + (4 * q + 3), none⟩ (.int .u8 y0) (by simp [hbg, hbg'])).trans d3
      have t32 := (World.cell?_setCell_other _ ⟨g, 4 * m + 1, none⟩ ⟨T, 3, none⟩ (.int .u8 y1) (by simp [hT, hT'])).trans t31
      have d22 := (World.cell?_setCell_other _ ⟨g, 4 * m + 1, none⟩ ⟨bd, offd + (4 * q + 2), none⟩ (.int .u8 y1) (by simp [hbg, hbg'])).trans d21
      have d32 := (World.cell?_setCell_other _ ⟨g, 4 * m + 1, none⟩ ⟨bd, offd + (4 * q + 3), none⟩ (.int .u8 y1) (by simp [hbg, hbg'])).trans d31
      have t33 := (World.cell?_setCell_other _ ⟨g, 4 * m + 2, none⟩ ⟨T, 3, none⟩ (.int .u8 y2) (by simp [hT, hT'])).trans t32
      have d33 := (World.cell?_setCell_other _ ⟨g, 4 * m + 2, none⟩ ⟨bd, offd + (4 * q + 3), none⟩ (.int .u8 y2) (by simp [hbg, hbg'])).trans d32
      generalize (((halfP (outN P D W 0 N) P m).set (4 * m) y0).set (4 * m + 1) y1).getD (4 * m + 2) 0 = vv2 at *
      generalize ((halfP (outN P D W 0 N) P m).set (4 * m) y0).getD (4 * m + 1) 0 = vv1 at *
      generalize (halfP (outN P D W 0 N) P m).getD (4 * m) 0 = vv0 at *
      generalize ((((halfP (outN P D W 0 N) P m).set (4 * m) y0).set (4 * m + 1) y1).set (4 * m + 2) y2).getD (4 * m + 3) 0 = vv3 at *
      have e0 : (4 * (m : Int)).toNat = 4 * m := by omega
      have e1 : (4 * (m : Int) + 1).toNat = 4 * m + 1 := by omega
      have e2 : (4 * (m : Int) + 2).toNat = 4 * m + 2 := by omega
      have e3 : (4 * (m : Int) + 3).toNat = 4 * m + 3 := by omega
      have k0 : (4 * (q : Int)).toNat = 4 * q := by omega
      have k1 : (4 * (q : Int) + 1).toNat = 4 * q + 1 := by omega
      have k2 : (4 * (q : Int) + 2).toNat = 4 * q + 2 := by omega
      have k3 : (4 * (q : Int) + 3).toNat = 4 * q + 3 := by omega
      have hq : (q : Int) ≤ 255 := by omega
      have hq0 : (0 : Int) ≤ (q : Int) := by omega
      have hm0 : (0 : Int) ≤ (m : Int) := by omega
      replace o4 := hide o4
      replace hU := hide hU
      replace hst := hide hst
      replace hk := hide hk
      clear o1 o2 o3 ho d1 d2 d3 d21 d31 d32 hPl
      go_wp2
      go_roundg k
      case measure => omega
      case rel => exact ⟨m + 1, by omega, by go_num, o4.out, (((hU.out.setCell (.inl (by simp)) _).setCell (.inl (by simp)) _).setCell (.inl (by simp)) _).setCell (.inl (by simp)) _⟩
end Go.Proofs.Ytpiapfahcoopbaa

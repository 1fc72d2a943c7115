/- Colours are put in the place of their numbers, 2 of them in one: the law's main case. Printed by mk_ilaw.py. -/
import Derived.Test.YtpiapfahcoopbaaIdxDoor
import Derived.Test.YtpiapfahcoopbaaColorSmall
namespace Go.Proofs.Ytpiapfahcoopbaa
set_option linter.unusedSimpArgs false
set_option linter.unusedVariables false
open Go.RowKit Plain

set_option maxRecDepth 100000 in
set_option maxHeartbeats 4000000 in
theorem index1_main (W H : Nat) (Ad Ap : Option Addr) (capd capp : Nat) (P D : List Int) (w : World) (hW : 1 ≤ W) (hH1 : 1 ≤ H) (hW2 : (W : Int) ≤ 16384) (hH : (H : Int) ≤ 16384) (hWH : ((W * H : Nat) : Int) ≤ 16384)
    (hPB : Byt P) (hDB : Byt D) (hP : P.length = 4 * (H * blkN W 1)) (hD : D.length = 1024) (hcd : 1024 ≤ capd) (hrd : Rd .u8 w w.heap.size Ad D) (hrp : Rd .u8 w w.heap.size Ap P) :
    Calls Try.prog 4 #[.int .i64 W, .int .i64 H, .int .i64 1, .slice Ad D.length capd, .slice Ap P.length capp] w fun e w' => e = .returned (.bool true) ∧ Below w.heap.size w w' := by
  have cB := fun w' => lblocks_any W 1 w' hW2 (by decide)
  change ∀ w', Calls Try.prog 16 #[.int .i64 W, .int .i64 1] w' _ at cB
  have cI := implIdx_any 1 W H (by decide) Ap Ad capp capd P D w hW hH1 hW2 hH hWH hPB hP hD hrd hrp
  change Calls Try.prog 17 #[.int .i64 W, .int .i64 H, .int .i64 1, .slice Ad 1024 capd, .slice Ap (4 * (H * blkN W 1)) capp] w _ at cI
  rw [← hP, ← hD] at cI
  have hWHi : (W : Int) * (H : Int) ≤ 16384 := by rw [← Int.natCast_mul]; exact hWH
  have hWH1 : (1 : Int) ≤ (W : Int) * (H : Int) := by rw [← Int.natCast_mul]; have := Nat.mul_pos hW hH1; omega
  have hbH : H * blkN W 1 ≤ H * W := Nat.mul_le_mul_left _ (blkN_le W 1)
  rw [Nat.mul_comm H W] at hbH
  have hPi : (P.length : Int) = 4 * ((blkN W 1 : Nat) : Int) * (H : Int) := by rw [hP, Int.mul_assoc, Int.mul_comm ((blkN W 1 : Nat) : Int), ← Int.natCast_mul]; rfl
  have hPm : (P.length : Int) ≤ 65536 := by omega
  have hDi : (D.length : Int) = 1024 := by omega
  have t1 : ((P.length : Int) != 4 * ((blkN W 1 : Nat) : Int) * (H : Int)) = false := by rw [hPi]; simp
  have t2 : ((D.length : Int) != 1024) = false := by rw [hDi]; rfl
  have t3 : ¬ (2147483647 : Int) < (P.length : Int) := by omega
  have t4 : ¬ (2147483647 : Int) < (D.length : Int) := by omega
  have t5 : ¬ (W : Int) < 1 := by omega
  have t6 : ¬ (H : Int) < 1 := by omega
  have t7 : ¬ (16384 : Int) < (W : Int) := by omega
  have t8 : ¬ (16384 : Int) < (H : Int) := by omega
  have t9 : ¬ (16384 : Int) < (W : Int) * (H : Int) := by omega
  have hblb : ((blkN W 1 : Nat) : Int) ≤ 16384 := by have := blkN_le W 1; omega
  have hbl0 : (0 : Int) ≤ ((blkN W 1 : Nat) : Int) := by omega
  have hb4 : (0 : Int) ≤ 4 * ((blkN W 1 : Nat) : Int) * (H : Int) := by omega
  have hb5 : 4 * ((blkN W 1 : Nat) : Int) * (H : Int) ≤ 65536 := by omega
  have w4 : 4 * (W : Int) * (H : Int) = ((4 * (W * H) : Nat) : Int) := by rw [Int.natCast_mul, Int.natCast_mul, Int.mul_assoc]; rfl
  have t10 : (((4 * (W * H) : Nat) : Int) != 4 * (W : Int) * (H : Int)) = false := by rw [w4]; simp
  have hb6 : 4 * (W : Int) * (H : Int) ≤ 65536 := by rw [w4]; omega
  have hb7 : 0 ≤ 4 * (W : Int) * (H : Int) := by rw [w4]; omega
  replace cB := hide cB
  replace cI := hide cI
  replace hPi := hide hPi
  replace hDi := hide hDi
  replace w4 := hide w4
  replace hrd := hide hrd
  replace hrp := hide hrp
  replace hPB := hide hPB
  replace hDB := hide hDB
  replace hP := hide hP
  replace hD := hide hD
  go_enter Try.func4, Try.ntmps4
  go_wp2_with fail
  (with_reducible refine (cB.out _).mono ?_)
  rintro e w' ⟨rfl, rfl⟩
  go_wp2_with fail
  (with_reducible refine (cI.out).mono ?_)
  rintro e w2 ⟨g2, c2, rfl, ho2, hb2⟩
  replace ho2 := hide ho2
  replace hb2 := hide hb2
  go_wp2_with fail
  go_loopg [12] (W * H) (fun k u12 wr => ∃ m j : Nat, k + m = W * H ∧ u12 = .int .i64 m ∧ wr = w2.drewN j)
  case atStart => exact ⟨0, 0, rfl, rfl, rfl⟩
  case round =>
    obtain ⟨m, j, hm, rfl, rfl⟩ := hrel
    have hbd := hide (below_drewN hb2.out j)
    cases gk with
    | zero =>
      have tz : ¬ (m : Int) < (W : Int) * (H : Int) := by rw [← Int.natCast_mul]; omega
      have cS := specIdx_any 1 W H (by decide) Ap Ad capp capd P D (w2.drewN j) hW hW2 hH hWH hPB.out hDB.out hP.out hD.out ((hrd.out.below hbd.out).more hbd.out.size) ((hrp.out.below hbd.out).more hbd.out.size)
      change Calls Try.prog 18 #[.int .i64 W, .int .i64 H, .int .i64 1, .slice Ad D.length capd, .slice Ap P.length capp] (w2.drewN j) _ at cS
      replace cS := hide cS
      go_wp2_with fail
      (with_reducible refine (cS.out).mono ?_)
      rintro e w5 ⟨A5, c5, rfl, hr5, hb5⟩
      have hb6 := hide (hbd.out.trans (hb5.mono hbd.out.size))
      have cb := bytes_same _ A5 c2 c5 (outN P D W 1 (W * H)) w5 _ _ (by rw [outN_len]; omega) (Rd.ofOwn ((Upd.ofBelow (S := []) hb5).own (own_drewN ho2.out j) (by simp))) hr5
      rw [outN_len] at cb
      replace cb := hide cb
      clear hr5 hb5 cS
      go_wp2_with fail
      (with_reducible refine (cb.out).mono ?_)
      rintro e w7 ⟨rfl, n7, rfl⟩
      go_wp2_with fail
      refine (readSums_any _).mono ?_
      rintro e w8 ⟨rfl, rfl⟩
      go_wp2
      go_ret
      exact ⟨rfl, below_drewN hb6.out _⟩
    | succ k =>
      have hmN : m < W * H := by omega
      have tm : (m : Int) < (W : Int) * (H : Int) := by rw [← Int.natCast_mul]; omega
      have hdx : (m : Int) / (W : Int) = ((m / W : Nat) : Int) := by simp
      have hmx : (m : Int) % (W : Int) = ((m % W : Nat) : Int) := by simp
      have hxW : m % W < W := Nat.mod_lt _ (by omega)
      have hyH : m / W < H := Nat.div_lt_of_lt_mul hmN
      have hmx0 : (0 : Int) ≤ (m : Int) := by omega
      have hWne : ¬ (W : Int) = 0 := by omega
      have hmyx : m = m / W * W + m % W := by rw [Nat.mul_comm]; exact (Nat.div_add_mod m W).symm
      have hk : kAt P W 1 m = kN P W 1 (m / W) (m % W) := rfl
      generalize m / W = y at *
      generalize m % W = x at *
      have hki := kN_cast P W 1 y x (by decide)
      have hk2 := kN_lt P W 1 y x (by decide)
      rw [kU1] at hki
      have hq2 : y * blkN W 1 + blkN W 1 ≤ H * blkN W 1 := by
        have h1 : (y + 1) * blkN W 1 ≤ H * blkN W 1 := Nat.mul_le_mul_right _ hyH
        rw [Nat.add_mul, Nat.one_mul] at h1
        exact h1
      have hqm : (y : Int) * ((blkN W 1 : Nat) : Int) = ((y * blkN W 1 : Nat) : Int) := by rw [Int.natCast_mul]
      generalize hQ0 : y * blkN W 1 = q0 at *
      have hab := div_lt_blk x W 1 hxW
      rw [show x / 2 ^ 1 = x / 2 from rfl] at hab
      have hxd : (x : Int) / 2 = ((x / 2 : Nat) : Int) := by omega
      have hxm : (x : Int) % 2 = ((x % 2 : Nat) : Int) := by omega
      have hrK : x % 2 < 2 := Nat.mod_lt _ (by decide)
      generalize kN P W 1 y x = q at *
      generalize x / 2 = a at *
      generalize x % 2 = r at *
      have hP4 := hP.out
      obtain ⟨b, off, rfl, hbb, hc⟩ := hrp.out.at_ (j := 4 * (q0 + a) + 1) (by omega)
      have c0 := (hb2.out.cell (p := ⟨b, off + (4 * (q0 + a) + 1), none⟩) hbb).trans (hc (4 * (q0 + a) + 1) (by omega))
      have hVb := hPB.out (4 * (q0 + a) + 1)
      clear hc
      generalize P.getD (4 * (q0 + a) + 1) 0 = V at *
      have hPi4 : 4 * ((q0 : Int) + (a : Int)) + 1 < (P.length : Int) := by omega
      have hPt4 : (4 * ((q0 : Int) + (a : Int)) + 1).toNat = 4 * (q0 + a) + 1 := by omega
      have hq0i : (0 : Int) ≤ (q0 : Int) := by omega
      have hq0b : (q0 : Int) ≤ 16384 := by omega
      have hab2 : (a : Int) ≤ 16384 := by omega
      have hw1 : IntKind.i64.wrap ((q0 : Int) + (a : Int)) = (q0 : Int) + (a : Int) := IntWalk.i64_in _ (by omega)
      have hw2 : IntKind.i64.wrap (4 * ((q0 : Int) + (a : Int))) = 4 * ((q0 : Int) + (a : Int)) := IntWalk.i64_in _ (by omega)
      have hw3 : IntKind.i64.wrap (4 * ((q0 : Int) + (a : Int)) + 1) = 4 * ((q0 : Int) + (a : Int)) + 1 := IntWalk.i64_in _ (by omega)
      have hw4 : IntKind.i64.wrap (q0 : Int) = (q0 : Int) := IntWalk.i64_in _ (by omega)
      have hP0 : 0 ≤ 4 * ((q0 : Int) + (a : Int)) + 1 := by omega
      have ha0i : (0 : Int) ≤ (a : Int) := by omega
      have hx0i : (0 : Int) ≤ (x : Int) := by omega
      have hr0i : (0 : Int) ≤ (r : Int) := by omega
      have hrKi : (r : Int) < 2 := by omega
      have hrt : ((r : Int) * 4).toNat = r * 4 := by omega
      have hqi : (q : Int) < 256 := by omega
      have hq0i' : (0 : Int) ≤ (q : Int) := by omega
      have hxa : bits .and .i64 (x : Int) (2 - 1) = (r : Int) := by
        rw [← hxm]
        exact and_mask .i64 1 (by decide) _
      have hxa' : bits .and .i64 (x : Int) 1 = (r : Int) := hxa
      have hV0 : (0 : Int) ≤ V / 2 ^ (r * 4) := Int.ediv_nonneg hVb.1 (Int.le_of_lt (Int.pow_pos (by decide)))
      have hvm : bits .and .i64 (V / 2 ^ (r * 4)) 15 = (q : Int) := by
        rw [hki]
        exact and_mask .i64 4 (by decide) _
      replace hki := hide hki
      replace hk := hide hk
      replace hmyx := hide hmyx
      replace hQ0 := hide hQ0
      replace hP4 := hide hP4
      go_wp2
      go_quiet (fail)
      go_wp2
      go_quiet ((go_at_call 16; first | (with_reducible exact quiet_after (cB.out _)) | (with_reducible exact quiet_first (cB.out _))))
      have hgm := fun c hc => outN_get P D W 1 (W * H) m hmN c hc
      rw [hk.out] at hgm
      have hD4 := hD.out
      obtain ⟨bd, offd, rfl, hbbd, hcd2⟩ := hrd.out.at_ (j := 4 * q) (by omega)
      have hlen := outN_len P D W 1 (W * H)
      have R1 : Rd .u8 w2 w2.heap.size (some ⟨g2, 4 * m, none⟩) [D.getD (4 * q) 0, D.getD (4 * q + 1) 0, D.getD (4 * q + 2) 0, D.getD (4 * q + 3) 0] := by
        refine Rd.ofCells (ho2.out.lt g2 rfl).2 fun c hc => ?_
        have h1 := own_cell ho2.out (4 * m + c) (by simp at hc; omega)
        rw [hgm c (by simpa using hc)] at h1
        rw [h1]
        have hc4 : c < 4 := by simpa using hc
        obtain rfl | rfl | rfl | rfl : c = 0 ∨ c = 1 ∨ c = 2 ∨ c = 3 := by omega
        all_goals rfl
      have R2 : Rd .u8 w2 w.heap.size (some ⟨bd, offd + 4 * q, none⟩) [D.getD (4 * q) 0, D.getD (4 * q + 1) 0, D.getD (4 * q + 2) 0, D.getD (4 * q + 3) 0] := by
        refine Rd.ofCells hbbd fun c hc => ?_
        have hc4 : c < 4 := by simpa using hc
        have h1 := (hb2.out.cell (p := ⟨bd, offd + (4 * q + c), none⟩) hbbd).trans (hcd2 (4 * q + c) (by omega))
        rw [Nat.add_assoc, h1]
        obtain rfl | rfl | rfl | rfl : c = 0 ∨ c = 1 ∨ c = 2 ∨ c = 3 := by omega
        all_goals rfl
      have kby : ∀ ca cb W', W'.heap = w2.heap → Calls Try.prog 13 #[.slice (some ⟨g2, 4 * m, none⟩) 4 ca, .slice (some ⟨bd, offd + 4 * q, none⟩) 4 cb] W' fun e w' => e = .returned (.bool true) ∧ ∃ n, w' = W'.drewN n := by
        intro ca cb W' hh
        refine (bytes_same _ _ ca cb _ W' _ _ (by simp) (R1.keep fun q hq => by simp [World.cell?, hh]) (R2.keep fun q hq => by simp [World.cell?, hh])).mono ?_
        rintro e w' ⟨h1, n, h2⟩
        exact ⟨h1, n, h2.symm⟩
      replace kby := hide kby
      have hcc : 4 * (W * H) ≤ c2 := by
        obtain ⟨A', c', hv, h1, _⟩ := own_len ho2.out
        injection hv with e1 e2 e3
        omega
      have s1 : 4 * (m : Int) + 4 ≤ (c2 : Int) := by omega
      have s2 : 4 * (q : Int) + 4 ≤ (capd : Int) := by omega
      have s3 : (4 * (m : Int)).toNat = 4 * m := by omega
      have s4 : (4 * (q : Int)).toNat = 4 * q := by omega
      have s5 : IntKind.i64.wrap (4 * (m : Int)) = 4 * (m : Int) := IntWalk.i64_in _ (by omega)
      have s6 : IntKind.i64.wrap (4 * (m : Int) + 4) = 4 * (m : Int) + 4 := IntWalk.i64_in _ (by omega)
      have s7 : IntKind.i64.wrap (4 * (q : Int)) = 4 * (q : Int) := IntWalk.i64_in _ (by omega)
      have s8 : IntKind.i64.wrap (4 * (q : Int) + 4) = 4 * (q : Int) + 4 := IntWalk.i64_in _ (by omega)
      have s9 : (4 * (m : Int) + 4).toNat = 4 * m + 4 := by omega
      have s10 : (4 * (q : Int) + 4).toNat = 4 * q + 4 := by omega
      clear R1 R2 hgm
      go_wp2
      go_quiet ((go_at_call 13; first | (with_reducible exact quiet_da (kby.out _ _ _ rfl)) | (with_reducible exact quiet_d (kby.out _ _ _ rfl))))
      go_wp2
      go_roundg k
      case measure => omega
      case rel => exact ⟨m + 1, _, by omega, by go_num, rfl⟩
end Go.Proofs.Ytpiapfahcoopbaa

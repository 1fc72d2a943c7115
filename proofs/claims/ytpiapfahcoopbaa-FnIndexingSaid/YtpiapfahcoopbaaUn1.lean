/- 'unindexed' of the reference with 2 numbers a byte: the walk. Printed by mk_un.py. -/
import Derived.Test.YtpiapfahcoopbaaIdxPlain
import Derived.Test.YtpiapfahcoopbaaIdxSpec
namespace Go.Proofs.Ytpiapfahcoopbaa
set_option linter.unusedSimpArgs false
set_option linter.unusedVariables false
open Go.RowKit Plain

theorem kU1 (P : List Int) (W y x : Nat) : kI P W 1 y x = P.getD (4 * (y * blkN W 1 + x / 2) + 1) 0 / 2 ^ (x % 2 * 4) % 16 := by
  unfold kI
  rw [show x / 2 ^ 1 = x / 2 from rfl, show x % 2 ^ 1 = x % 2 from rfl]
  rfl

set_option maxRecDepth 100000 in
set_option maxHeartbeats 4000000 in
theorem un1_any (W H : Nat) (Ap Ad : Option Addr) (capp capd : Nat) (P D : List Int) (w : World) (hW : 1 ≤ W) (hW2 : (W : Int) ≤ 16384) (hH : (H : Int) ≤ 16384) (hWH : ((W * H : Nat) : Int) ≤ 16384) (hPB : Byt P) (hDB : Byt D)
    (hrp : Rd .u32 w w.heap.size Ap (joinN P (H * blkN W 1))) (hrd : Rd .u32 w w.heap.size Ad (joinN D 256)) :
    Calls Try.prog 27 #[.slice Ap (H * blkN W 1) capp, .int .i64 W, .int .i64 H, .agg #[.int .i64 0, .int .i64 1, .slice Ad 256 capd]] w fun e w' => ∃ v, e = .returned v ∧
      w'.ownsRow (w.heap.size + 1) 34 1 v (W * H) ((unN P D W 1 (W * H)).map (Value.int .u32)) ∧ Below w.heap.size w w' := by
  have cR := fun w' => rounded_any W 1 w' hW2 (by decide)
  change ∀ w', Calls Try.prog 34 #[.int .i64 W, .int .i64 1] w' _ at cR
  have hbl := blkN_le W 1
  have hbH : H * blkN W 1 ≤ H * W := Nat.mul_le_mul_left _ hbl
  rw [Nat.mul_comm H W] at hbH
  have hlj := joinN_len P (H * blkN W 1)
  have hld := joinN_len D 256
  replace cR := hide cR
  replace hPB := hide hPB
  replace hDB := hide hDB
  replace hrp := hide hrp
  replace hrd := hide hrd
  replace hlj := hide hlj
  replace hld := hide hld
  have hTB := hide (Blk.new w 48 #[.int .i64 0, .int .i64 1, .slice Ad 256 capd])
  have t1 := hTB.out.cell 1
  simp at t1
  have hB0 : Below w.heap.size w (w.alloc (.cells #[.int .i64 0, .int .i64 1, .slice Ad 256 capd] 48)) := (Below.refl _ _).alloc (Nat.le_refl _) _
  replace hB0 := hide hB0
  go_enter Try.func27, Try.ntmps27
  go_wp2_with (first | (go_at_call 34; (with_reducible refine (cR.out _).mono ?_); rintro e w' ⟨rfl, rfl⟩) | fail)
  go_loopg [9, 12] H (fun k u9 u12 wr => ∃ y : Nat, k + y = H ∧ u12 = .int .i64 y ∧ wr.ownsRow (w.heap.size + 1) 34 1 u9 (y * W) ((unN P D W 1 (y * W)).map (Value.int .u32)) ∧
    Below (w.heap.size + 1) (w.alloc (.cells #[.int .i64 0, .int .i64 1, .slice Ad 256 capd] 48)) wr)
  case atStart => exact ⟨0, rfl, rfl, by rw [Nat.zero_mul]; exact ⟨rfl, .inl ⟨rfl, rfl⟩⟩, Below.refl _ _⟩
  case round =>
    obtain ⟨y, hy, rfl, ho, hb⟩ := hrel
    cases gk with
    | zero =>
      have hy' : y = H := by omega
      subst hy'
      rw [Nat.mul_comm y W] at ho
      have hbb := hide (hB0.out.trans (hb.mono (by omega)))
      replace ho := hide ho
      clear hb
      go_wp2
      go_ret
      exact ⟨_, rfl, ho.out, hbb.out⟩
    | succ k =>
      have hyH : y < H := by omega
      have hyHi : (y : Int) < (H : Int) := by omega
      have hrow : y * W + W ≤ W * H := by
        have h1 : (y + 1) * W ≤ H * W := Nat.mul_le_mul_right _ hyH
        rw [Nat.add_mul, Nat.one_mul, Nat.mul_comm H W] at h1
        exact h1
      have hy1 : ((y + 1) * W : Nat) = y * W + W := by rw [Nat.add_mul, Nat.one_mul]
      have hq2 : y * blkN W 1 + blkN W 1 ≤ H * blkN W 1 := by
        have h1 : (y + 1) * blkN W 1 ≤ H * blkN W 1 := Nat.mul_le_mul_right _ hyH
        rw [Nat.add_mul, Nat.one_mul] at h1
        exact h1
      have hqm : (y : Int) * ((blkN W 1 : Nat) : Int) = ((y * blkN W 1 : Nat) : Int) := by rw [Int.natCast_mul]
      generalize hQ0 : y * blkN W 1 = q0 at *
      generalize hYW : y * W = yw at *
      obtain ⟨wo, hwo⟩ : ∃ x, x = wr := ⟨_, rfl⟩
      subst hwo
      replace ho := hide ho
      replace hb := hide hb
      replace hy1 := hide hy1
      replace hYW := hide hYW
      replace hQ0 := hide hQ0
      go_wp2
      go_loopg [9, 13] W (fun k u9 u13 wr => ∃ x : Nat, k + x = W ∧ u13 = .int .i64 x ∧ wr.ownsRow (w.heap.size + 1) 34 1 u9 (yw + x) ((unN P D W 1 (yw + x)).map (Value.int .u32)) ∧
        Below (w.heap.size + 1) (w.alloc (.cells #[.int .i64 0, .int .i64 1, .slice Ad 256 capd] 48)) wr)
      case atStart => exact ⟨0, rfl, rfl, ho.out, hb.out⟩
      case round =>
        obtain ⟨x, hx, rfl, hoj, hbj⟩ := hrel
        cases gk with
        | zero =>
          have hx' : x = W := by omega
          subst hx'
          replace hoj := hide hoj
          replace hbj := hide hbj
          clear ho hb
          go_wp2
          go_roundg k
          case measure => omega
          case rel => exact ⟨y + 1, by omega, by go_num, by rw [hy1.out]; exact hoj.out, hbj.out⟩
        | succ k2 =>
          have hxW : x < W := by omega
          have hxWi : (x : Int) < (W : Int) := by omega
          have hlt : yw + x < W * H := by omega
          have hk := kAt_yx P W 1 y x hxW
          have hki := kN_cast P W 1 y x (by decide)
          have hk2 := kN_lt P W 1 y x (by decide)
          rw [kU1, hQ0.out] at hki
          rw [hYW.out] at hk
          have hsu := unN_succ P D W 1 (yw + x)
          rw [hk] at hsu
          generalize kN P W 1 y x = q at *
          have hab := div_lt_blk x W 1 hxW
          rw [show x / 2 ^ 1 = x / 2 from rfl] at hab
          have hxd : (x : Int) / 2 = ((x / 2 : Nat) : Int) := by omega
          have hxm : (x : Int) % 2 = ((x % 2 : Nat) : Int) := by omega
          have hrK : x % 2 < 2 := Nat.mod_lt _ (by decide)
          generalize x / 2 = a at *
          generalize x % 2 = r at *
          have hbM : q0 + a < H * blkN W 1 := by omega
          have hbMi : ((q0 + a : Nat) : Int) < ((H * blkN W 1 : Nat) : Int) := by omega
          have hlM := hlj.out
          have hlD := hld.out
          obtain ⟨b, off, rfl, hbb, hc⟩ := hrp.out.at_ (j := q0 + a) (by omega)
          obtain ⟨bd, offd, rfl, hbd, hcd⟩ := hrd.out.at_ (j := q) (by omega)
          have hbw := hB0.out.trans (hbj.mono (by omega))
          have c0 := (hbw.cell (p := ⟨b, off + (q0 + a), none⟩) hbb).trans (hc (q0 + a) (by omega))
          have c1 := (hbw.cell (p := ⟨bd, offd + q, none⟩) hbd).trans (hcd q (by omega))
          rw [joinN_get P _ _ hbM] at c0
          rw [joinN_get D 256 q hk2] at c1
          have hbp := hPB.out.pix (q0 + a)
          have hbd4 := pix4_bd _ _ _ _ hbp
          unfold pixAt at c0
          have kp := fun w => spart1_any (pix4 (P.getD (4 * (q0 + a)) 0) (P.getD (4 * (q0 + a) + 1) 0) (P.getD (4 * (q0 + a) + 2) 0) (P.getD (4 * (q0 + a) + 3) 0)) w hbd4.1 hbd4.2
          rw [pix4_g _ _ _ _ hbp] at kp
          have hVb := hbp.2.1
          have tc := fun i => hTB.out.below hbj (by simp) |>.cell i
          have t1' := tc 1
          have t2' := tc 2
          simp at t1' t2'
          have hT9 : w.heap.size < wr.heap.size := by have := hbj.size; simp at this; omega
          clear hc hcd tc
          generalize pix4 (P.getD (4 * (q0 + a)) 0) (P.getD (4 * (q0 + a) + 1) 0) (P.getD (4 * (q0 + a) + 2) 0) (P.getD (4 * (q0 + a) + 3) 0) = px at *
          generalize P.getD (4 * (q0 + a) + 1) 0 = V at *
          generalize pixAt D q = res at *
          generalize hM : H * blkN W 1 = MM at *
          generalize hN : W * H = WH at *
          replace hM := hide hM
          replace hN := hide hN
          have hQAi : (q0 : Int) + (a : Int) < (MM : Int) := by omega
          have hQAt : ((q0 : Int) + (a : Int)).toNat = q0 + a := by omega
          have hq0i : (0 : Int) ≤ (q0 : Int) := by omega
          have ha0i : (0 : Int) ≤ (a : Int) := by omega
          have hMMi : (MM : Int) ≤ 16384 := by omega
          have hr0i : (0 : Int) ≤ (r : Int) := by omega
          have hrKi : (r : Int) < 2 := by omega
          have hrt : ((r : Int) * 4).toNat = r * 4 := by omega
          have hqi : (q : Int) < 256 := by omega
          have hq0i' : (0 : Int) ≤ (q : Int) := by omega
          have hV0 : (0 : Int) ≤ V / 2 ^ (r * 4) := Int.ediv_nonneg hVb.1 (Int.le_of_lt (Int.pow_pos (by decide)))
          have hvm : bits .and .i64 (V / 2 ^ (r * 4)) 15 = (q : Int) := by
            rw [hki]
            exact and_mask .i64 4 (by decide) _
          have hsz9 : w.heap.size + 1 ≤ wr.heap.size := hT9
          replace kp := hide kp
          replace hki := hide hki
          replace hsu := hide hsu
          replace hoj := hide hoj
          replace hbj := hide hbj
          replace hk := hide hk
          clear ho hb hbw hlM hlD t1
          go_wp2
          go_quiet ((go_at_call 35; first | (with_reducible exact quiet_after (kp.out _)) | (with_reducible exact quiet_first (kp.out _))))
          go_wp2_with (at_builtin; refine wpList_push rfl (.tmp 67) (.tmp 69) _ rfl (w.heap.size + 1) 34 _ 4 Try.underlying27 info_u32 rfl u9 (yw + x) _ rfl (own_drewN hoj.out _) _ rfl rfl (by simp only [maxLen]; omega) (by omega) hsz9 ?_; intro v' w9 hown9 hg9; replace hown9 := hide hown9; replace hg9 := hide hg9)
          go_roundg k2
          case measure => omega
          case rel => exact ⟨x + 1, by omega, by go_num, by rw [show yw + (x + 1) = yw + x + 1 from rfl, hsu.out]; simpa using hown9.out, (below_drewN hbj.out _).grown hg9.out hsz9 (fun k hk => (hoj.out.lt k hk).1)⟩
end Go.Proofs.Ytpiapfahcoopbaa

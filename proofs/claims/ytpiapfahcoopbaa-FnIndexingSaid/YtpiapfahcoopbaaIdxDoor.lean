/- 'impl.Indexing' and 'spec.Indexing': the walks. -/
import Derived.Test.YtpiapfahcoopbaaIdxOne
import Derived.Test.YtpiapfahcoopbaaIdxTwo
import Derived.Test.YtpiapfahcoopbaaIdxThree
import Derived.Test.YtpiapfahcoopbaaUn0
import Derived.Test.YtpiapfahcoopbaaUn1
import Derived.Test.YtpiapfahcoopbaaUn2
import Derived.Test.YtpiapfahcoopbaaUn3
namespace Go.Proofs.Ytpiapfahcoopbaa
set_option linter.unusedSimpArgs false
set_option linter.unusedVariables false
open Go.RowKit Plain

theorem un_any (n W H : Nat) (hn : n ≤ 3) (Ap Ad : Option Addr) (capp capd : Nat) (P D : List Int) (w : World) (hW : 1 ≤ W) (hW2 : (W : Int) ≤ 16384) (hH : (H : Int) ≤ 16384) (hWH : ((W * H : Nat) : Int) ≤ 16384) (hPB : Byt P) (hDB : Byt D)
    (hrp : Rd .u32 w w.heap.size Ap (joinN P (H * blkN W n))) (hrd : Rd .u32 w w.heap.size Ad (joinN D 256)) :
    Calls Try.prog 27 #[.slice Ap (H * blkN W n) capp, .int .i64 W, .int .i64 H, .agg #[.int .i64 0, .int .i64 n, .slice Ad 256 capd]] w fun e w' => ∃ v, e = .returned v ∧
      w'.ownsRow (w.heap.size + 1) 34 1 v (W * H) ((unN P D W n (W * H)).map (Value.int .u32)) ∧ Below w.heap.size w w' := by
  obtain rfl | rfl | rfl | rfl : n = 0 ∨ n = 1 ∨ n = 2 ∨ n = 3 := by omega
  · exact un0_any W H Ap Ad capp capd P D w hW hW2 hH hWH hPB hDB hrp hrd
  · exact un1_any W H Ap Ad capp capd P D w hW hW2 hH hWH hPB hDB hrp hrd
  · exact un2_any W H Ap Ad capp capd P D w hW hW2 hH hWH hPB hDB hrp hrd
  · exact un3_any W H Ap Ad capp capd P D w hW hW2 hH hWH hPB hDB hrp hrd

set_option maxRecDepth 100000 in
set_option maxHeartbeats 2000000 in
theorem specIdx_any (n W H : Nat) (hn : n ≤ 3) (Ap Ad : Option Addr) (capp capd : Nat) (P D : List Int) (w : World) (hW : 1 ≤ W) (hW2 : (W : Int) ≤ 16384) (hH : (H : Int) ≤ 16384) (hWH : ((W * H : Nat) : Int) ≤ 16384) (hPB : Byt P) (hDB : Byt D)
    (hP : P.length = 4 * (H * blkN W n)) (hD : D.length = 4 * 256) (hrd : Rd .u8 w w.heap.size Ad D) (hrp : Rd .u8 w w.heap.size Ap P) :
    Calls Try.prog 18 #[.int .i64 W, .int .i64 H, .int .i64 n, .slice Ad D.length capd, .slice Ap P.length capp] w fun e w' => ∃ A c, e = .returned (.slice A (4 * (W * H)) c) ∧ Rd .u8 w' w'.heap.size A (outN P D W n (W * H)) ∧ Below w.heap.size w w' := by
  have hbH : H * blkN W n ≤ H * W := Nat.mul_le_mul_left _ (blkN_le W n)
  rw [Nat.mul_comm H W] at hbH
  have cJ := joined_any Ap capp (H * blkN W n) P w hP (by omega) hPB hrp
  have cK := fun W' => joined_any Ad capd 256 D W' hD (by decide) hDB
  have cU := fun A1 A3 c1 c3 W' => un_any n W H hn A1 A3 c1 c3 P D W' hW hW2 hH hWH hPB hDB
  have cS := fun A4 c4 W' => split_any A4 c4 (unN P D W n (W * H)) W' (by rw [unN_len]; omega) (unN_bd P D W n (W * H) hDB)
  rw [unN_len, unN_split P D W n (W * H) (W * H) hDB (Nat.le_refl _)] at cS
  replace cJ := hide cJ
  replace cK := hide cK
  replace cU := hide cU
  replace cS := hide cS
  replace hrd := hide hrd
  clear hrp hPB hDB hP hD
  go_enter Try.func18, Try.ntmps18
  go_wp2_with fail
  (with_reducible refine (cJ.out).mono ?_)
  rintro e w1 ⟨v1, rfl, ho1, hb1⟩
  obtain ⟨A1, c1, rfl, _, _⟩ := own_len ho1
  have ho1' := hide ho1
  have hb1' := hide hb1
  clear ho1 hb1
  go_wp2_with fail
  (with_reducible refine (cK.out _ ((hrd.out.below hb1'.out).more hb1'.out.size)).mono ?_)
  rintro e w3 ⟨v3, rfl, ho3, hb3⟩
  obtain ⟨A3, c3, rfl, _, _⟩ := own_len ho3
  have ho13 := (Upd.ofBelow (S := []) hb3).own ho1'.out (by simp)
  have hb3' := hide (hb1'.out.trans (hb3.mono hb1'.out.size))
  have cU3 := hide (cU.out _ _ c1 c3 w3 (Rd.ofOwn ho13) (Rd.ofOwn ho3))
  clear ho1' hb1' ho3 hb3 ho13
  go_wp2_with fail
  (with_reducible refine (cU3.out).mono ?_)
  rintro e w4 ⟨v4, rfl, ho4, hb4⟩
  obtain ⟨A4, c4, rfl, _, _⟩ := own_len ho4
  have hb4' := hide (hb3'.out.trans (hb4.mono hb3'.out.size))
  have cS4 := hide (cS.out A4 c4 w4 (Rd.ofOwn ho4))
  clear ho4 hb4 cU3
  go_wp2_with fail
  (with_reducible refine (cS4.out).mono ?_)
  rintro e w5 ⟨v5, rfl, ho5, hb5⟩
  obtain ⟨A5, c5, rfl, _, _⟩ := own_len ho5
  have hb5' := hide (hb4'.out.trans (hb5.mono hb4'.out.size))
  have ho5' : Hid (Rd .u8 w5 w5.heap.size A5 (outN P D W n (W * H))) := hide (Rd.ofOwn ho5)
  clear ho5 hb5 cS4
  go_wp2
  go_ret
  exact ⟨A5, c5, rfl, ho5'.out, hb5'.out⟩

/-- 'inverseColorIndexing', however many numbers a byte. -/
theorem idx_any (n T gp cap W H B : Nat) (hn : n ≤ 3) (Ad : Option Addr) (capd : Nat) (P D : List Int) (w : World) (hW : 1 ≤ W) (hW2 : (W : Int) ≤ 16384) (hH : (H : Int) ≤ 16384) (hWH : ((W * H : Nat) : Int) ≤ 16384) (hP : P.length = 4 * (H * blkN W n)) (hPB : Byt P) (hDl : D.length = 1024)
    (hT : T ≠ gp) (hb : B ≤ w.heap.size) (hTB : Blk w T 55 #[.int .u32 0, .int .i32 W, .int .u32 n, .slice Ad 1024 capd]) (hrd : Rd .u8 w B Ad D)
    (hown : w.ownsRow B 5 1 (.slice (some ⟨gp, 0, none⟩) (4 * (H * blkN W n)) cap) (4 * (H * blkN W n)) (P.map (Value.int .u8))) :
    Calls Try.prog 33 #[.pointer (some ⟨T, 0, none⟩), .slice (some ⟨gp, 0, none⟩) (4 * (H * blkN W n)) cap, .int .i32 H] w fun e w' => ∃ g c, e = .returned (.slice (some ⟨g, 0, none⟩) (4 * (W * H)) c) ∧
      w'.ownsRow B 5 1 (.slice (some ⟨g, 0, none⟩) (4 * (W * H)) c) (4 * (W * H)) ((outN P D W n (W * H)).map (Value.int .u8)) ∧ Below B w w' := by
  have hgp : B ≤ gp := (hown.lt gp rfl).1
  obtain rfl | rfl | rfl | rfl : n = 0 ∨ n = 1 ∨ n = 2 ∨ n = 3 := by omega
  · rw [blkN_zero, Nat.mul_comm H W] at hP hown ⊢
    refine (idx0_any T gp cap W (W * H) H B Ad capd P D w hW hWH hP hPB hDl hT hTB hrd hown).mono ?_
    rintro e w' ⟨rfl, h1, h2⟩
    exact ⟨gp, cap, rfl, h1, h2.below (B := B) (by simpa using hgp) hb⟩
  · refine (idx1_any T gp cap W H B Ad capd P D w hW hW2 hH hWH hP hPB hDl hb hTB (hrd.more hb) hown).mono ?_
    rintro e w' ⟨rfl, h1, h2⟩
    exact ⟨_, _, rfl, h1, h2.below (B := B) (by simp) hb⟩
  · refine (idx2_any T gp cap W H B Ad capd P D w hW hW2 hH hWH hP hPB hDl hb hTB (hrd.more hb) hown).mono ?_
    rintro e w' ⟨rfl, h1, h2⟩
    exact ⟨_, _, rfl, h1, h2.below (B := B) (by simp) hb⟩
  · refine (idx3_any T gp cap W H B Ad capd P D w hW hW2 hH hWH hP hPB hDl hb hTB (hrd.more hb) hown).mono ?_
    rintro e w' ⟨rfl, h1, h2⟩
    exact ⟨_, _, rfl, h1, h2.below (B := B) (by simp) hb⟩

set_option maxRecDepth 100000 in
set_option maxHeartbeats 2000000 in
theorem implIdx_any (n W H : Nat) (hn : n ≤ 3) (Ap Ad : Option Addr) (capp capd : Nat) (P D : List Int) (w : World) (hW : 1 ≤ W) (hH1 : 1 ≤ H) (hW2 : (W : Int) ≤ 16384) (hH : (H : Int) ≤ 16384) (hWH : ((W * H : Nat) : Int) ≤ 16384) (hPB : Byt P)
    (hP : P.length = 4 * (H * blkN W n)) (hD : D.length = 1024) (hrd : Rd .u8 w w.heap.size Ad D) (hrp : Rd .u8 w w.heap.size Ap P) :
    Calls Try.prog 17 #[.int .i64 W, .int .i64 H, .int .i64 n, .slice Ad 1024 capd, .slice Ap (4 * (H * blkN W n)) capp] w fun e w' => ∃ g c, e = .returned (.slice (some ⟨g, 0, none⟩) (4 * (W * H)) c) ∧
      w'.ownsRow w.heap.size 5 1 (.slice (some ⟨g, 0, none⟩) (4 * (W * H)) c) (4 * (W * H)) ((outN P D W n (W * H)).map (Value.int .u8)) ∧ Below w.heap.size w w' := by
  have hbH : H * blkN W n ≤ H * W := Nat.mul_le_mul_left _ (blkN_le W n)
  rw [Nat.mul_comm H W] at hbH
  have hbl1 : 1 ≤ blkN W n := Nat.succ_le_of_lt (Nat.lt_of_le_of_lt (Nat.zero_le _) (div_lt_blk 0 W n (by omega)))
  have hpos : 0 < P.length := by
    rw [hP]
    have := Nat.mul_pos hH1 hbl1
    omega
  obtain ⟨b, off, rfl, hb, hc⟩ := hrp.at_ hpos
  have cC := clone_any b off capp P w (by omega) hpos (Rd.ofCells hb hc)
  have cX := fun T g cap B Ad' w' => idx_any n T g cap W H B hn Ad' capd P D w' hW hW2 hH hWH hP hPB hD
  rw [hP] at cC
  replace cC := hide cC
  replace cX := hide cX
  replace hrd := hide hrd
  have hn0 : (n : Int) ≤ 3 := by omega
  clear hc hPB hrp hpos hD hbH hP hWH hb
  go_enter Try.func17, Try.ntmps17
  go_wp2_with fail
  (with_reducible refine (cC.out).mono ?_)
  rintro e w1 ⟨g, cap, rfl, hg, hown, hbel⟩
  replace hown := hide hown
  replace hbel := hide hbel
  go_wp2_with (first | (go_at_call 25; go_in) | fail)
  have hgl : g < w1.heap.size := (hown.out.lt g rfl).2
  have hsz1 := hbel.out.size
  (with_reducible refine (cX.out w1.heap.size g cap w.heap.size Ad _ (by omega) (by simp; omega) (Blk.new w1 _ _) ((hrd.out.below hbel.out).alloc hbel.out.size _) (hown.out.alloc _)).mono ?_)
  rintro e w2 ⟨g2, c2, rfl, ho2, hb2⟩
  have hb3 := hide ((hbel.out.alloc hbel.out.size _).trans hb2)
  replace ho2 := hide ho2
  clear hb2 hown hbel
  go_wp2
  go_ret
  exact ⟨g2, c2, rfl, ho2.out, hb3.out⟩
end Go.Proofs.Ytpiapfahcoopbaa

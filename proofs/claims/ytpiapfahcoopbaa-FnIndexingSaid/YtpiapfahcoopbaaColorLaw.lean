/- What green and red tell of red and blue is put back as it was taken away: the law. -/
import Derived.Test.YtpiapfahcoopbaaColorSmall
import Derived.Test.YtpiapfahcoopbaaClone
import Derived.Test.YtpiapfahcoopbaaBytes
import Derived.Test.YtpiapfahcoopbaaSums
namespace Go.Proofs.Ytpiapfahcoopbaa
set_option linter.unusedSimpArgs false
set_option linter.unusedVariables false
open Go.RowKit Plain

theorem splitN_getD (Q : List Int) (n i : Nat) (h : i < n) : (splitN Q n).getD (4 * i) 0 = Q.getD i 0 / 65536 % 256 ∧ (splitN Q n).getD (4 * i + 1) 0 = Q.getD i 0 / 256 % 256 ∧ (splitN Q n).getD (4 * i + 2) 0 = Q.getD i 0 % 256 ∧ (splitN Q n).getD (4 * i + 3) 0 = Q.getD i 0 / 16777216 % 256 := by
  induction n with
  | zero => omega
  | succ n ih =>
    have hl := splitN_len Q n
    by_cases hi : i < n
    · obtain ⟨a, b, c, d⟩ := ih hi
      have key : ∀ j, j < 4 * n → (splitN Q (n + 1)).getD j 0 = (splitN Q n).getD j 0 := by
        intro j hj
        simp only [splitN, List.getD_eq_getElem?_getD]
        rw [List.getElem?_append_left (by omega)]
      rw [key _ (by omega), key _ (by omega), key _ (by omega), key _ (by omega)]
      exact ⟨a, b, c, d⟩
    · have e : i = n := by omega
      subst e
      have key : ∀ j, j < 4 → (splitN Q (i + 1)).getD (4 * i + j) 0 = [Q.getD i 0 / 65536 % 256, Q.getD i 0 / 256 % 256, Q.getD i 0 % 256, Q.getD i 0 / 16777216 % 256].getD j 0 := by
        intro j hj
        simp only [splitN, List.getD_eq_getElem?_getD]
        rw [List.getElem?_append_right (by omega), hl, show 4 * i + j - 4 * i = j by omega]
      exact ⟨key 0 (by decide), key 1 (by decide), key 2 (by decide), key 3 (by decide)⟩

/-- A list of n, of which the first m are told, the others 0. -/
def mixN (F : Nat → Int) (n m : Nat) : List Int := (List.range n).map fun j => if j < m then F j else 0
theorem mixN_len (F : Nat → Int) (n m : Nat) : (mixN F n m).length = n := by simp [mixN]
theorem mixN_set (F : Nat → Int) (n m : Nat) (h : m < n) : (mixN F n m).set m (F m) = mixN F n (m + 1) := by
  apply List.ext_getElem (by simp [mixN])
  intro j h1 h2
  have hj : j < n := by simpa [mixN] using h2
  by_cases e : m = j
  · subst e
    simp [mixN]
  · simp [mixN, List.getElem_set, e]
    by_cases c : j < m
    · simp [c, show j < m + 1 by omega]
    · simp [c, show ¬ j < m + 1 by omega]
theorem mixN_all (F : Nat → Int) (n : Nat) : mixN F n n = (List.range n).map F := by
  unfold mixN
  apply List.map_congr_left
  intro j hj
  simp at hj
  simp [hj]
theorem mixN_zero (F : Nat → Int) (n : Nat) : mixN F n 0 = List.replicate n 0 := by
  apply List.ext_getElem (by simp [mixN])
  intro j h1 h2
  simp [mixN]

/-- The block of a pixel. -/
def tileOf (W s i : Nat) : Nat := i / W / 2 ^ s * blkN W s + i % W / 2 ^ s
/-- A pixel as it is written. -/
def encP (P D : List Int) (W s i : Nat) : Int :=
  pix4 (encR (D.getD (4 * tileOf W s i + 2) 0) (P.getD (4 * i) 0) (P.getD (4 * i + 1) 0)) (P.getD (4 * i + 1) 0)
    (encB (D.getD (4 * tileOf W s i + 1) 0) (D.getD (4 * tileOf W s i) 0) (P.getD (4 * i) 0) (P.getD (4 * i + 1) 0) (P.getD (4 * i + 2) 0)) (P.getD (4 * i + 3) 0)
theorem encP_b4 (P D : List Int) (W s i : Nat) (h : Byt P) : IsB4 (encR (D.getD (4 * tileOf W s i + 2) 0) (P.getD (4 * i) 0) (P.getD (4 * i + 1) 0)) (P.getD (4 * i + 1) 0)
    (encB (D.getD (4 * tileOf W s i + 1) 0) (D.getD (4 * tileOf W s i) 0) (P.getD (4 * i) 0) (P.getD (4 * i + 1) 0) (P.getD (4 * i + 2) 0)) (P.getD (4 * i + 3) 0) :=
  ⟨by unfold encR; omega, h _, by unfold encB; omega, h _⟩
theorem encd_of (P D : List Int) (W H s : Nat) (hW : 1 ≤ W) (hP : P.length = 4 * (W * H)) (hB : Byt P) : Encd P (splitN ((List.range (W * H)).map (encP P D W s)) (W * H)) D W H s := by
  have key : ∀ y x, y < H → x < W → ((List.range (W * H)).map (encP P D W s)).getD (y * W + x) 0 = encP P D W s (y * W + x) ∧ tileOf W s (y * W + x) = y / 2 ^ s * blkN W s + x / 2 ^ s ∧ y * W + x < W * H := by
    intro y x hy hx
    have h1 : (y + 1) * W ≤ H * W := Nat.mul_le_mul_right _ hy
    rw [Nat.add_mul, Nat.one_mul, Nat.mul_comm H W] at h1
    have h2 : y * W + x < W * H := by omega
    refine ⟨by simp [h2], ?_, h2⟩
    unfold tileOf
    have e1 : (y * W + x) / W = y := by
      rw [Nat.mul_comm, Nat.mul_add_div (by omega), Nat.div_eq_of_lt hx]
      rfl
    have e2 : (y * W + x) % W = x := by rw [Nat.mul_comm, Nat.mul_add_mod, Nat.mod_eq_of_lt hx]
    rw [e1, e2]
  refine ⟨by rw [splitN_len, hP], hP, fun y x hy hx => ?_, fun y x hy hx => ?_, fun y x hy hx => ?_, fun y x hy hx => ?_⟩
  all_goals
    obtain ⟨k1, k2, k3⟩ := key y x hy hx
    obtain ⟨s0, s1, s2, s3⟩ := splitN_getD ((List.range (W * H)).map (encP P D W s)) (W * H) (y * W + x) k3
    have hb := encP_b4 P D W s (y * W + x) hB
  · rw [s0, k1]; unfold encP; rw [pix4_r _ _ _ _ hb, k2]
  · rw [s1, k1]; unfold encP; rw [pix4_g _ _ _ _ hb]
  · rw [s2, k1]; unfold encP; rw [pix4_b _ _ _ _ hb, k2]
  · rw [s3, k1]; unfold encP; rw [pix4_a _ _ _ _ hb]

set_option maxRecDepth 100000 in
set_option maxHeartbeats 2000000 in
theorem implColor_any (W H s : Nat) (Ad Ap : Option Addr) (capd capp : Nat) (P E D : List Int) (w : World) (hW : 1 ≤ W) (hH1 : 1 ≤ H) (hW2 : (W : Int) ≤ 16384) (hH : (H : Int) ≤ 16384) (hWH : ((W * H : Nat) : Int) ≤ 16384) (hs : 2 ≤ s) (hs9 : s ≤ 9)
    (hE : Encd P E D W H s) (hPB : Byt P) (hDB : Byt D) (hD : D.length = 4 * (blkN W s * blkN H s)) (hrd : Rd .u8 w w.heap.size Ad D) (hrp : Rd .u8 w w.heap.size Ap E) :
    Calls Try.prog 14 #[.int .i64 W, .int .i64 H, .int .i64 s, .slice Ad D.length capd, .slice Ap E.length capp] w fun e w' => ∃ g cap, e = .returned (.slice (some ⟨g, 0, none⟩) P.length cap) ∧
      w'.ownsRow w.heap.size 5 1 (.slice (some ⟨g, 0, none⟩) P.length cap) P.length (P.map (Value.int .u8)) ∧ Below w.heap.size w w' := by
  have hsz := hE.size
  have hlen := hE.len
  have hN1 : 1 ≤ W * H := Nat.mul_pos hW hH1
  have hpos : 0 < E.length := by omega
  obtain ⟨b, off, rfl, hb, hc⟩ := hrp.at_ hpos
  have cC := clone_any b off capp E w (by omega) hpos (Rd.ofCells hb hc)
  have cX := fun T g cap base Ad' w' => crossColor_any T g P.length cap W H s base Ad' capd P E D w' hW hW2 hH hWH hs hs9 rfl hE hPB hDB hD
  rw [hlen] at cC ⊢
  replace cC := hide cC
  replace cX := hide cX
  replace hrd := hide hrd
  have hs0 : (s : Int) ≤ 9 := by omega
  clear hc hE hPB hDB hrp hsz hN1 hpos hD hlen
  go_enter Try.func14, Try.ntmps14
  go_wp2_with fail
  (with_reducible refine (cC.out).mono ?_)
  rintro e w1 ⟨g, cap, rfl, hg, hown, hbel⟩
  replace hown := hide hown
  replace hbel := hide hbel
  go_wp2_with (first | (go_at_call 23; go_in) | fail)
  have hgl : g < w1.heap.size := (hown.out.lt g rfl).2
  (with_reducible refine (cX.out w1.heap.size g cap w.heap.size Ad _ (by omega) (Blk.new w1 _ _) ((hrd.out.below hbel.out).alloc hbel.out.size _) (hown.out.alloc _)).mono ?_)
  rintro e w2 ⟨rfl, ho2, hu2⟩
  have hb2 := hide ((hbel.out.alloc hbel.out.size _).trans (hu2.below (B := w.heap.size) (by simp; omega) (by have := hbel.out.size; simp; omega)))
  replace ho2 := hide ho2
  clear hu2 hown hbel
  go_wp2
  go_ret
  exact ⟨g, cap, rfl, ho2.out, hb2.out⟩

theorem quiet_d {P : Program} {f : FuncId} {args : Array Value} {w : World} {n : Nat} {v : Value} (h : Calls P f args (w.drewN n) fun e w' => e = .returned v ∧ ∃ j, w' = (w.drewN n).drewN j) :
    Calls P f args (w.drewN n) fun e w'' => e = .returned v ∧ ∃ m, w'' = w.drewN m := h.mono fun _ _ hh => ⟨hh.1, by obtain ⟨j, hj⟩ := hh.2; exact ⟨n + j, by rw [hj]; simp [World.drewN, Nat.add_assoc]⟩⟩
theorem quiet_da {P : Program} {f : FuncId} {args : Array Value} {w : World} {a n : Nat} {v : Value} (h : Calls P f args (w.drewN (a + n)) fun e w' => e = .returned v ∧ ∃ j, w' = (w.drewN (a + n)).drewN j) :
    Calls P f args (w.drewN (a + n)) fun e w'' => e = .returned v ∧ ∃ m, w'' = w.drewN (a + m) := h.mono fun _ _ hh => ⟨hh.1, by obtain ⟨j, hj⟩ := hh.2; exact ⟨n + j, by rw [hj]; simp [World.drewN, Nat.add_assoc]⟩⟩

set_option maxRecDepth 100000 in
set_option maxHeartbeats 4000000 in
theorem colorBack_main (W H s : Nat) (Ad Ap : Option Addr) (capd capp : Nat) (P D : List Int) (w : World) (hs : 2 ≤ s) (hs9 : s ≤ 9) (hA : areaB W H P.length = true)
    (hPB : Byt P) (hDB : Byt D) (hD : D.length = 4 * (blkN W s * blkN H s)) (hrd : Rd .u8 w w.heap.size Ad D) (hrp : Rd .u8 w w.heap.size Ap P) :
    Calls Try.prog 3 #[.int .i64 W, .int .i64 H, .int .i64 s, .slice Ad D.length capd, .slice Ap P.length capp] w fun e w' => e = .returned (.bool true) ∧ Below w.heap.size w w' := by
  have hA' := hA
  unfold areaB at hA'
  have hA2 := of_decide_eq_true hA'
  obtain ⟨q1, q2, hW2, hH, q5, q6⟩ := hA2
  have hWH : ((W * H : Nat) : Int) ≤ 16384 := by rw [Int.natCast_mul]; exact q5
  have hPl : P.length = 4 * (W * H) := by
    have : (P.length : Int) = ((4 * (W * H) : Nat) : Int) := by rw [q6, Int.natCast_mul, Int.natCast_mul, Int.mul_assoc]; rfl
    exact_mod_cast this
  have hW : 1 ≤ W := by omega
  have hH1 : 1 ≤ H := by omega
  have hN1 : 1 ≤ W * H := Nat.mul_pos hW hH1
  have hWb := blkN_le W s
  have hHb := blkN_le H s
  have hMM : blkN W s * blkN H s ≤ W * H := Nat.mul_le_mul hWb hHb
  have cA := isArea_any W H Ap P.length capp w
  rw [hA] at cA
  have cB := fun W' => blocksOf_any W H s W' hW2 hH hs9
  have cJ := fun W' => joined4_any Ap capp (W * H) P W' hPl (by omega) hPB
  have cK := fun W' => joined4_any Ad capd (blkN W s * blkN H s) D W' hD (by omega) hDB
  have hEd := encd_of P D W H s hW hPl hPB
  have cI := fun A' cap' W' => implColor_any W H s Ad A' capd cap' P _ D W' hW hH1 hW2 hH hWH hs hs9 hEd hPB hDB hD
  have hEl := hEd.len
  have hFb : ∀ i, 0 ≤ encP P D W s i ∧ encP P D W s i ≤ 4294967295 := fun i => pix4_bd _ _ _ _ (encP_b4 P D W s i hPB)
  have htile : ∀ i, i < W * H → tileOf W s i < blkN W s * blkN H s ∧ i / W / 2 ^ s * blkN W s ≤ 16384 := by
    intro i hi
    have h1 := div_lt_blk (i % W) W s (Nat.mod_lt _ (by omega))
    have h2 : i / W < H := Nat.div_lt_of_lt_mul hi
    have h3 := div_lt_blk (i / W) H s h2
    unfold tileOf
    generalize i / W / 2 ^ s = a at *
    generalize i % W / 2 ^ s = b at *
    have h4 : (a + 1) * blkN W s ≤ blkN H s * blkN W s := Nat.mul_le_mul_right _ h3
    rw [Nat.add_mul, Nat.one_mul, Nat.mul_comm (blkN H s)] at h4
    exact ⟨by omega, by omega⟩
  have g1 : ¬ (2147483647 : Int) < (P.length : Int) := by omega
  have g2 : ¬ (2147483647 : Int) < (D.length : Int) := by omega
  have g3 : ¬ (s : Int) < 2 := by omega
  have g4 : ¬ (9 : Int) < (s : Int) := by omega
  obtain ⟨i0, hi0, hz0, hz1, hz2⟩ := info_parts info_u32
  generalize hM : blkN W s * blkN H s = M at *
  generalize hNN : W * H = N at *
  replace hM := hide hM
  replace hNN := hide hNN
  have g5 : ((D.length : Int) != 4 * (M : Int)) = false := by simp; omega
  have hMMi : (M : Int) ≤ 16384 := by omega
  have hNi : (N : Int) ≤ 16384 := hWH
  replace cA := hide cA
  replace cB := hide cB
  replace cJ := hide cJ
  replace cK := hide cK
  replace cI := hide cI
  replace hEd := hide hEd
  replace hEl := hide hEl
  replace hrd := hide hrd
  replace hrp := hide hrp
  replace hFb := hide hFb
  replace htile := hide htile
  replace hPB := hide hPB
  replace hDB := hide hDB
  replace hD := hide hD
  replace hPl := hide hPl
  clear hA hA' q6
  go_enter Try.func3, Try.ntmps3
  go_wp2_with fail
  (with_reducible refine (cA.out).mono ?_)
  rintro e w' ⟨rfl, rfl⟩
  go_wp2_with fail
  (with_reducible refine (cB.out _).mono ?_)
  rintro e w' ⟨rfl, rfl⟩
  go_wp2_with fail
  (with_reducible refine (cJ.out _ hrp.out).mono ?_)
  rintro e w1 ⟨v1, rfl, ho1, hb1⟩
  obtain ⟨A1, c1, rfl, _, _⟩ := own_len ho1
  replace ho1 := hide ho1
  replace hb1 := hide hb1
  go_wp2_with fail
  have hb2 := hide (hb1.out.alloc hb1.out.size (.cells #[.pointer none, .slice none 0 0, .int .i64 0, .slice A1 N c1, .int .i64 W] 33))
  have hk2 := hide (Blk.new w1 33 #[.pointer none, .slice none 0 0, .int .i64 0, .slice A1 N c1, .int .i64 W])
  have ho2 := hide (ho1.out.alloc (.cells #[.pointer none, .slice none 0 0, .int .i64 0, .slice A1 N c1, .int .i64 W] 33))
  have hz2' := hb2.out.size
  (with_reducible refine (cK.out _ ((hrd.out.below hb2.out).more hb2.out.size)).mono ?_)
  rintro e w3 ⟨v3, rfl, ho3, hb3⟩
  obtain ⟨A3, c3, rfl, _, _⟩ := own_len ho3
  have hk3 := hide (hk2.out.below hb3 (by simp))
  have ho13 := hide ((Upd.ofBelow (S := []) hb3).own ho2.out (by simp))
  have hb3' := hide (hb2.out.trans (hb3.mono hz2'))
  have hsz3 := hb3'.out.size
  have hew : w1.heap.size < w3.heap.size := by have := hb3.size; simp at this; omega
  have e3 := hk3.out.cell 3
  have e4 := hk3.out.cell 4
  simp at e3 e4
  replace ho3 := hide ho3
  clear hb1 hb2 hk2 ho2 ho1 hb3 hz2'
  go_wp2_with (refine wpList_make_full _ rfl (.tmp 63) (.tmp 63) 27 rfl w.heap.size 34 i0 _ 1 Try.underlying27 hi0 hz0 hz1 .i64 .i64 _ _ N rfl rfl rfl rfl (by rw [hz2]; omega) (by simp only [maxLen]; omega) hsz3 ?_; intro w4 ho4 hg4; replace ho4 := hide ho4; replace hg4 := hide hg4)
  have hN1' := hN1
  obtain ⟨ga, ca, hva, hga, hgaw⟩ := ho13.out.form (by omega)
  obtain ⟨rfl, rfl⟩ : A1 = some ⟨ga, 0, none⟩ ∧ c1 = ca := by injection hva with h1 h2 h3; exact ⟨h1, h3⟩
  have hM1 : 1 ≤ M := by have := (htile.out 0 (by omega)).1; omega
  obtain ⟨gl, cl, hvl, hgl, hglw⟩ := ho3.out.form (by omega)
  obtain ⟨rfl, rfl⟩ : A3 = some ⟨gl, 0, none⟩ ∧ c3 = cl := by injection hvl with h1 h2 h3; exact ⟨h1, h3⟩
  have U4 : Upd [] w3 w4 := (Upd.refl [] w3).grown hg4.out (fun g h => by cases h)
  have ho14 := hide (U4.own ho13.out (by simp))
  have ho34 := hide (U4.own ho3.out (by simp))
  have hk4 := hide (hk3.out.upd U4 (by simp))
  have hb4 := hide (hb3'.out.trans (U4.below (B := w.heap.size) (by simp) hsz3))
  have hsz4 : w3.heap.size < w4.heap.size := (ho4.out.lt _ rfl).2
  have hg0 : (madeCells (Value.int .u32 0).cells (N * 1)).toList = (mixN (encP P D W s) N 0).map (Value.int .u32) := by
    rw [mixN_zero]
    apply List.ext_getElem (by simp [madeCells])
    intro j h1 h2
    simp [madeCells, Value.cells, Nat.mod_one]
  rw [hg0] at ho4
  clear hg0 e3 e4 hva hvl U4 ho13 ho3 hk3 hb3' hg4
  go_wp2
  go_loopg [14] N (fun k u14 wr => ∃ m : Nat, k + m = N ∧ u14 = .int .i64 m ∧ wr.ownsRow w.heap.size 34 1 (.slice (some ⟨w3.heap.size, 0, none⟩) N N) N ((mixN (encP P D W s) N m).map (Value.int .u32)) ∧ Upd [w3.heap.size] w4 wr)
  case atStart => exact ⟨0, rfl, rfl, ho4.out, Upd.refl _ _⟩
  case round =>
    obtain ⟨m, hm, rfl, ho, hU⟩ := hrel
    have hk5 := hk4.out.upd hU (by simp; omega)
    have e3 := hk5.cell 3
    have e4 := hk5.cell 4
    simp at e3 e4
    clear ho4
    cases gk with
    | zero =>
      have hm' : m = N := by omega
      subst hm'
      rw [mixN_all] at ho
      have hQl : ((List.range m).map (encP P D W s)).length = m := by simp
      have hQb : ∀ k, 0 ≤ ((List.range m).map (encP P D W s)).getD k 0 ∧ ((List.range m).map (encP P D W s)).getD k 0 ≤ 4294967295 := by
        intro k
        by_cases c : k < m
        · have e : ((List.range m).map (encP P D W s)).getD k 0 = encP P D W s k := by simp [c]
          rw [e]
          exact hFb.out k
        · have e : ((List.range m).map (encP P D W s)).getD k 0 = 0 := by simp [c]
          rw [e]
          omega
      have cS := split4_any (some ⟨w3.heap.size, 0, none⟩) m _ wr (by rw [hQl]; omega) hQb (Rd.ofOwn ho)
      rw [hQl] at cS
      replace cS := hide cS
      have hb5 := hide (hb4.out.trans (hU.below (B := w.heap.size) (by simp; omega) hb4.out.size))
      clear ho hU hk5 e3 e4 hQb hQl hk4 ho14 ho34 hb4
      go_wp2_with fail
      (with_reducible refine (cS.out).mono ?_)
      rintro e w5 ⟨v5, rfl, ho5, hb5'⟩
      obtain ⟨A5, c5, rfl, _, _⟩ := own_len ho5
      have hb6 := hide (hb5.out.trans (hb5'.mono hb5.out.size))
      have cI5 := cI.out A5 c5 w5 ((hrd.out.below hb6.out).more hb6.out.size) (Rd.ofOwn ho5)
      rw [hEl.out.trans hPl.out] at cI5
      replace cI5 := hide cI5
      clear cS hb5 hb5' ho5
      go_wp2_with fail
      (with_reducible refine (cI5.out).mono ?_)
      rintro e w6 ⟨g6, c6, rfl, ho6, hb6'⟩
      have hb7 := hide (hb6.out.trans (hb6'.mono hb6.out.size))
      have cb := bytes_same _ _ c6 capp P w6 _ _ (by have := hPl.out; omega) (Rd.ofOwn ho6) (hrp.out.below hb7.out)
      replace cb := hide cb
      clear hb6 hb6' ho6 cI5
      go_wp2_with fail
      (with_reducible refine (cb.out).mono ?_)
      rintro e w7 ⟨rfl, n7, rfl⟩
      go_wp2_with fail
      refine (readSums_any _).mono ?_
      rintro e w8 ⟨rfl, rfl⟩
      go_wp2
      go_ret
      exact ⟨rfl, below_drewN hb7.out _⟩
    | succ k =>
      have hmN : m < N := by omega
      have hmNi : (m : Int) < (N : Int) := by omega
      obtain ⟨ht1, ht2⟩ := htile.out m hmN
      have hpx := own_cell (hU.own ho14.out (by simp [Value.ownBlock]; omega)) m (by omega)
      have hfx := own_cell (hU.own ho34.out (by simp [Value.ownBlock]; omega)) (tileOf W s m) (by omega)
      rw [joinN_get P N m hmN] at hpx
      rw [joinN_get D M _ ht1] at hfx
      have hbp := hPB.out.pix m
      have hbd := hDB.out.pix (tileOf W s m)
      have kB := fun n => block_any w1.heap.size W s m (wr.drewN n) (by omega) hW2 (by omega) hs9 ht2 e4
      have hset : ∀ n, ((wr.drewN n).setCell ⟨w3.heap.size, m, none⟩ (.int .u32 (encP P D W s m))).ownsRow w.heap.size 34 1 (.slice (some ⟨w3.heap.size, 0, none⟩) N N) N ((mixN (encP P D W s) N (m + 1)).map (Value.int .u32)) := fun n => by
        have hh := own_set (own_drewN ho n) m (encP P D W s m)
        rw [mixN_set _ _ _ hmN] at hh
        exact hh
      have hcell := own_cell ho m (by omega)
      have hfro := ho.frozenAt m
      have hbnd := pix4_bd _ _ _ _ hbp
      have hbnd2 := pix4_bd _ _ _ _ hbd
      have hF : encP P D W s m = pix4 ((P.getD (4 * m) 0 - dlt (D.getD (4 * tileOf W s m + 2) 0) (P.getD (4 * m + 1) 0)) % 256) (P.getD (4 * m + 1) 0 % 256)
        ((P.getD (4 * m + 2) 0 - dlt (D.getD (4 * tileOf W s m + 1) 0) (P.getD (4 * m + 1) 0) - dlt (D.getD (4 * tileOf W s m) 0) (P.getD (4 * m) 0)) % 256) (P.getD (4 * m + 3) 0 % 256) := by
        unfold encP encR encB
        rw [show P.getD (4 * m + 1) 0 % 256 = P.getD (4 * m + 1) 0 by have := hbp.2.1; omega, show P.getD (4 * m + 3) 0 % 256 = P.getD (4 * m + 3) 0 by have := hbp.2.2.2; omega]
      rw [hF] at hset
      unfold pixAt at hpx hfx
      have kb := fun w => part0_any (pix4 (P.getD (4 * m) 0) (P.getD (4 * m + 1) 0) (P.getD (4 * m + 2) 0) (P.getD (4 * m + 3) 0)) w hbnd.1 hbnd.2
      have kg := fun w => part1_any (pix4 (P.getD (4 * m) 0) (P.getD (4 * m + 1) 0) (P.getD (4 * m + 2) 0) (P.getD (4 * m + 3) 0)) w hbnd.1 hbnd.2
      have kr := fun w => part2_any (pix4 (P.getD (4 * m) 0) (P.getD (4 * m + 1) 0) (P.getD (4 * m + 2) 0) (P.getD (4 * m + 3) 0)) w hbnd.1 hbnd.2
      have ka := fun w => part3_any (pix4 (P.getD (4 * m) 0) (P.getD (4 * m + 1) 0) (P.getD (4 * m + 2) 0) (P.getD (4 * m + 3) 0)) w hbnd.1 hbnd.2
      rw [pix4_b _ _ _ _ hbp] at kb
      rw [pix4_g _ _ _ _ hbp] at kg
      rw [pix4_r _ _ _ _ hbp] at kr
      rw [pix4_a _ _ _ _ hbp] at ka
      have fb := fun w => part0_any (pix4 (D.getD (4 * tileOf W s m) 0) (D.getD (4 * tileOf W s m + 1) 0) (D.getD (4 * tileOf W s m + 2) 0) (D.getD (4 * tileOf W s m + 3) 0)) w hbnd2.1 hbnd2.2
      have fg := fun w => part1_any (pix4 (D.getD (4 * tileOf W s m) 0) (D.getD (4 * tileOf W s m + 1) 0) (D.getD (4 * tileOf W s m + 2) 0) (D.getD (4 * tileOf W s m + 3) 0)) w hbnd2.1 hbnd2.2
      have fr := fun w => part2_any (pix4 (D.getD (4 * tileOf W s m) 0) (D.getD (4 * tileOf W s m + 1) 0) (D.getD (4 * tileOf W s m + 2) 0) (D.getD (4 * tileOf W s m + 3) 0)) w hbnd2.1 hbnd2.2
      rw [pix4_b _ _ _ _ hbd] at fb
      rw [pix4_g _ _ _ _ hbd] at fg
      rw [pix4_r _ _ _ _ hbd] at fr
      have ht1i : (tileOf W s m : Int) < (M : Int) := by omega
      change ∀ n, Calls _ _ _ _ fun e w' => e = .returned (.int .i64 ((tileOf W s m : Nat) : Int)) ∧ _ at kB
      obtain ⟨b0, b1, b2, b3⟩ := hbp
      obtain ⟨d0, d1, d2, d3⟩ := hbd
      generalize pix4 (P.getD (4 * m) 0) (P.getD (4 * m + 1) 0) (P.getD (4 * m + 2) 0) (P.getD (4 * m + 3) 0) = px at *
      generalize pix4 (D.getD (4 * tileOf W s m) 0) (D.getD (4 * tileOf W s m + 1) 0) (D.getD (4 * tileOf W s m + 2) 0) (D.getD (4 * tileOf W s m + 3) 0) = fx at *
      generalize P.getD (4 * m) 0 = pr at *
      generalize P.getD (4 * m + 1) 0 = pg at *
      generalize P.getD (4 * m + 2) 0 = pb at *
      generalize P.getD (4 * m + 3) 0 = pa at *
      generalize D.getD (4 * tileOf W s m) 0 = f2 at *
      generalize D.getD (4 * tileOf W s m + 1) 0 = f1 at *
      generalize D.getD (4 * tileOf W s m + 2) 0 = f0 at *
      generalize tileOf W s m = q at *
      generalize (mixN (encP P D W s) N m).getD m 0 = vv at *
      have kd1 := fun w => delta_any f1 pg w d1 b1
      have kd2 := fun w => delta_any f2 pr w d0 b0
      have kd0 := fun w => delta_any f0 pg w d2 b1
      have y1 := dlt_bd f1 pg d1 b1
      have y2 := dlt_bd f2 pr d0 b0
      have y0 := dlt_bd f0 pg d2 b1
      have kP := fun w => pixel_any (pb - dlt f1 pg - dlt f2 pr) pg (pr - dlt f0 pg) pa w
      generalize dlt f1 pg = t1 at *
      generalize dlt f2 pr = t2 at *
      generalize dlt f0 pg = t0 at *
      generalize pix4 ((pr - t0) % 256) (pg % 256) ((pb - t1 - t2) % 256) (pa % 256) = res at *
      replace hF := hide hF
      replace kB := hide kB
      replace kb := hide kb
      replace kg := hide kg
      replace kr := hide kr
      replace ka := hide ka
      replace fb := hide fb
      replace fg := hide fg
      replace fr := hide fr
      replace kd0 := hide kd0
      replace kd1 := hide kd1
      replace kd2 := hide kd2
      replace kP := hide kP
      replace hset := hide hset
      replace ho := hide ho
      replace hU := hide hU
      replace hk5 := hide hk5
      have hm0 : (0 : Int) ≤ (m : Int) := by omega
      have hq0 : (0 : Int) ≤ (q : Int) := by omega
      go_wp2
      go_quiet ((go_at_call 9; first | (with_reducible exact quiet_da (kB.out _)) | (with_reducible exact quiet_d (kB.out _))))
      go_wp2_with (first
        | (go_at_call 10; first
            | ((with_reducible refine (kb.out _).mono ?_); rintro e w' ⟨rfl, rfl⟩)
            | ((with_reducible refine (kg.out _).mono ?_); rintro e w' ⟨rfl, rfl⟩)
            | ((with_reducible refine (kr.out _).mono ?_); rintro e w' ⟨rfl, rfl⟩)
            | ((with_reducible refine (ka.out _).mono ?_); rintro e w' ⟨rfl, rfl⟩)
            | ((with_reducible refine (fb.out _).mono ?_); rintro e w' ⟨rfl, rfl⟩)
            | ((with_reducible refine (fg.out _).mono ?_); rintro e w' ⟨rfl, rfl⟩)
            | ((with_reducible refine (fr.out _).mono ?_); rintro e w' ⟨rfl, rfl⟩))
        | (go_at_call 12; first
            | ((with_reducible refine (kd0.out _).mono ?_); rintro e w' ⟨rfl, rfl⟩)
            | ((with_reducible refine (kd1.out _).mono ?_); rintro e w' ⟨rfl, rfl⟩)
            | ((with_reducible refine (kd2.out _).mono ?_); rintro e w' ⟨rfl, rfl⟩))
        | (go_at_call 11; (with_reducible refine (kP.out _).mono ?_); rintro e w' ⟨rfl, rfl⟩)
        | fail)
      go_roundg k
      case measure => omega
      case rel => exact ⟨m + 1, by omega, by go_num, hset.out _, (hU.out.drewN _).setCell (.inl (by simp)) _⟩

set_option maxRecDepth 100000 in
set_option maxHeartbeats 2000000 in
/-- The law, for every argument. -/
theorem colorBack_any (wi hi ni : Int) (Ad Ap : Option Addr) (capd capp : Nat) (D P : List Int) (w : World) (hDB : Byt D) (hPB : Byt P) (hrd : Rd .u8 w w.heap.size Ad D) (hrp : Rd .u8 w w.heap.size Ap P) (hmd : D.length ≤ 9223372036854775807) (hmp : P.length ≤ 9223372036854775807) :
    Calls Try.prog 3 #[.int .i64 wi, .int .i64 hi, .int .i64 ni, .slice Ad D.length capd, .slice Ap P.length capp] w fun e w' => e = .returned (.bool true) ∧ Below w.heap.size w w' := by
  by_cases c1 : (2147483647 : Int) < (D.length : Int)
  · clear hrd hrp hDB hPB
    go_enter Try.func3, Try.ntmps3
    go_wp2
    go_ret
    exact ⟨rfl, Below.refl _ _⟩
  by_cases c2 : (2147483647 : Int) < (P.length : Int)
  · clear hrd hrp hDB hPB
    go_enter Try.func3, Try.ntmps3
    go_wp2
    go_ret
    exact ⟨rfl, Below.refl _ _⟩
  have cA := isArea_any wi hi Ap P.length capp w
  have cR := hide (readSums_any w)
  cases hA : areaB wi hi P.length
  · rw [hA] at cA
    replace cA := hide cA
    clear hrd hrp hDB hPB hA
    go_enter Try.func3, Try.ntmps3
    go_wp2_with fail
    (with_reducible refine (cA.out).mono ?_)
    rintro e w' ⟨rfl, rfl⟩
    go_wp2_with fail
    (with_reducible refine (cR.out).mono ?_)
    rintro e w' ⟨rfl, rfl⟩
    go_wp2
    go_ret
    exact ⟨rfl, Below.refl _ _⟩
  have hA' := hA
  unfold areaB at hA'
  obtain ⟨q1, q2, q3, q4, q5, q6⟩ := of_decide_eq_true hA'
  obtain ⟨W, rfl⟩ := Int.eq_ofNat_of_zero_le (show 0 ≤ wi by omega)
  obtain ⟨H, rfl⟩ := Int.eq_ofNat_of_zero_le (show 0 ≤ hi by omega)
  by_cases c3 : ni < 2
  · rw [hA] at cA
    replace cA := hide cA
    clear hrd hrp hDB hPB hA hA' q5 q6
    go_enter Try.func3, Try.ntmps3
    go_wp2_with fail
    (with_reducible refine (cA.out).mono ?_)
    rintro e w' ⟨rfl, rfl⟩
    go_wp2_with fail
    (with_reducible refine (cR.out).mono ?_)
    rintro e w' ⟨rfl, rfl⟩
    go_wp2
    go_ret
    exact ⟨rfl, Below.refl _ _⟩
  by_cases c4 : (9 : Int) < ni
  · rw [hA] at cA
    replace cA := hide cA
    clear hrd hrp hDB hPB hA hA' q5 q6
    go_enter Try.func3, Try.ntmps3
    go_wp2_with fail
    (with_reducible refine (cA.out).mono ?_)
    rintro e w' ⟨rfl, rfl⟩
    go_wp2_with fail
    (with_reducible refine (cR.out).mono ?_)
    rintro e w' ⟨rfl, rfl⟩
    go_wp2
    go_ret
    exact ⟨rfl, Below.refl _ _⟩
  obtain ⟨s, rfl⟩ := Int.eq_ofNat_of_zero_le (show 0 ≤ ni by omega)
  by_cases c5 : D.length = 4 * (blkN W s * blkN H s)
  · exact colorBack_main W H s Ad Ap capd capp P D w (by omega) (by omega) hA hPB hDB c5 hrd hrp
  · have cB := blocksOf_any W H s w q3 q4 (by omega)
    have hMb : blkN W s * blkN H s ≤ W * H := Nat.mul_le_mul (blkN_le W s) (blkN_le H s)
    have q5' : ((W * H : Nat) : Int) ≤ 16384 := by rw [Int.natCast_mul]; exact q5
    generalize blkN W s * blkN H s = M at *
    have hMi : (M : Int) ≤ 16384 := by omega
    have hM0 : (0 : Int) ≤ (M : Int) := by omega
    have c6 : ((D.length : Int) != 4 * (M : Int)) = true := by simp; omega
    rw [hA] at cA
    replace cA := hide cA
    replace cB := hide cB
    clear hrd hrp hDB hPB hA hA' q5 q6 hMb q5' c5
    go_enter Try.func3, Try.ntmps3
    go_wp2_with fail
    (with_reducible refine (cA.out).mono ?_)
    rintro e w' ⟨rfl, rfl⟩
    go_wp2_with fail
    (with_reducible refine (cB.out).mono ?_)
    rintro e w' ⟨rfl, rfl⟩
    go_wp2_with fail
    (with_reducible refine (cR.out).mono ?_)
    rintro e w' ⟨rfl, rfl⟩
    go_wp2
    go_ret
    exact ⟨rfl, Below.refl _ _⟩
theorem byt_of {P : List Int} (h : ∀ n ∈ P, (Lit.int .u8 n).wf = true) : Byt P := fun j => by
  rcases Nat.lt_or_ge j P.length with hj | hj
  · have := Go.bounds_u8 (h _ (List.getElem_mem hj)); simpa [hj] using this
  · simp [hj]
end Go.Proofs.Ytpiapfahcoopbaa

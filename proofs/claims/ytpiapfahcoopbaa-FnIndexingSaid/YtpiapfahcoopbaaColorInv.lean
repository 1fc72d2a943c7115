/- 'inverseCrossColor' puts back what was taken away. The walk. -/
import Derived.Test.YtpiapfahcoopbaaPixWalk
namespace Go.Proofs.Ytpiapfahcoopbaa
set_option linter.unusedSimpArgs false
set_option linter.unusedVariables false
open Go.RowKit Plain

theorem pow_bd (s : Nat) (h : s ≤ 9) : (1 : Int) ≤ 2 ^ s ∧ (2 : Int) ^ s ≤ 512 := by
  have h1 : (0 : Int) < 2 ^ s := Int.pow_pos (by decide)
  have h2 : (2 : Nat) ^ s ≤ 2 ^ 9 := Nat.pow_le_pow_right (by decide) h
  have h3 := Int.ofNat_le.2 h2
  simp at h3
  omega

/-- How many blocks of 2^s a side has. -/
def blkN (n s : Nat) : Nat := (n + 2 ^ s - 1) / 2 ^ s
theorem blkN_le (n s : Nat) : blkN n s ≤ n := by
  unfold blkN
  have hp : 0 < 2 ^ s := Nat.pow_pos (by decide)
  generalize 2 ^ s = K at *
  rcases Nat.eq_zero_or_pos n with h | h
  · subst h
    rw [Nat.div_eq_of_lt (by omega)]
    omega
  · apply Nat.div_le_of_le_mul
    have h2 : (K - 1) * 1 ≤ (K - 1) * n := Nat.mul_le_mul_left _ h
    have h4 : K * n = (K - 1) * n + n := by
      have : K = (K - 1) + 1 := by omega
      conv => lhs; rw [this, Nat.add_mul, Nat.one_mul]
    omega
theorem tiles_any (n s : Nat) (w : World) (hn : (n : Int) ≤ 16384) (hs : s ≤ 9) : Calls Try.prog 39 #[.int .i32 n, .int .u32 s] w fun e w' => e = .returned (.int .i32 (blkN n s : Nat)) ∧ w = w' := by
  obtain ⟨p1, p2⟩ := pow_bd s hs
  have hp : 1 ≤ 2 ^ s := Nat.one_le_two_pow
  have e : ((blkN n s : Nat) : Int) = ((n : Int) + 2 ^ s - 1) / 2 ^ s := by
    unfold blkN
    rw [Int.natCast_ediv, Int.ofNat_sub (by omega), Int.natCast_add]
    simp
  rw [e]
  clear e hp
  go_enter Try.func39, Try.ntmps39
  go_wp2
  go_ret
  exact ⟨rfl, rfl⟩

theorem wrap_i8 (x : Int) (h : 0 ≤ x ∧ x ≤ 255) : IntKind.i8.wrap x = sgn x := by
  unfold sgn
  simp [IntKind.wrap, IntKind.bits, IntKind.signed]
  omega
theorem div_lt_blk (x n s : Nat) (h : x < n) : x / 2 ^ s < blkN n s := by
  unfold blkN
  have hp : 0 < 2 ^ s := Nat.pow_pos (by decide)
  generalize 2 ^ s = K at *
  have h1 : (x + K) / K = x / K + 1 := Nat.add_div_right x hp
  have h2 : (x + K) / K ≤ (n + K - 1) / K := Nat.div_le_div_right (by omega)
  omega
/-- The first k pixels as they were, the others as they were written. -/
def halfP (P E : List Int) (k : Nat) : List Int := P.take (4 * k) ++ E.drop (4 * k)
theorem halfP_len (P E : List Int) (k : Nat) (h : E.length = P.length) : (halfP P E k).length = P.length := by simp [halfP]; omega
theorem halfP_hi (P E : List Int) (k j : Nat) (h : E.length = P.length) (hk : 4 * k ≤ P.length) (hj : 4 * k ≤ j) : (halfP P E k).getD j 0 = E.getD j 0 := by
  have e : (P.take (4 * k)).length = 4 * k := by simp; omega
  simp only [halfP, List.getD_eq_getElem?_getD]
  rw [List.getElem?_append_right (by omega), e, List.getElem?_drop, show 4 * k + (j - 4 * k) = j by omega]
theorem halfP_step (P E : List Int) (k : Nat) (h : E.length = P.length) (hk : 4 * k + 4 ≤ P.length) (h1 : E.getD (4 * k + 1) 0 = P.getD (4 * k + 1) 0) (h3 : E.getD (4 * k + 3) 0 = P.getD (4 * k + 3) 0) :
    ((halfP P E k).set (4 * k) (P.getD (4 * k) 0)).set (4 * k + 2) (P.getD (4 * k + 2) 0) = halfP P E (k + 1) := by
  have e1 : (halfP P E k).length = P.length := halfP_len P E k h
  have e2 : (halfP P E (k + 1)).length = P.length := halfP_len P E (k + 1) h
  apply List.ext_getElem (by simp [e1, e2])
  intro j hj1 hj2
  have hjP : j < P.length := by omega
  have key : ∀ (l : List Int) (hl : j < l.length), l[j] = l.getD j 0 := fun l hl => by simp [hl]
  rw [key _ hj1, key _ hj2]
  have lo : ∀ q i, i < 4 * q → 4 * q ≤ P.length → (halfP P E q).getD i 0 = P.getD i 0 := by
    intro q i hi hq
    have e : (P.take (4 * q)).length = 4 * q := by simp; omega
    simp only [halfP, List.getD_eq_getElem?_getD]
    rw [List.getElem?_append_left (by omega), List.getElem?_take, if_pos hi]
  by_cases c0 : j < 4 * k
  · rw [lo (k + 1) j (by omega) (by omega)]
    have := lo k j c0 (by omega)
    simp only [List.getD_eq_getElem?_getD, List.getElem?_set, show ¬ 4 * k + 2 = j by omega, show ¬ 4 * k = j by omega, if_false] at *
    exact this
  · by_cases c4 : 4 * k + 4 ≤ j
    · rw [halfP_hi P E (k + 1) j h (by omega) (by omega)]
      have := halfP_hi P E k j h (by omega) (by omega)
      simp only [List.getD_eq_getElem?_getD, List.getElem?_set, show ¬ 4 * k + 2 = j by omega, show ¬ 4 * k = j by omega, if_false] at *
      exact this
    · rw [lo (k + 1) j (by omega) (by omega)]
      have hh := halfP_hi P E k j h (by omega) (by omega)
      have hj : j = 4 * k ∨ j = 4 * k + 1 ∨ j = 4 * k + 2 ∨ j = 4 * k + 3 := by omega
      have l1 : 4 * k < (halfP P E k).length := by omega
      have l2 : 4 * k + 2 < (halfP P E k).length := by omega
      rcases hj with rfl | rfl | rfl | rfl
      · simp [List.getElem?_set, l1]
      · rw [← h1, ← hh]
        simp [List.getElem?_set]
      · simp [List.getElem?_set, l2]
      · rw [← h3, ← hh]
        simp [List.getElem?_set]

/-- What stands in the place of the pixels: by the factors of each one's block. -/
structure Encd (P E D : List Int) (W H s : Nat) : Prop where
  len : E.length = P.length
  size : P.length = 4 * (W * H)
  r : ∀ y x, y < H → x < W → E.getD (4 * (y * W + x)) 0 = encR (D.getD (4 * (y / 2 ^ s * blkN W s + x / 2 ^ s) + 2) 0) (P.getD (4 * (y * W + x)) 0) (P.getD (4 * (y * W + x) + 1) 0)
  g : ∀ y x, y < H → x < W → E.getD (4 * (y * W + x) + 1) 0 = P.getD (4 * (y * W + x) + 1) 0
  b : ∀ y x, y < H → x < W → E.getD (4 * (y * W + x) + 2) 0 = encB (D.getD (4 * (y / 2 ^ s * blkN W s + x / 2 ^ s) + 1) 0) (D.getD (4 * (y / 2 ^ s * blkN W s + x / 2 ^ s)) 0) (P.getD (4 * (y * W + x)) 0) (P.getD (4 * (y * W + x) + 1) 0) (P.getD (4 * (y * W + x) + 2) 0)
  a : ∀ y x, y < H → x < W → E.getD (4 * (y * W + x) + 3) 0 = P.getD (4 * (y * W + x) + 3) 0

set_option maxRecDepth 100000 in
set_option maxHeartbeats 8000000 in
theorem crossColor_any (T g n cap W H s : Nat) (base : Nat) (Ad : Option Addr) (capd : Nat) (P E D : List Int) (w : World) (hW : 1 ≤ W) (hW2 : (W : Int) ≤ 16384) (hH : (H : Int) ≤ 16384) (hWH : ((W * H : Nat) : Int) ≤ 16384) (hs : 2 ≤ s) (hs9 : s ≤ 9)
    (hn : P.length = n) (hE : Encd P E D W H s) (hPB : Byt P) (hDB : Byt D) (hD : D.length = 4 * (blkN W s * blkN H s)) (hT : T ≠ g)
    (hTB : Blk w T 55 #[.int .u32 0, .int .i32 W, .int .u32 s, .slice Ad D.length capd]) (hrd : Rd .u8 w base Ad D)
    (hown : w.ownsRow base 5 1 (.slice (some ⟨g, 0, none⟩) n cap) n (E.map (Value.int .u8))) :
    Calls Try.prog 32 #[.pointer (some ⟨T, 0, none⟩), .slice (some ⟨g, 0, none⟩) n cap, .int .i32 H] w fun e w' => e = .returned (.slice (some ⟨g, 0, none⟩) n cap) ∧
      w'.ownsRow base 5 1 (.slice (some ⟨g, 0, none⟩) n cap) n (P.map (Value.int .u8)) ∧ Upd [g] w w' := by
  obtain ⟨p1, p2⟩ := pow_bd s hs9
  have t1 := hTB.cell 1
  have t2 := hTB.cell 2
  have t3 := hTB.cell 3
  simp at t1 t2 t3
  have cT := fun w' => tiles_any W s w' hW2 hs9
  have hbl := blkN_le W s
  replace cT := hide cT
  replace hE := hide hE
  replace hPB := hide hPB
  replace hDB := hide hDB
  replace hrd := hide hrd
  replace hTB := hide hTB
  replace hown := hide hown
  replace hn := hide hn
  replace hD := hide hD
  have hs32 : (s : Int) ≤ 9 := by omega
  go_enter Try.func32, Try.ntmps32
  go_wp2
  go_quiet ((go_at_call 39; first | (with_reducible exact quiet_after (cT.out _)) | (with_reducible exact quiet_first (cT.out _))))
  go_wp2
  go_loopg [10, 13] H (fun k u10 u13 wr => ∃ y : Nat, k + y = H ∧ u13 = .int .i32 y ∧ u10 = .int .i32 (4 * ((y * W : Nat) : Int)) ∧ wr.ownsRow base 5 1 (.slice (some ⟨g, 0, none⟩) n cap) n ((halfP P E (y * W)).map (Value.int .u8)) ∧ Upd [g] w wr)
  case atStart => exact ⟨0, rfl, rfl, by simp, own_drewN (by simpa [halfP] using hown.out) _, (Upd.refl _ _).drewN _⟩
  case round =>
    obtain ⟨y, hy, rfl, rfl, ho, hU⟩ := hrel
    cases gk with
    | zero =>
      have hy' : y = H := by omega
      subst hy'
      have he : halfP P E (y * W) = P := by
        have h1 := hE.out.len
        have h2 := hE.out.size
        rw [Nat.mul_comm y W]
        unfold halfP
        rw [← h2, List.take_length, ← h1, List.drop_length, List.append_nil]
      rw [he] at ho
      replace ho := hide ho
      replace hU := hide hU
      clear he
      go_wp2
      go_ret
      exact ⟨rfl, ho.out, hU.out⟩
    | succ k =>
      have hgT : base ≤ g := (hown.out.lt g rfl).1
      have hTw : T < w.heap.size := hTB.out.lt
      replace t1 := (hU.cell (p := ⟨T, 1, none⟩) hTw (by simp; omega)).trans t1
      replace t2 := (hU.cell (p := ⟨T, 2, none⟩) hTw (by simp; omega)).trans t2
      replace t3 := (hU.cell (p := ⟨T, 3, none⟩) hTw (by simp; omega)).trans t3
      have hyH : y < H := by omega
      have hyHi : (y : Int) < (H : Int) := by omega
      have hYb := div_lt_blk y H s hyH
      have hrow : y * W + W ≤ W * H := by
        have h1 : (y + 1) * W ≤ H * W := Nat.mul_le_mul_right _ hyH
        rw [Nat.add_mul, Nat.one_mul, Nat.mul_comm H W] at h1
        exact h1
      have eY : (y : Int) / 2 ^ s = ((y / 2 ^ s : Nat) : Int) := by simp
      have hq0 : y / 2 ^ s * blkN W s ≤ y * W := Nat.mul_le_mul (Nat.div_le_self _ _) hbl
      have hEr := fun x hx => hE.out.r y x hyH hx
      have hEg := fun x hx => hE.out.g y x hyH hx
      have hEb := fun x hx => hE.out.b y x hyH hx
      have hEa := fun x hx => hE.out.a y x hyH hx
      generalize y / 2 ^ s = Y at *
      have eq0 : 4 * (Y : Int) * ((blkN W s : Nat) : Int) = 4 * ((Y * blkN W s : Nat) : Int) := by rw [Int.natCast_mul, Int.mul_assoc]
      have hq0i : ((Y * blkN W s : Nat) : Int) ≤ 16384 := by omega
      have hYi : (Y : Int) ≤ 16384 := by
        have := hYb
        have h2 := blkN_le H s
        omega
      have hq1 : Y * blkN W s + blkN W s ≤ blkN W s * blkN H s := by
        have h1 : (Y + 1) * blkN W s ≤ blkN H s * blkN W s := Nat.mul_le_mul_right _ hYb
        rw [Nat.add_mul, Nat.one_mul, Nat.mul_comm (blkN H s)] at h1
        exact h1
      have hdl := fun x hx => div_lt_blk x W s hx
      have hy1 : ((y + 1) * W : Nat) = y * W + W := by rw [Nat.add_mul, Nat.one_mul]
      generalize Y * blkN W s = q0 at *
      generalize hyw : y * W = yw at *
      generalize blkN W s = tp at *
      obtain ⟨wo, hwo⟩ : ∃ x, x = wr := ⟨_, rfl⟩
      subst hwo
      replace ho := hide ho
      replace hU := hide hU
      replace hEr := hide hEr
      replace hEg := hide hEg
      replace hEb := hide hEb
      replace hEa := hide hEa
      replace hdl := hide hdl
      replace hy1 := hide hy1
      replace hyw := hide hyw
      have hWi : (1 : Int) ≤ (W : Int) := by omega
      go_wp2
      go_loopg [7, 8, 9, 10, 14, 15] W (fun k u7 u8 u9 u10 u14 u15 wr => ∃ x a r : Nat, k + x = W ∧ x = 2 ^ s * a + r ∧ r < 2 ^ s ∧ u15 = .int .i32 x ∧ u10 = .int .i32 (4 * ((yw + x : Nat) : Int)) ∧ u14 = .int .i32 (4 * ((q0 + (if r = 0 then a else a + 1) : Nat) : Int)) ∧
        (r ≠ 0 → u7 = .int .i32 (sgn (D.getD (4 * (q0 + a) + 2) 0)) ∧ u8 = .int .i32 (sgn (D.getD (4 * (q0 + a) + 1) 0)) ∧ u9 = .int .i32 (sgn (D.getD (4 * (q0 + a)) 0))) ∧
        wr.ownsRow base 5 1 (.slice (some ⟨g, 0, none⟩) n cap) n ((halfP P E (yw + x)).map (Value.int .u8)) ∧ Upd [g] w wr)
      case atStart => exact ⟨0, 0, 0, rfl, rfl, Nat.pow_pos (by decide), rfl, rfl, rfl, fun h => absurd rfl h, ho.out, hU.out⟩
      case round =>
        obtain ⟨x, a, r, hx, hxa, hr, rfl, rfl, rfl, hreg, hoj, hUj⟩ := hrel
        replace t1 := ((hUj.cell (p := ⟨T, 1, none⟩) hTw (by simp; omega)).trans (hTB.out.cell 1))
        replace t2 := ((hUj.cell (p := ⟨T, 2, none⟩) hTw (by simp; omega)).trans (hTB.out.cell 2))
        replace t3 := ((hUj.cell (p := ⟨T, 3, none⟩) hTw (by simp; omega)).trans (hTB.out.cell 3))
        simp at t1 t2 t3
        replace hxa := hide hxa
        cases gk with
        | zero =>
          have hx' : x = W := by omega
          subst hx'
          replace hoj := hide hoj
          replace hUj := hide hUj
          clear hreg ho hU
          generalize (if r = 0 then a else a + 1) = aa
          go_wp2
          go_roundg k
          case measure => omega
          case rel => exact ⟨y + 1, by omega, by go_num, by rw [hy1.out], by rw [hy1.out]; exact hoj.out, hUj.out⟩
        | succ k2 =>
          have hxW : x < W := by omega
          have hxWi : (x : Int) < (W : Int) := by omega
          have hlt : yw + x < W * H := by omega
          have hsz := hE.out.size
          have hEl := hE.out.len
          have hnn := hn.out
          have hxr := hEr.out x hxW
          have hxg := hEg.out x hxW
          have hxb := hEb.out x hxW
          have hxA := hEa.out x hxW
          have hst := halfP_step P E (yw + x) hEl (by omega) hxg hxA
          have v0 := own_cell hoj (4 * (yw + x)) (by omega)
          have v1 := own_cell hoj (4 * (yw + x) + 1) (by omega)
          have v2 := own_cell hoj (4 * (yw + x) + 2) (by omega)
          rw [halfP_hi P E _ _ hEl (by omega) (by omega)] at v0 v1 v2
          have hxK : x / 2 ^ s = a := by
            rw [hxa.out, Nat.mul_add_div (Nat.pow_pos (by decide)), Nat.div_eq_of_lt hr]
            rfl
          have hxm : x % 2 ^ s = r := by
            rw [hxa.out, Nat.mul_add_mod, Nat.mod_eq_of_lt hr]
          have hand : bits .and .i32 (x : Int) (2 ^ s - 1) = (r : Int) := by
            rw [and_mask .i32 s (by show s < 32; omega), ← hxm]
            simp
          have hat := hdl.out x hxW
          rw [hxK] at hxr hxb hat
          rw [hxr] at v0
          rw [hxg] at v1
          rw [hxb] at v2
          have hDl := hD.out
          obtain ⟨bd, offd, rfl, hbd, hcd⟩ := hrd.out.at_ (j := 4 * (q0 + a)) (by omega)
          have hUU := hide hUj
          have d0 := (hUj.cell (p := ⟨bd, offd + 4 * (q0 + a), none⟩) (by have := (hown.out.lt g rfl).2; simp; omega) (by simp; omega)).trans (hcd (4 * (q0 + a)) (by omega))
          have d1 := (hUj.cell (p := ⟨bd, offd + (4 * (q0 + a) + 1), none⟩) (by have := (hown.out.lt g rfl).2; simp; omega) (by simp; omega)).trans (hcd (4 * (q0 + a) + 1) (by omega))
          have d2 := (hUj.cell (p := ⟨bd, offd + (4 * (q0 + a) + 2), none⟩) (by have := (hown.out.lt g rfl).2; simp; omega) (by simp; omega)).trans (hcd (4 * (q0 + a) + 2) (by omega))
          have b0 := hDB.out (4 * (q0 + a))
          have b1 := hDB.out (4 * (q0 + a) + 1)
          have b2 := hDB.out (4 * (q0 + a) + 2)
          have c0 := hPB.out (4 * (yw + x))
          have c1 := hPB.out (4 * (yw + x) + 1)
          have c2 := hPB.out (4 * (yw + x) + 2)
          have hqa : 4 * (q0 + a) + 4 ≤ D.length := by omega
          have z0 := hoj.frozenAt (4 * (yw + x))
          have z2 := hoj.frozenAt (4 * (yw + x) + 2)
          have o1 := own_set hoj (4 * (yw + x)) (P.getD (4 * (yw + x)) 0)
          obtain ⟨vv, v2'⟩ : ∃ u, (wr.setCell ⟨g, 4 * (yw + x), none⟩ (.int .u8 (P.getD (4 * (yw + x)) 0))).cell? ⟨g, 4 * (yw + x) + 2, none⟩ = some u := ⟨_, own_cell o1 (4 * (yw + x) + 2) (by omega)⟩
          have o2 := own_set o1 (4 * (yw + x) + 2) (P.getD (4 * (yw + x) + 2) 0)
          rw [hst] at o2
          have hdec := dec_R (D.getD (4 * (q0 + a) + 2) 0) (P.getD (4 * (yw + x)) 0) (P.getD (4 * (yw + x) + 1) 0) c0
          have hdecb := dec_B (D.getD (4 * (q0 + a) + 1) 0) (D.getD (4 * (q0 + a)) 0) (P.getD (4 * (yw + x)) 0) (P.getD (4 * (yw + x) + 1) 0) (P.getD (4 * (yw + x) + 2) 0) c2
          have eb0 : 0 ≤ encR (D.getD (4 * (q0 + a) + 2) 0) (P.getD (4 * (yw + x)) 0) (P.getD (4 * (yw + x) + 1) 0) ∧ encR (D.getD (4 * (q0 + a) + 2) 0) (P.getD (4 * (yw + x)) 0) (P.getD (4 * (yw + x) + 1) 0) ≤ 255 := by unfold encR; omega
          have eb2 : 0 ≤ encB (D.getD (4 * (q0 + a) + 1) 0) (D.getD (4 * (q0 + a)) 0) (P.getD (4 * (yw + x)) 0) (P.getD (4 * (yw + x) + 1) 0) (P.getD (4 * (yw + x) + 2) 0) ∧ encB (D.getD (4 * (q0 + a) + 1) 0) (D.getD (4 * (q0 + a)) 0) (P.getD (4 * (yw + x)) 0) (P.getD (4 * (yw + x) + 1) 0) (P.getD (4 * (yw + x) + 2) 0) ≤ 255 := by unfold encB; omega
          generalize encR (D.getD (4 * (q0 + a) + 2) 0) (P.getD (4 * (yw + x)) 0) (P.getD (4 * (yw + x) + 1) 0) = er at *
          generalize encB (D.getD (4 * (q0 + a) + 1) 0) (D.getD (4 * (q0 + a)) 0) (P.getD (4 * (yw + x)) 0) (P.getD (4 * (yw + x) + 1) 0) (P.getD (4 * (yw + x) + 2) 0) = eb at *
          unfold dlt at hdec hdecb
          generalize hf0 : D.getD (4 * (q0 + a) + 2) 0 = f0 at *
          generalize hf1 : D.getD (4 * (q0 + a) + 1) 0 = f1 at *
          generalize hf2 : D.getD (4 * (q0 + a)) 0 = f2 at *
          generalize P.getD (4 * (yw + x)) 0 = pr at *
          generalize P.getD (4 * (yw + x) + 1) 0 = pg at *
          generalize P.getD (4 * (yw + x) + 2) 0 = pb at *
          have m0 := mul_sgn f0 pg b2 c1
          have m1 := mul_sgn f1 pg b1 c1
          have m2 := mul_sgn f2 pr b0 c0
          rw [← dlt_byte _ m0] at hdec
          rw [← dlt_byte _ m1, ← dlt_byte _ m2] at hdecb
          have hdecb2 : (eb + sgn f1 * sgn pg % 4294967296 / 32 + sgn f2 * sgn pr % 4294967296 / 32) % 256 = pb := by omega
          have i8f0 : IntKind.i8.wrap f0 = sgn f0 := wrap_i8 f0 b2
          have i8f1 : IntKind.i8.wrap f1 = sgn f1 := wrap_i8 f1 b1
          have i8f2 : IntKind.i8.wrap f2 = sgn f2 := wrap_i8 f2 b0
          have i8pg : IntKind.i8.wrap pg = sgn pg := wrap_i8 pg c1
          have i8pr : IntKind.i8.wrap pr = sgn pr := wrap_i8 pr c0
          have s0 := sgn_bd f0 b2
          have s1 := sgn_bd f1 b1
          have s2 := sgn_bd f2 b0
          have s3 := sgn_bd pg c1
          have s4 := sgn_bd pr c0
          have n0 : 4 * ((yw + x : Nat) : Int) < (n : Int) := by omega
          have n1 : 4 * ((yw + x : Nat) : Int) + 1 < (n : Int) := by omega
          have n2 : 4 * ((yw + x : Nat) : Int) + 2 < (n : Int) := by omega
          have n3 : ((yw + x : Nat) : Int) ≤ 16384 := by omega
          have n4 : (0 : Int) ≤ ((yw + x : Nat) : Int) := by omega
          have l0 : 4 * ((q0 + a : Nat) : Int) < (D.length : Int) := by omega
          have l1 : 4 * ((q0 + a : Nat) : Int) + 1 < (D.length : Int) := by omega
          have l2 : 4 * ((q0 + a : Nat) : Int) + 2 < (D.length : Int) := by omega
          have l3 : ((q0 + a : Nat) : Int) ≤ 40000 := by omega
          have l4 : (0 : Int) ≤ ((q0 + a : Nat) : Int) := by omega
          have hx0 : (0 : Int) ≤ (x : Int) := by omega
          have hxx : (x : Int) ≤ 16384 := by omega
          have h2s : 1 < 2 ^ s := Nat.one_lt_two_pow (by omega)
          have hi0 : yw + x = yw + x := rfl
          generalize hI : yw + x = I at *
          generalize hQ : q0 + a = QA at *
          replace hI := hide hI
          replace hQ := hide hQ
          replace hf0 := hide hf0
          replace hf1 := hide hf1
          replace hf2 := hide hf2
          replace hxr := hide hxr
          replace hxg := hide hxg
          replace hxb := hide hxb
          replace hxA := hide hxA
          replace hst := hide hst
          replace hxK := hide hxK
          replace hxm := hide hxm
          replace hDl := hide hDl
          replace hsz := hide hsz
          replace hEl := hide hEl
          replace hnn := hide hnn
          replace o1 := hide o1
          replace o2 := hide o2
          replace hoj := hide hoj
          replace hUj := hide hUj
          clear ho hU hcd hi0
          by_cases h0 : r = 0
          · subst h0
            have hand0 : bits .and .i32 (x : Int) (2 ^ s - 1) = 0 := by rw [hand]; rfl
            simp only [if_true, hQ.out]
            clear hreg hand
            go_wp2
            go_roundg k2
            case measure => omega
            case rel =>
              have e1 := hI.out
              have e2 := hQ.out
              have e3 := hxa.out
              refine ⟨x + 1, a, 1, by omega, by omega, h2s, by go_num, ?_, ?_, ?_, ?_, (hUj.out.setCell (.inl (by simp)) _).setCell (.inl (by simp)) _⟩
              · congr 1
                omega
              · rw [if_neg (by decide)]
                congr 1
                omega
              · intro _
                rw [hQ.out]
                exact ⟨by rw [hf0.out], by rw [hf1.out], by rw [hf2.out]⟩
              · rw [show yw + (x + 1) = I + 1 by omega]
                exact o2.out
          · obtain ⟨rfl, rfl, rfl⟩ := hreg h0
            have hr0 : ((r : Int) == 0) = false := by simp; omega
            simp only [h0, if_false]
            clear hreg
            have hq4 : (q0 + (a + 1) : Nat) = QA + 1 := by have := hQ.out; omega
            rw [hq4]
            clear hq4
            replace h0 := hide h0
            go_wp2
            go_roundg k2
            case measure => omega
            case rel =>
              have e1 := hI.out
              have e2 := hQ.out
              have e3 := hxa.out
              by_cases hrK : r + 1 < 2 ^ s
              · refine ⟨x + 1, a, r + 1, by omega, by omega, hrK, by go_num, ?_, ?_, ?_, ?_, (hUj.out.setCell (.inl (by simp)) _).setCell (.inl (by simp)) _⟩
                · congr 1
                  omega
                · rw [if_neg (by omega)]
                  congr 1
                  omega
                · intro _
                  rw [hQ.out]
                  exact ⟨by rw [hf0.out], by rw [hf1.out], by rw [hf2.out]⟩
                · rw [show yw + (x + 1) = I + 1 by omega]
                  exact o2.out
              · have hm : 2 ^ s * (a + 1) = 2 ^ s * a + 2 ^ s := by rw [Nat.mul_add, Nat.mul_one]
                refine ⟨x + 1, a + 1, 0, by omega, by omega, by omega, by go_num, ?_, ?_, fun h => absurd rfl h, ?_, (hUj.out.setCell (.inl (by simp)) _).setCell (.inl (by simp)) _⟩
                · congr 1
                  omega
                · rw [if_pos rfl]
                  congr 1
                  omega
                · rw [show yw + (x + 1) = I + 1 by omega]
                  exact o2.out
end Go.Proofs.Ytpiapfahcoopbaa

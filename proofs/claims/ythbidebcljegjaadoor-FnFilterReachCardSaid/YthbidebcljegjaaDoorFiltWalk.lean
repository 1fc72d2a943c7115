/- The simple filter: the walks of the code's side. -/
import Derived.Test.YthbidebcljegjaaDoorFiltPlain
import Derived.Test.YthbidebcljegjaaDoorPlain
import Derived.Test.YthbidebcljegjaaDoorRows
import Derived.Outline
import Derived.WalkLawsBesides
import Derived.RegionTactic
import Derived.Deep.QuietTactic
import Derived.BigQuiet
import Derived.Deep.LoopGhost
namespace Go.Proofs.YthbidebcljegjaaDoor
set_option linter.unusedSimpArgs false
set_option linter.unusedVariables false
open Go.RowKit

theorem xor_ones : ∀ k : Nat, k < 256 → 1 ≤ k → bits .xor .i64 (-(k : Int)) (-1) = (k : Int) - 1 := by decide +kernel
theorem xor_zero : ∀ k : Nat, k < 256 → bits .xor .i64 (k : Int) 0 = (k : Int) := by decide +kernel

theorem abs_any (x : Int) (w : World) (h1 : -255 ≤ x) (h2 : x ≤ 255) : Calls Tryd.prog 72 #[.int .i64 x] w fun e w' => e = .returned (.int .i64 (if x < 0 then -x else x)) ∧ w = w' := by
  by_cases hx : x < 0
  · obtain ⟨k, hk⟩ : ∃ k : Nat, x = -(k : Int) := ⟨x.natAbs, by omega⟩
    subst hk
    have e1 : -(k : Int) / 9223372036854775808 = -1 := by omega
    have e2 := xor_ones k (by omega) (by omega)
    rw [if_pos hx]
    go_enter Tryd.func72, Tryd.ntmps72
    go_wp2
    go_ret
    refine ⟨?_, rfl⟩
    simp
  · obtain ⟨k, hk⟩ := Int.eq_ofNat_of_zero_le (show 0 ≤ x by omega)
    subst hk
    have e1 : (k : Int) / 9223372036854775808 = 0 := by omega
    have e2 := xor_zero k (by omega)
    rw [if_neg hx]
    go_enter Tryd.func72, Tryd.ntmps72
    go_wp2
    go_ret
    exact ⟨rfl, rfl⟩

theorem clamp127_any (x : Int) (w : World) : Calls Tryd.prog 73 #[.int .i64 x] w fun e w' => e = .returned (.int .i64 (clamp (-128) 127 x)) ∧ w = w' := by
  unfold clamp
  go_enter Tryd.func73, Tryd.ntmps73
  by_cases h1 : x < -128
  · go_wp2
    go_ret
    exact ⟨rfl, rfl⟩
  · by_cases h2 : 127 < x
    · go_wp2
      go_ret
      exact ⟨rfl, rfl⟩
    · go_wp2
      go_ret
      exact ⟨rfl, rfl⟩
theorem clamp15_any (x : Int) (w : World) : Calls Tryd.prog 74 #[.int .i64 x] w fun e w' => e = .returned (.int .i64 (clamp (-16) 15 x)) ∧ w = w' := by
  unfold clamp
  go_enter Tryd.func74, Tryd.ntmps74
  by_cases h1 : x < -16
  · go_wp2
    go_ret
    exact ⟨rfl, rfl⟩
  · by_cases h2 : 15 < x
    · go_wp2
      go_ret
      exact ⟨rfl, rfl⟩
    · go_wp2
      go_ret
      exact ⟨rfl, rfl⟩
theorem clamp255_any (x : Int) (w : World) : Calls Tryd.prog 75 #[.int .i64 x] w fun e w' => e = .returned (.int .u8 (clamp 0 255 x)) ∧ w = w' := by
  unfold clamp
  go_enter Tryd.func75, Tryd.ntmps75
  by_cases h1 : x < 0
  · go_wp2
    go_ret
    exact ⟨rfl, rfl⟩
  · by_cases h2 : 255 < x
    · go_wp2
      go_ret
      exact ⟨rfl, rfl⟩
    · go_wp2
      go_ret
      exact ⟨rfl, rfl⟩

theorem abs_dist (a b : Int) (w : World) (ha : 0 ≤ a ∧ a ≤ 255) (hb : 0 ≤ b ∧ b ≤ 255) : Calls Tryd.prog 72 #[.int .i64 (a - b)] w fun e w' => e = .returned (.int .i64 (dist a b)) ∧ w = w' := by
  have h := abs_any (a - b) w (by omega) (by omega)
  have e : (if a - b < 0 then -(a - b) else a - b) = dist a b := by unfold dist; split <;> split <;> omega
  rw [e] at h
  exact h

/-- The places of so many lines lie in a row of n. -/
def Fits (n : Nat) (c s st : Int) (lines : Nat) : Prop := ∀ m : Nat, m < lines → 0 ≤ c + m * st - 2 * s ∧ 0 ≤ c + m * st - s ∧ 0 ≤ c + m * st ∧ 0 ≤ c + m * st + s ∧ c + m * st - 2 * s < n ∧ c + m * st - s < n ∧ c + m * st < n ∧ c + m * st + s < n
theorem flines_len (lev s st : Int) (n : Nat) : ∀ (P : List Int) (c : Int), (flines lev s st n P c).length = P.length := by
  induction n with
  | zero => intro P c; rfl
  | succ n ih => intro P c; rw [flines, ih, fline_len]
theorem flines_bytes (lev s st : Int) (n : Nat) : ∀ (P : List Int) (c : Int), Bytes P → Bytes (flines lev s st n P c) := by
  induction n with
  | zero => intro P c h; exact h
  | succ n ih => intro P c h; exact ih _ _ (fline_bytes _ _ _ _ h)

set_option maxHeartbeats 4000000 in
set_option maxRecDepth 100000 in
theorem filter2_any (base g n cap : Nat) (P : List Int) (lev c s st : Int) (w : World) (hn : P.length = n) (hB : Bytes P) (hF : Fits n c s st 16) (hlev : 0 ≤ lev ∧ lev ≤ 255) (hbd : -16384 ≤ c ∧ c ≤ 16384 ∧ -16384 ≤ s ∧ s ≤ 16384 ∧ -16384 ≤ st ∧ st ≤ 16384) (hnn : n ≤ 16384)
    (hown : w.ownsRow base 5 1 (.slice (some ⟨g, 0, none⟩) n cap) n (P.map (Value.int .u8))) :
    Calls Tryd.prog 58 #[.slice (some ⟨g, 0, none⟩) n cap, .int .i64 lev, .int .i64 c, .int .i64 st, .int .i64 s] w fun e w' => e = .returned (.tuple #[]) ∧
      w'.ownsRow base 5 1 (.slice (some ⟨g, 0, none⟩) n cap) n ((flines lev s st 16 P c).map (Value.int .u8)) ∧ Upd [g] w w' := by
  go_enter Tryd.func58, Tryd.ntmps58
  go_wp2
  go_loopg [2, 10] 16 (fun k i2 i10 wr => ∃ m : Nat, k + m = 16 ∧ i2 = .int .i64 (c + m * st) ∧ i10 = .int .i64 k ∧ wr.ownsRow base 5 1 (.slice (some ⟨g, 0, none⟩) n cap) n ((flines lev s st m P c).map (Value.int .u8)) ∧ Upd [g] w wr)
  case atStart => exact ⟨0, rfl, by simp, rfl, hown, Upd.refl _ _⟩
  case round =>
    obtain ⟨m, hm, rfl, rfl, ho, hU⟩ := hrel
    cases gk with
    | zero =>
      have hm' : m = 16 := by omega
      subst hm'
      go_wp2
      go_end0
      exact ⟨rfl, ho, hU⟩
    | succ k =>
      obtain ⟨a1, a2, a3, a4, b1, b2, b3, b4⟩ := hF m (by omega)
      have hQ := flines_bytes lev s st m P c hB
      have hstep := flines_succ lev s st m P c
      generalize flines lev s st m P c = Q at *
      generalize he : c + (m : Int) * st = d at *
      have v1 := own_cell ho (d - 2 * s).toNat (by omega)
      have v2 := own_cell ho (d - s).toNat (by omega)
      have v3 := own_cell ho d.toNat (by omega)
      have v4 := own_cell ho (d + s).toNat (by omega)
      have z2 := ho.frozenAt (d - s).toNat
      have z3 := ho.frozenAt d.toNat
      have w1 := hQ (d - 2 * s).toNat
      have w2 := hQ (d - s).toNat
      have w3 := hQ d.toNat
      have w4 := hQ (d + s).toNat
      have hN : ∀ x y, ((wr.setCell ⟨g, (d - s).toNat, none⟩ (.int .u8 x)).setCell ⟨g, d.toNat, none⟩ (.int .u8 y)).ownsRow base 5 1 (.slice (some ⟨g, 0, none⟩) n cap) n (((Q.set (d - s).toNat x).set d.toNat y).map (Value.int .u8)) := fun x y => own_set (own_set ho _ x) _ y
      unfold fline newP newQ turnA at hstep
      simp only [at'] at hstep
      obtain ⟨p1, e1⟩ : ∃ x, x = Q.getD (d - 2 * s).toNat 0 := ⟨_, rfl⟩
      obtain ⟨p0, e2⟩ : ∃ x, x = Q.getD (d - s).toNat 0 := ⟨_, rfl⟩
      obtain ⟨q0, e3⟩ : ∃ x, x = Q.getD d.toNat 0 := ⟨_, rfl⟩
      obtain ⟨q1, e4⟩ : ∃ x, x = Q.getD (d + s).toNat 0 := ⟨_, rfl⟩
      rw [← e1] at v1 w1
      rw [← e2] at v2 w2
      rw [← e3] at v3 w3
      rw [← e4] at v4 w4
      simp only [← e1, ← e2, ← e3, ← e4] at hstep
      clear e1 e2 e3 e4
      have k1 := fun w => abs_dist p0 q0 w w2 w3
      have k2 := fun w => abs_dist p1 q1 w w1 w4
      have k3 := fun w => clamp127_any (p1 - q1) w
      have y3 := clamp_bd (-128) 127 (p1 - q1) (by omega)
      have y1 := dist_bd p0 q0 w2 w3
      have y2 := dist_bd p1 q1 w1 w4
      unfold isNear at hstep
      generalize clamp (-128) 127 (p1 - q1) = cb at *
      have k4 := fun w => clamp15_any ((3 * (q0 - p0) + cb + 4) / 8) w
      have k5 := fun w => clamp15_any ((3 * (q0 - p0) + cb + 3) / 8) w
      have y4 := clamp_bd (-16) 15 ((3 * (q0 - p0) + cb + 4) / 8) (by omega)
      have y5 := clamp_bd (-16) 15 ((3 * (q0 - p0) + cb + 3) / 8) (by omega)
      generalize clamp (-16) 15 ((3 * (q0 - p0) + cb + 4) / 8) = x4 at *
      generalize clamp (-16) 15 ((3 * (q0 - p0) + cb + 3) / 8) = x3 at *
      have k6 := fun w => clamp255_any (p0 + x3) w
      have k7 := fun w => clamp255_any (q0 - x4) w
      generalize clamp 0 255 (p0 + x3) = np at *
      generalize clamp 0 255 (q0 - x4) = nq at *
      generalize dist p0 q0 = d1 at *
      generalize dist p1 q1 = d2 at *
      replace k1 := hide k1
      replace k2 := hide k2
      replace k3 := hide k3
      replace k4 := hide k4
      replace k5 := hide k5
      replace k6 := hide k6
      replace k7 := hide k7
      have v5 := own_cell (own_set ho (d - s).toNat np) d.toNat (by omega)
      generalize (Q.set (d - s).toNat np).getD d.toNat 0 = vv5 at v5
      have hk16 : (k : Int) ≤ 16 := by omega
      have hN' := hide (hN np nq)
      have hU' := hide hU
      have ho' := hide ho
      have hdb : -1000000000 ≤ d ∧ d ≤ 1000000000 := by omega
      obtain ⟨hd1, hd2⟩ := hdb
      have e28 : c + ((m : Int) + 1) * st = d + st := by rw [Int.add_mul]; omega
      replace e28 := hide e28
      replace he := hide he
      have hk0 : (0 : Int) < (k : Int) + 1 := by omega
      replace hm := hide hm
      clear hN hU ho hQ hF hB hown
      by_cases hnr : d1 * 2 + d2 / 2 ≤ lev
      · have hnr' : ¬ lev < d1 * 2 + d2 / 2 := by omega
        rw [if_pos (decide_eq_true hnr)] at hstep
        replace hstep := hide hstep
        go_wp2_with (first
          | (go_at_call 72; (with_reducible refine (k1.out _).mono ?_); rintro e w' ⟨rfl, rfl⟩)
          | (go_at_call 72; (with_reducible refine (k2.out _).mono ?_); rintro e w' ⟨rfl, rfl⟩)
          | (go_at_call 73; (with_reducible refine (k3.out _).mono ?_); rintro e w' ⟨rfl, rfl⟩)
          | (go_at_call 74; (with_reducible refine (k4.out _).mono ?_); rintro e w' ⟨rfl, rfl⟩)
          | (go_at_call 74; (with_reducible refine (k5.out _).mono ?_); rintro e w' ⟨rfl, rfl⟩)
          | (go_at_call 75; (with_reducible refine (k6.out _).mono ?_); rintro e w' ⟨rfl, rfl⟩)
          | (go_at_call 75; (with_reducible refine (k7.out _).mono ?_); rintro e w' ⟨rfl, rfl⟩)
          | go_in)
        go_roundg k
        case measure => omega
        case rel =>
          refine ⟨m + 1, by have := hm.out; omega, ?_, by go_num, ?_, ?_⟩
          · have := e28.out
            simp
            omega
          · rw [hstep.out]
            exact hN'.out
          · exact (hU'.out.setCell (.inl (by simp)) _).setCell (.inl (by simp)) _
      · have hnr' : lev < d1 * 2 + d2 / 2 := by omega
        rw [if_neg (by simpa using hnr)] at hstep
        replace hstep := hide hstep
        go_wp2_with (first
          | (go_at_call 72; (with_reducible refine (k1.out _).mono ?_); rintro e w' ⟨rfl, rfl⟩)
          | (go_at_call 72; (with_reducible refine (k2.out _).mono ?_); rintro e w' ⟨rfl, rfl⟩)
          | go_in)
        go_roundg k
        case measure => omega
        case rel =>
          refine ⟨m + 1, by have := hm.out; omega, ?_, by go_num, ?_, hU'.out⟩
          · have := e28.out
            simp
            omega
          · rw [hstep.out]
            exact ho'.out
end Go.Proofs.YthbidebcljegjaaDoor

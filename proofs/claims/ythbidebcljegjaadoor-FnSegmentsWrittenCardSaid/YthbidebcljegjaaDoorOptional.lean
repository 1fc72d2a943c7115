/- 'laws.size' and 'laws.optional': the walks. -/
import Derived.Test.YthbidebcljegjaaDoorLitRead
import Derived.Test.YthbidebcljegjaaDoorLitImpl
import Derived.Test.YthbidebcljegjaaDoorReadBool
import Derived.WalkLawsBesides
namespace Go.Proofs.YthbidebcljegjaaDoor
set_option linter.unusedSimpArgs false
set_option linter.unusedVariables false
open Go.RowKit Plain

/-- What 'size' makes of a number: its own value without the sign, but for the least one. -/
def sizeI (v : Int) : Int := if v = -9223372036854775808 then v else if 0 ≤ v then v else -v
theorem ret_i64 {a b : Int} (h : a = b) : Ending.returned (.int .i64 a) = .returned (.int .i64 b) := by rw [h]
theorem size_any (v : Int) (w : World) (h0 : -9223372036854775808 ≤ v) (h1 : v ≤ 9223372036854775807) : Calls Tryd.prog 43 #[.int .i64 v] w fun e w' => e = .returned (.int .i64 (sizeI v)) ∧ w = w' := by
  unfold sizeI
  by_cases hm : v = -9223372036854775808
  · subst hm
    rw [if_pos rfl]
    have e : wrap64 9223372036854775808 = -9223372036854775808 := by kernel_rfl
    go_enter Tryd.func43, Tryd.ntmps43
    go_wp2
    go_ret
    exact ⟨rfl, rfl⟩
  · rw [if_neg hm]
    have hn : IntKind.i64.wrap (-v) = -v := IntWalk.i64_in _ (by omega)
    by_cases hv : 0 ≤ v
    · rw [if_pos hv]
      go_enter Tryd.func43, Tryd.ntmps43
      go_wp2
      go_ret
      exact ⟨ret_i64 (by first | rfl | omega), rfl⟩
    · rw [if_neg hv]
      go_enter Tryd.func43, Tryd.ntmps43
      go_wp2
      go_ret
      exact ⟨ret_i64 (by first | rfl | omega), rfl⟩

/-- The number that is written: so many of its lowest bits, without the sign. -/
def optN (v : Int) (s : Nat) : Nat := v.natAbs % 2 ^ s
def optV (v : Int) (s : Nat) : Int := if v < 0 then -(optN v s : Int) else (optN v s : Int)
theorem optN_lt (v : Int) (s : Nat) : optN v s < 2 ^ s := Nat.mod_lt _ (Nat.pow_pos (by decide))
theorem size_mask (v : Int) (s : Nat) (hs : s ≤ 24) : bits .and .i64 (sizeI v) (2 ^ s - 1) = ((optN v s : Nat) : Int) := by
  rw [and_mask .i64 s (by show s < 64; omega) (sizeI v)]
  unfold sizeI optN
  have hp : (0 : Int) < 2 ^ s := Int.pow_pos (by decide)
  have h2 : ((2 ^ s : Nat) : Int) = (2 : Int) ^ s := by simp
  rw [Int.natCast_emod, h2]
  split
  · rename_i h
    subst h
    have hd : (2 : Int) ^ s ∣ 9223372036854775808 := by
      have e : (9223372036854775808 : Int) = 2 ^ s * 2 ^ (63 - s) := by
        rw [← Int.pow_add, show s + (63 - s) = 63 by omega]
        rfl
      exact ⟨_, e⟩
    have e1 : (-9223372036854775808 : Int) % 2 ^ s = 0 := Int.emod_eq_zero_of_dvd (Int.dvd_neg.2 hd)
    have e2 : ((-9223372036854775808 : Int).natAbs : Int) % 2 ^ s = 0 := Int.emod_eq_zero_of_dvd hd
    rw [e1, e2]
  · split
    · rw [show ((v.natAbs : Nat) : Int) = v by omega]
    · rw [show ((v.natAbs : Nat) : Int) = -v by omega]

theorem quiet_left {P : Program} {f : FuncId} {args : Array Value} {w : World} {n : Nat} {v : Value}
    (h : Calls P f args (w.drewN n) fun e w' => e = .returned v ∧ w.drewN n = w') : Calls P f args (w.drewN n) fun e w'' => e = .returned v ∧ ∃ m, w'' = w.drewN m :=
  h.mono fun _ _ ⟨he, hm⟩ => ⟨he, n, hm.symm⟩
theorem Bl.drewN' {base g : Nat} {w w' : World} (h : Bl base g w w') (n : Nat) : Bl base g w (w'.drewN n) := ⟨below_drewN h.toBelow n, h.keep⟩

set_option maxHeartbeats 2000000 in
theorem optional_ev (base g : Nat) (dn : List (Bool × Nat)) (v : Int) (s : Nat) (w : World) (h0 : -9223372036854775808 ≤ v) (h1 : v ≤ 9223372036854775807) (hs : s ≤ 24) (hd : Probs dn) (hl : (dn.length : Int) ≤ 20000000) (hO : WObj w base g (WS.start.puts dn)) :
    Calls Tryd.prog 26 #[.pointer (some ⟨g, 0, none⟩), .int .i64 v, .int .i64 s] w fun e w' => e = .returned (.int .i64 (optV v s)) ∧ WObj w' base g (WS.start.puts (dn ++ optEv (optN v s) 128 s (decide (v < 0)))) ∧ Bl base g w w' := by
  have hmask := size_mask v s hs
  have hlt := optN_lt v s
  have hpw : (1 : Int) ≤ 2 ^ s ∧ (2 : Int) ^ s ≤ 16777216 := by
    have h1 : (0 : Int) < 2 ^ s := Int.pow_pos (by decide)
    have h2 : (2 : Nat) ^ s ≤ 2 ^ 24 := Nat.pow_le_pow_right (by decide) hs
    have h3 := Int.ofNat_le.2 h2
    simp at h3
    omega
  obtain ⟨hpw1, hpw2⟩ := hpw
  have hn24 : ((optN v s : Nat) : Int) ≤ 16777215 := by
    have h2 : (2 : Nat) ^ s ≤ 2 ^ 24 := Nat.pow_le_pow_right (by decide) hs
    have h3 := Int.ofNat_lt.2 (Nat.lt_of_lt_of_le hlt h2)
    simp at h3
    omega
  unfold optV
  generalize optN v s = n at *
  have cZ := hide fun w => size_any v w h0 h1
  have hs0 : (0 : Int) ≤ (s : Int) := by omega
  have hs64 : (s : Int) ≤ 24 := by omega
  replace hO := hide hO
  replace hlt := hide hlt
  generalize hSI : sizeI v = z at *
  replace hSI := hide hSI
  by_cases hn : n = 0
  · subst hn
    have e0 : (if v < 0 then -((0 : Nat) : Int) else ((0 : Nat) : Int)) = 0 := by split <;> rfl
    rw [e0]
    have cF := hide fun w hO => flag_ev base g dn false w hd (by omega) hO
    have eO : optEv 0 128 s (decide (v < 0)) = [(false, 128)] := if_pos rfl
    rw [eO]
    clear e0 eO hlt
    simp only [Int.natCast_zero, Int.ofNat_eq_natCast] at hmask hn24
    go_enter Tryd.func26, Tryd.ntmps26
    go_wp2_with fail
    go_quiet ((go_at_call 43; exact quiet_left (cZ.out _)))
    go_wp2_with (first | (go_at_call 25; (with_reducible refine (cF.out _ (WObj.drewN hO.out _)).mono ?_); rintro e w2 ⟨rfl, hO2, hB2⟩; replace hO2 := hide hO2; replace hB2 := hide hB2) | fail)
    go_ret
    exact ⟨rfl, hO2.out, (Bl.drewN' (Bl.refl _ _ _) _).trans hB2.out⟩
  · have hne : ((n : Int) == 0) = false := by simp; omega
    have hne' : ((n : Int) != 0) = true := by simp; omega
    have eO : optEv n 128 s (decide (v < 0)) = (true, 128) :: signEv n 128 s (decide (v < 0)) := if_neg hn
    rw [eO]
    have hd2 : Probs (dn ++ [(true, 128)]) := hd.append (by intro x hx; simp at hx; subst hx; decide)
    have hd3 : Probs ((dn ++ [(true, 128)]) ++ bitsOf n 128 s) := hd2.append (bitsOf_probs n 128 s (by decide))
    have hl2 : ((dn ++ [(true, 128)]).length : Int) ≤ 30000000 := by simp; omega
    have hl3 : (((dn ++ [(true, 128)]) ++ bitsOf n 128 s).length : Int) ≤ 40000000 := by simp [bitsOf_len]; omega
    have cF := hide fun w hO => flag_ev base g dn true w hd (by omega) hO
    have cN : ∀ w, WObj w base g (WS.start.puts (dn ++ [(true, 128)])) → Calls Tryd.prog 13 #[.pointer (some ⟨g, 0, none⟩), .int .i64 n, .int .i64 s, .int .i64 128] w fun e w' => e = .returned (.tuple #[]) ∧ WObj w' base g (WS.start.puts ((dn ++ [(true, 128)]) ++ bitsOf n 128 s)) ∧ Bl base g w w' :=
      fun w hO => number_ev base g n 128 s (dn ++ [(true, 128)]) w hn24 hs hd2 hl2 (by decide) hO
    replace cN := hide cN
    have cG := hide fun b w hO => flag_ev base g ((dn ++ [(true, 128)]) ++ bitsOf n 128 s) b w hd3 hl3 hO
    clear hd hd2 hd3 hl2 hl3 hlt eO
    by_cases hv : v < 0
    · have hvd := decide_eq_true hv
      rw [hvd, if_pos hv]
      go_enter Tryd.func26, Tryd.ntmps26
      go_wp2_with fail
      go_quiet ((go_at_call 43; exact quiet_left (cZ.out _)))
      go_wp2_with fail
      (with_reducible refine (cF.out _ (WObj.drewN hO.out _)).mono ?_)
      rintro e w2 ⟨rfl, hO2, hB2⟩
      replace hO2 := hide hO2
      replace hB2 := hide ((Bl.drewN' (Bl.refl base g w) _).trans hB2)
      go_wp2_with fail
      (with_reducible refine (cN.out _ hO2.out).mono ?_)
      rintro e w3 ⟨rfl, hO3, hB3⟩
      replace hO3 := hide hO3
      replace hB3 := hide (hB2.out.trans hB3)
      go_wp2_with fail
      (with_reducible refine (cG.out _ _ hO3.out).mono ?_)
      rintro e w4 ⟨rfl, hO4, hB4⟩
      replace hO4 := hide hO4
      replace hB4 := hide (hB3.out.trans hB4)
      go_wp2_with fail
      go_ret
      exact ⟨rfl, by simpa [signEv, hv] using hO4.out, hB4.out⟩
    · have hvd := decide_eq_false hv
      rw [hvd, if_neg hv]
      go_enter Tryd.func26, Tryd.ntmps26
      go_wp2_with fail
      go_quiet ((go_at_call 43; exact quiet_left (cZ.out _)))
      go_wp2_with fail
      (with_reducible refine (cF.out _ (WObj.drewN hO.out _)).mono ?_)
      rintro e w2 ⟨rfl, hO2, hB2⟩
      replace hO2 := hide hO2
      replace hB2 := hide ((Bl.drewN' (Bl.refl base g w) _).trans hB2)
      go_wp2_with fail
      (with_reducible refine (cN.out _ hO2.out).mono ?_)
      rintro e w3 ⟨rfl, hO3, hB3⟩
      replace hO3 := hide hO3
      replace hB3 := hide (hB2.out.trans hB3)
      go_wp2_with fail
      (with_reducible refine (cG.out _ _ hO3.out).mono ?_)
      rintro e w4 ⟨rfl, hO4, hB4⟩
      replace hO4 := hide hO4
      replace hB4 := hide (hB3.out.trans hB4)
      go_wp2_with fail
      go_ret
      exact ⟨rfl, by simpa [signEv, hv] using hO4.out, hB4.out⟩
end Go.Proofs.YthbidebcljegjaaDoor

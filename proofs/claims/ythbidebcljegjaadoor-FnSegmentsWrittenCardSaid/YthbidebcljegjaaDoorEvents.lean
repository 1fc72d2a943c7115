/- The boolean coder by what is written and read: truths behind, truths ahead. Numbers are written and read bit by bit. The walks. -/
import Derived.Test.YthbidebcljegjaaDoorBoolAll
import Derived.Test.YthbidebcljegjaaDoorLitPlain
namespace Go.Proofs.YthbidebcljegjaaDoor
set_option linter.unusedSimpArgs false
set_option linter.unusedVariables false
open Go.RowKit Plain

theorem puts_len' (l : List (Bool × Nat)) (hp : Probs l) : (WS.start.puts l).out.length ≤ l.length := by
  have ht := WS.puts_tells l _ _ WS.start_tells Iv.start_ok hp
  have h1 := ht.sh
  have h2 := (Iv.steps_sh l _ Iv.start_ok hp).2
  have h4 := ht.inv.b8
  have h5 : Iv.start.sh = 0 := rfl
  by_cases ho : (WS.start.puts l).out = []
  · rw [ho]; simp
  · have := h4 ho
    unfold WS.sh at h1
    omega

/-! ### Writing -/
/-- A truth is written behind others. -/
theorem put_ev (base g : Nat) (dn : List (Bool × Nat)) (b : Bool) (p : Nat) (w : World) (hd : Probs dn) (hl : (dn.length : Int) ≤ 40000000) (hp : p ≤ 255) (hO : WObj w base g (WS.start.puts dn)) :
    Calls Tryd.prog 12 #[.pointer (some ⟨g, 0, none⟩), .bool b, .int .i64 p] w fun e w' => e = .returned (.tuple #[]) ∧ WObj w' base g (WS.start.puts (dn ++ [(b, p)])) ∧ Bl base g w w' := by
  rw [WS.puts_snoc]
  have h1 := puts_len' dn hd
  exact put_anyK base g _ _ b p w (WS.puts_tells dn _ _ WS.start_tells Iv.start_ok hd) (Iv.steps_ok dn _ Iv.start_ok hd) hp (by omega) hO
theorem flag_ev (base g : Nat) (dn : List (Bool × Nat)) (b : Bool) (w : World) (hd : Probs dn) (hl : (dn.length : Int) ≤ 40000000) (hO : WObj w base g (WS.start.puts dn)) :
    Calls Tryd.prog 25 #[.pointer (some ⟨g, 0, none⟩), .bool b] w fun e w' => e = .returned (.tuple #[]) ∧ WObj w' base g (WS.start.puts (dn ++ [(b, 128)])) ∧ Bl base g w w' := by
  rw [WS.puts_snoc]
  have h1 := puts_len' dn hd
  exact flag_anyK base g _ _ b w (WS.puts_tells dn _ _ WS.start_tells Iv.start_ok hd) (Iv.steps_ok dn _ Iv.start_ok hd) (by omega) hO

theorem bit_is (n k : Nat) : bits .and .i64 ((n : Int) / 2 ^ k) 1 = ((n / 2 ^ k % 2 : Nat) : Int) := by
  have h := and_mask .i64 1 (by decide) ((n : Int) / 2 ^ k)
  have e : (2 : Int) ^ 1 - 1 = 1 := by decide
  rw [e] at h
  rw [h]
  simp

set_option maxHeartbeats 1000000 in
theorem number_ev (base g n p s : Nat) (dn : List (Bool × Nat)) (w : World) (hn : (n : Int) ≤ 16777215) (hs : s ≤ 24) (hd : Probs dn) (hl : (dn.length : Int) ≤ 30000000) (hp : p ≤ 255) (hO : WObj w base g (WS.start.puts dn)) :
    Calls Tryd.prog 13 #[.pointer (some ⟨g, 0, none⟩), .int .i64 n, .int .i64 s, .int .i64 p] w fun e w' => e = .returned (.tuple #[]) ∧ WObj w' base g (WS.start.puts (dn ++ bitsOf n p s)) ∧ Bl base g w w' := by
  replace hO := hide hO
  replace hd := hide hd
  go_enter Tryd.func13, Tryd.ntmps13
  go_wp2
  go_loopg [8] s (fun k i wr => ∃ dn', dn' ++ bitsOf n p k = dn ++ bitsOf n p s ∧ k ≤ s ∧ i = .int .i64 ((k : Int) - 1) ∧ WObj wr base g (WS.start.puts dn') ∧ Bl base g w wr)
  case atStart => exact ⟨dn, rfl, Nat.le_refl _, rfl, hO.out, Bl.refl _ _ _⟩
  case round =>
    obtain ⟨dn', hdn, hks, rfl, hO1, hB1⟩ := hrel
    have hlen := congrArg List.length hdn
    rw [List.length_append, List.length_append, bitsOf_len, bitsOf_len] at hlen
    have hd' : Probs dn' := by
      have h2 : Probs (dn' ++ bitsOf n p gk) := by rw [hdn]; exact hd.out.append (bitsOf_probs n p s hp)
      intro x hx
      exact h2 x (List.mem_append.2 (.inl hx))
    replace hO1 := hide hO1
    replace hB1 := hide hB1
    replace hd' := hide hd'
    cases gk with
    | zero =>
      have e0 : dn' = dn ++ bitsOf n p s := by simpa [bitsOf] using hdn
      replace e0 := hide e0
      replace hdn := hide hdn
      clear hO
      have e1 : ((0 : Nat) : Int) - 1 = -1 := by decide
      rw [e1]
      clear e1 hlen
      go_wp2
      go_end0
      exact ⟨rfl, by rw [← e0.out]; exact hO1.out, hB1.out⟩
    | succ k =>
      have e1 : ((k + 1 : Nat) : Int) - 1 = (k : Int) := by omega
      rw [e1]
      have hk : (k : Int) < 24 := by omega
      have hbit := bit_is n k
      have hl2 : (dn'.length : Int) ≤ 40000000 := by omega
      replace hdn := hide hdn
      clear hO e1 hlen
      by_cases hb : n / 2 ^ k % 2 = 1
      · rw [hb] at hbit
        have hbo : bitsOf n p (k + 1) = (true, p) :: bitsOf n p k := by simp [bitsOf, hb]
        replace hbo := hide hbo
        replace hb := hide hb
        go_wp2_with (first | (go_at_call 12; refine (put_ev base g dn' true p _ hd'.out hl2 hp hO1.out).mono ?_; rintro e w1 ⟨rfl, hO3, hB3⟩; replace hO3 := hide hO3; replace hB3 := hide hB3) | go_in)
        go_roundg k
        case measure => omega
        case rel => exact ⟨dn' ++ [(true, p)], by rw [← hdn.out, hbo.out]; simp, by omega, by go_num, hO3.out, hB1.out.trans hB3.out⟩
      · have hb0 : n / 2 ^ k % 2 = 0 := by omega
        rw [hb0] at hbit
        have hbo : bitsOf n p (k + 1) = (false, p) :: bitsOf n p k := by simp [bitsOf, hb0]
        replace hbo := hide hbo
        replace hb0 := hide hb0
        clear hb
        go_wp2_with (first | (go_at_call 12; refine (put_ev base g dn' false p _ hd'.out hl2 hp hO1.out).mono ?_; rintro e w1 ⟨rfl, hO3, hB3⟩; replace hO3 := hide hO3; replace hB3 := hide hB3) | go_in)
        go_roundg k
        case measure => omega
        case rel => exact ⟨dn' ++ [(false, p)], by rw [← hdn.out, hbo.out]; simp, by omega, by go_num, hO3.out, hB1.out.trans hB3.out⟩

/-! ### Reading -/
/-- The reader (six fields from place o of block g on) stands behind dn, ahead of rs. -/
structure Rdr (w : World) (g o : Nat) (A : Option Addr) (cap : Nat) (bytes : List Nat) (dn rs : List (Bool × Nat)) : Prop where
  D : DAt w g o A bytes.length cap (DS.steps bytes DS.start dn) false
  t : (DS.steps bytes DS.start dn).tells bytes (Iv.start.steps dn)
  S : Src w g A bytes
  L : Luts w
  by_ : IsBy bytes
  len : (bytes.length : Int) ≤ 100000000
  codes : Codes bytes Iv.start (dn ++ rs)
  probs : Probs (dn ++ rs)
  ne : g ≠ 0 ∧ g ≠ 1

theorem Rdr.only {w w' : World} {g o h q n : Nat} {A : Option Addr} {cap : Nat} {bytes : List Nat} {dn rs : List (Bool × Nat)} (R : Rdr w g o A cap bytes dn rs)
    (hc : ∀ p : Addr, w.cell? p ≠ none → ¬ (p.block = g ∧ o + 6 ≤ p.off) → w'.cell? p = w.cell? p) (hf : ∀ i, i < 6 → w'.frozen? ⟨g, o + i, none⟩ = w.frozen? ⟨g, o + i, none⟩) : Rdr w' g o A cap bytes dn rs := by
  obtain ⟨D, t, S, L, b, l, c, p, ne⟩ := R
  have hin : ∀ i, i < 6 → w.cell? ⟨g, o + i, none⟩ ≠ none := by
    intro i hi
    obtain ⟨c0, c1, c2, c3, c4, c5, _⟩ := D
    rcases i with _ | _ | _ | _ | _ | _ | i
    · rw [Nat.add_zero, c0]; simp
    · rw [c1]; simp
    · rw [c2]; simp
    · rw [c3]; simp
    · rw [c4]; simp
    · rw [c5]; simp
    · omega
  refine ⟨D.keep (fun i hi => hc _ (hin i hi) (by simp; omega)) hf, t, ⟨fun j hj => ?_⟩, ⟨fun k hk => ?_, fun k hk => ?_⟩, b, l, c, p, ne⟩
  · obtain ⟨bb, off, e, hne, hx⟩ := S.rd j hj
    exact ⟨bb, off, e, hne, (hc _ (by rw [hx]; simp) (fun h => hne h.1)).trans hx⟩
  · have := L.sh k hk
    exact (hc _ (by rw [this]; simp) (fun h => ne.1 h.1.symm)).trans this
  · have := L.rm k hk
    exact (hc _ (by rw [this]; simp) (fun h => ne.2 h.1.symm)).trans this
theorem Rdr.drewN {w : World} {g o : Nat} {A : Option Addr} {cap : Nat} {bytes : List Nat} {dn rs : List (Bool × Nat)} (R : Rdr w g o A cap bytes dn rs) (n : Nat) : Rdr (w.drewN n) g o A cap bytes dn rs :=
  R.only (h := 0) (q := 0) (n := 0) (fun _ _ _ => rfl) (fun _ _ => rfl)
theorem Rdr.grown {w w' : World} {g o : Nat} {A : Option Addr} {cap : Nat} {bytes : List Nat} {dn rs : List (Bool × Nat)} (R : Rdr w g o A cap bytes dn rs) (h : Below w.heap.size w w') : Rdr w' g o A cap bytes dn rs :=
  R.only (h := 0) (q := 0) (n := 0) (fun p hp _ => h.cell (by
    obtain ⟨v, hv⟩ := Option.ne_none_iff_exists'.1 hp
    exact World.block_lt_of_cell? _ _ hv)) (fun i _ => h.frozen (show g < w.heap.size from World.block_lt_of_cell? _ ⟨g, o, none⟩ R.D.c0))

theorem steps_ok' {dn rs : List (Bool × Nat)} {bytes : List Nat} (hc : Codes bytes Iv.start (dn ++ rs)) (hp : Probs (dn ++ rs)) : Holds bytes (Iv.start.steps dn) ∧ (Iv.start.steps dn).ok := by
  have hp1 : Probs dn := fun x hx => hp x (List.mem_append.2 (.inl hx))
  have hp2 : Probs rs := fun x hx => hp x (List.mem_append.2 (.inr hx))
  have hok := Iv.steps_ok dn _ Iv.start_ok hp1
  refine ⟨?_, hok⟩
  have h2 : Codes bytes (Iv.start.steps dn) rs := by
    unfold Codes at *
    rw [← Iv.steps_append]
    exact hc
  exact h2.here hok hp2

/-- A truth is read. -/
theorem readBit_ev (g o : Nat) (A : Option Addr) (cap : Nat) (bytes : List Nat) (dn rs : List (Bool × Nat)) (b : Bool) (p : Nat) (w : World) (R : Rdr w g o A cap bytes dn ((b, p) :: rs)) :
    Calls Tryd.prog 71 #[.pointer (some ⟨g, o, none⟩), .int .u8 p] w fun x w' => x = .returned (.bool b) ∧ Rdr w' g o A cap bytes (dn ++ [(b, p)]) rs ∧ Only g o 6 w w' := by
  obtain ⟨D, t, S, L, by_, len, codes, probs, ne⟩ := R
  have h1 := steps_ok' codes probs
  have e : dn ++ (b, p) :: rs = (dn ++ [(b, p)]) ++ rs := by simp
  rw [e] at codes probs
  have h2 := steps_ok' codes probs
  rw [Iv.steps_snoc] at h2
  have hp : p ≤ 255 := probs (b, p) (by simp)
  refine (readBit_any g o A cap bytes _ _ (b, p) w by_ t h1.2 hp h1.1 h2.1 (by omega) S L ne D).mono ?_
  rintro x w' ⟨rfl, ht, hD, hO⟩
  refine ⟨rfl, ⟨?_, ?_, S.only hO, L.keep fun q hq => hO.far (by rcases hq with e | e <;> omega), by_, len, codes, probs, ne⟩, hO⟩
  · rw [DS.steps_snoc]; exact hD
  · rw [DS.steps_snoc, Iv.steps_snoc]; exact ht

theorem or_bit (n k : Nat) (hn : (n : Int) ≤ 16777215) (hk : k < 24) (hb : n / 2 ^ k % 2 = 1) : bits .or .u32 ((n / 2 ^ (k + 1) * 2 ^ (k + 1) : Nat) : Int) (2 ^ k) = ((n / 2 ^ k * 2 ^ k : Nat) : Int) := by
  have h24 : (2 : Nat) ^ k ≤ 2 ^ 23 := Nat.pow_le_pow_right (by decide) (by omega)
  have h24' : ((2 ^ k : Nat) : Int) ≤ 8388608 := by
    have := Int.ofNat_le.2 h24
    simpa using this
  have hle : n / 2 ^ (k + 1) * 2 ^ (k + 1) ≤ n := Nat.div_mul_le_self _ _
  have hlt : (2 : Nat) ^ k < 2 ^ (k + 1) := Nat.pow_lt_pow_right (by decide) (by omega)
  have e := bits_join .u32 32 (by decide) wraps_u32 (k + 1) ((n / 2 ^ (k + 1) * 2 ^ (k + 1) : Nat) : Int) ((2 ^ k : Nat) : Int) (by omega)
    (by exact_mod_cast Nat.mul_mod_left _ _) (by omega) (by omega) (by exact_mod_cast hlt) (by omega)
  have e2 : ((2 ^ k : Nat) : Int) = (2 : Int) ^ k := by simp
  rw [e2] at e
  rw [e, ← e2, ← Int.natCast_add]
  congr 1
  have h3 : n / 2 ^ (k + 1) = n / 2 ^ k / 2 := by rw [Nat.pow_succ, Nat.div_div_eq_div_mul]
  rw [h3, Nat.pow_succ]
  generalize n / 2 ^ k = q at *
  generalize 2 ^ k = P at *
  have h4 : q = 2 * (q / 2) + 1 := by omega
  have h5 : q * P = (2 * (q / 2) + 1) * P := by rw [← h4]
  rw [h5, Nat.add_mul, Nat.one_mul, Nat.mul_comm P 2, ← Nat.mul_assoc, Nat.mul_comm (q / 2) 2]

theorem no_bit (n k : Nat) (hb : n / 2 ^ k % 2 = 0) : n / 2 ^ (k + 1) * 2 ^ (k + 1) = n / 2 ^ k * 2 ^ k := by
  have h3 : n / 2 ^ (k + 1) = n / 2 ^ k / 2 := by rw [Nat.pow_succ, Nat.div_div_eq_div_mul]
  rw [h3, Nat.pow_succ]
  generalize n / 2 ^ k = q at *
  generalize 2 ^ k = P at *
  have h4 : q = 2 * (q / 2) := by omega
  have h5 : q * P = 2 * (q / 2) * P := by rw [← h4]
  rw [h5, Nat.mul_comm P 2, ← Nat.mul_assoc, Nat.mul_comm (q / 2) 2]

set_option maxHeartbeats 2000000 in
/-- A number is read. -/
theorem readUint_ev (g o : Nat) (A : Option Addr) (cap : Nat) (bytes : List Nat) (dn rs : List (Bool × Nat)) (n p s : Nat) (w : World) (hn : n < 2 ^ s) (hs : s ≤ 24) (R : Rdr w g o A cap bytes dn (bitsOf n p s ++ rs)) :
    Calls Tryd.prog 54 #[.pointer (some ⟨g, o, none⟩), .int .u8 p, .int .u8 s] w fun x w' => x = .returned (.int .u32 n) ∧ Rdr w' g o A cap bytes (dn ++ bitsOf n p s) rs ∧ Only g o 6 w w' := by
  have hn24 : (n : Int) ≤ 16777215 := by
    have h2 : (2 : Nat) ^ s ≤ 2 ^ 24 := Nat.pow_le_pow_right (by decide) hs
    have h3 := Int.ofNat_le.2 (show n + 1 ≤ 2 ^ 24 by omega)
    have h4 : ((2 ^ 24 : Nat) : Int) = 16777216 := by decide
    rw [h4] at h3
    omega
  have hn0 : n / 2 ^ s = 0 := Nat.div_eq_of_lt hn
  replace R := hide R
  replace hn0 := hide hn0
  go_enter Tryd.func54, Tryd.ntmps54
  go_wp2
  go_loopg [2, 7] s (fun k u2 u7 wr => ∃ dn', dn' ++ bitsOf n p k = dn ++ bitsOf n p s ∧ k ≤ s ∧ u2 = .int .u8 k ∧ u7 = .int .u32 ((n / 2 ^ k * 2 ^ k : Nat) : Int) ∧ Rdr wr g o A cap bytes dn' (bitsOf n p k ++ rs) ∧ Only g o 6 w wr)
  case atStart => exact ⟨dn, rfl, Nat.le_refl _, rfl, by rw [hn0.out, Nat.zero_mul]; rfl, R.out, Only.refl _ _ _ _⟩
  case round =>
    obtain ⟨dn', hdn, hks, rfl, rfl, hR, hU⟩ := hrel
    clear R hn0
    cases gk with
    | zero =>
      have e0 : dn' = dn ++ bitsOf n p s := by simpa [bitsOf] using hdn
      have e1 : n / 2 ^ 0 * 2 ^ 0 = n := by simp
      rw [e1]
      rw [e0] at hR
      replace hR := hide hR
      replace hU := hide hU
      clear hdn e0 e1
      go_wp2
      go_ret
      exact ⟨rfl, by simpa [bitsOf] using hR.out, hU.out⟩
    | succ k =>
      have hk : (k : Int) < 24 := by omega
      have hkn : k < 24 := by omega
      have hp1 : (0 : Int) < 2 ^ k := Int.pow_pos (by decide)
      have hp2 : (2 : Int) ^ k ≤ 8388608 := by
        have h24 : (2 : Nat) ^ k ≤ 2 ^ 23 := Nat.pow_le_pow_right (by decide) (by omega)
        have := Int.ofNat_le.2 h24
        simpa using this
      have hle : ((n / 2 ^ (k + 1) * 2 ^ (k + 1) : Nat) : Int) ≤ 16777215 := by
        have : n / 2 ^ (k + 1) * 2 ^ (k + 1) ≤ n := Nat.div_mul_le_self _ _
        omega
      replace hU := hide hU
      by_cases hb : n / 2 ^ k % 2 = 1
      · have hbo : bitsOf n p (k + 1) = (true, p) :: bitsOf n p k := by simp [bitsOf, hb]
        have hor := or_bit n k hn24 hkn hb
        rw [hbo] at hR hdn
        have cB := fun w' => readBit_ev g o A cap bytes dn' (bitsOf n p k ++ rs) true p w'
        generalize n / 2 ^ (k + 1) * 2 ^ (k + 1) = X at *
        generalize hY : n / 2 ^ k * 2 ^ k = Y at *
        replace hY := hide hY
        replace hdn := hide hdn
        replace hR := hide hR
        replace hbo := hide hbo
        replace hb := hide hb
        replace cB := hide cB
        go_wp2_with (first | (go_at_call 71; refine (cB.out _ hR.out).mono ?_; rintro e w1 ⟨rfl, hR3, hO3⟩; replace hR3 := hide hR3; replace hO3 := hide hO3) | go_in)
        go_roundg k
        case measure => omega
        case rel => exact ⟨dn' ++ [(true, p)], by rw [← hdn.out]; simp, by omega, by go_num, by rw [hY.out], hR3.out, hU.out.trans hO3.out⟩
      · have hb0 : n / 2 ^ k % 2 = 0 := by omega
        have hbo : bitsOf n p (k + 1) = (false, p) :: bitsOf n p k := by simp [bitsOf, hb0]
        have hor := no_bit n k hb0
        rw [hbo] at hR hdn
        rw [hor]
        rw [hor] at hle
        have cB := fun w' => readBit_ev g o A cap bytes dn' (bitsOf n p k ++ rs) false p w'
        clear hor hb
        generalize hY : n / 2 ^ k * 2 ^ k = Y at *
        replace hY := hide hY
        replace hdn := hide hdn
        replace hR := hide hR
        replace hbo := hide hbo
        replace hb0 := hide hb0
        replace cB := hide cB
        go_wp2_with (first | (go_at_call 71; refine (cB.out _ hR.out).mono ?_; rintro e w1 ⟨rfl, hR3, hO3⟩; replace hR3 := hide hR3; replace hO3 := hide hO3) | go_in)
        go_roundg k
        case measure => omega
        case rel => exact ⟨dn' ++ [(false, p)], by rw [← hdn.out]; simp, by omega, by go_num, by rw [hY.out], hR3.out, hU.out.trans hO3.out⟩

set_option maxHeartbeats 1000000 in
/-- A number with a sign behind it. -/
theorem readInt_ev (g o : Nat) (A : Option Addr) (cap : Nat) (bytes : List Nat) (dn rs : List (Bool × Nat)) (n p s : Nat) (b : Bool) (w : World) (hn : n < 2 ^ s) (hs : s ≤ 24) (R : Rdr w g o A cap bytes dn (signEv n p s b ++ rs)) :
    Calls Tryd.prog 55 #[.pointer (some ⟨g, o, none⟩), .int .u8 p, .int .u8 s] w fun x w' => x = .returned (.int .i32 (if b then -(n : Int) else (n : Int))) ∧ Rdr w' g o A cap bytes (dn ++ signEv n p s b) rs ∧ Only g o 6 w w' := by
  have hn24 : (n : Int) ≤ 16777215 := by
    have h2 : (2 : Nat) ^ s ≤ 2 ^ 24 := Nat.pow_le_pow_right (by decide) hs
    have h3 := Int.ofNat_le.2 (show n + 1 ≤ 2 ^ 24 by omega)
    have h4 : ((2 ^ 24 : Nat) : Int) = 16777216 := by decide
    rw [h4] at h3
    omega
  unfold signEv at R ⊢
  rw [List.append_assoc] at R
  have cU := readUint_ev g o A cap bytes dn ([(b, p)] ++ rs) n p s w hn hs R
  clear R
  cases b
  all_goals
    go_enter Tryd.func55, Tryd.ntmps55
    go_wp2_with (first
      | (go_at_call 54; refine cU.mono ?_; rintro e w1 ⟨rfl, hR1, hO1⟩; replace hR1 := hide hR1; replace hO1 := hide hO1)
      | (go_at_call 71; refine (readBit_ev g o A cap bytes _ rs _ p _ hR1.out).mono ?_; rintro e w2 ⟨rfl, hR2, hO2⟩; replace hR2 := hide hR2; replace hO2 := hide hO2)
      | fail)
    go_ret
    exact ⟨rfl, by simpa using hR2.out, hO1.out.trans hO2.out⟩
end Go.Proofs.YthbidebcljegjaaDoor

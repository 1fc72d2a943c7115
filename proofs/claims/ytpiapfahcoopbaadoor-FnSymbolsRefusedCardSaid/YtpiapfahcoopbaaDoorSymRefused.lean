/- The law FnSymbolsRefused: the walk, for every argument. -/
import Derived.Test.YtpiapfahcoopbaaDoorSymLaw
namespace Go.Proofs.YtpiapfahcoopbaaDoor
set_option linter.unusedSimpArgs false
set_option linter.unusedVariables false
open Go.RowKit Plain

set_option maxRecDepth 100000 in
set_option maxHeartbeats 4000000 in
theorem refused_main (As A : Option Addr) (caps cap : Nat) (L Bs : List Nat) (ar ae au : Addr) (w : World) (hl : (L.length : Int) ≤ 4096) (hL : ∀ x ∈ L, x ≤ 15) (hW : wholeB L = false) (hw : within 0 15 (ofN' L) = true) (hB : Oct Bs) (hlb : (Bs.length : Int) ≤ 1048576)
    (hSs : Rd .i64 w w.heap.size As (ofN' L)) (hS : Rd .u8 w w.heap.size A (ofN' Bs)) (hTab : TabH w ar) (hE : Ends w ae au) :
    Calls Tryd.prog 7 #[.slice As L.length caps, .slice A Bs.length cap] w fun e w' => e = .returned (.bool true) ∧ Below w.heap.size w w' := by
  have cR := inRange_any As caps w.heap.size (ofN' L) 0 15 w (by rw [ofN'_len]; omega) hSs
  rw [hw, ofN'_len] at cR
  have cW := isWhole_any As caps w.heap.size L w hl hL hSs
  rw [hW] at cW
  have cI : kS L 15 ≤ 32768 → 2 ≤ nz L → Calls Tryd.prog 20 #[.slice As L.length caps, .slice A Bs.length cap, .int .i64 1] w (TopPost L Bs 1 w) := fun hk hn2 => implSyms_any As A caps cap 1 L Bs ar ae au w hl hL hk hn2 hB hlb (by decide) hSs hS hTab hE
  have hnw : 2 ≤ nz L → ¬ kS L 15 = 32768 := fun h2 h3 => by
    have : ¬ (1 < nz L ∧ kraft L = 32768) := of_decide_eq_false hW
    rw [kS_eq L hL] at h3
    exact this ⟨h2, h3⟩
  have hke := kS_eq L hL
  have cQ := hide (readSums_any w)
  replace cR := hide cR
  replace cW := hide cW
  replace cI := hide cI
  replace hnw := hide hnw
  replace hke := hide hke
  replace hL := hide hL
  replace hSs := hide hSs
  have t1 : ¬ (2147483647 : Int) < (L.length : Int) := by omega
  have t2 : ¬ (2147483647 : Int) < (Bs.length : Int) := by omega
  have t3 : ¬ (4096 : Int) < (L.length : Int) := by omega
  have t4 : ¬ (1048576 : Int) < (Bs.length : Int) := by omega
  clear hW hw hS hTab hE hB
  go_enter Tryd.func7, Tryd.ntmps7
  go_wp2_with fail
  (with_reducible refine (cR.out).mono ?_)
  rintro e w' ⟨rfl, rfl⟩
  go_wp2_with fail
  (with_reducible refine (cW.out).mono ?_)
  rintro e w' ⟨rfl, rfl⟩
  go_wp2_with fail
  go_loopg [5, 6, 7] L.length (fun k u3 u4 u5 wr => ∃ m : Nat, k + m = L.length ∧ u5 = .int .i64 m ∧ u4 = .int .i64 (kT L m : Nat) ∧ u3 = .int .i64 (nzT L m : Nat) ∧ w = wr)
  case atStart => exact ⟨0, rfl, rfl, rfl, rfl, rfl⟩
  case round =>
    obtain ⟨m, hm, rfl, rfl, rfl, rfl⟩ := hrel
    have hk0 := kT_le L m
    have hn0 := nzT_le L m
    cases gk with
    | zero =>
      have hm' : m = L.length := by omega
      subst hm'
      have hmn : ¬ (L.length : Int) < (L.length : Int) := by omega
      rw [kT_all, ← hke.out] at hk0 ⊢
      rw [nzT_all] at hn0 ⊢
      generalize hsk : kS L 15 = sk at *
      replace hsk := hide hsk
      generalize nz L = sn at *
      by_cases h1 : sn < 2
      · have h1i : (sn : Int) < 2 := by omega
        go_wp2_with fail
        (with_reducible refine (cQ.out).mono ?_)
        rintro e w' ⟨rfl, rfl⟩
        go_wp2
        go_ret
        exact ⟨rfl, Below.refl _ _⟩
      · have h1i : ¬ (sn : Int) < 2 := by omega
        by_cases h2 : 32768 < sk
        · have h2i : (32768 : Int) < (sk : Int) := by omega
          go_wp2_with fail
          (with_reducible refine (cQ.out).mono ?_)
          rintro e w' ⟨rfl, rfl⟩
          go_wp2
          go_ret
          exact ⟨rfl, Below.refl _ _⟩
        · have h2i : ¬ (32768 : Int) < (sk : Int) := by omega
          have cI' := hide (cI.out (by omega) (by omega))
          have hnw' := hide (hnw.out (by omega))
          clear cI hnw
          go_wp2_with fail
          (with_reducible refine (cI'.out).mono ?_)
          rintro e w1 ⟨u1, hc⟩
          rcases hc with ⟨hyes, _⟩ | ⟨_, rfl⟩
          · exact absurd (hsk.out.symm.trans hyes) hnw'.out
          · replace u1 := hide u1
            go_wp2_with fail
            refine (readSums_any _).mono ?_
            rintro e w4 ⟨rfl, rfl⟩
            go_wp2
            go_ret
            exact ⟨rfl, u1.out.toBelow⟩
    | succ k =>
      have hmn : m < L.length := by omega
      have hmi : (m : Int) < (L.length : Int) := by omega
      obtain ⟨b, off, rfl, hbb, hc⟩ := hSs.out.at_ (j := m) (by rw [ofN'_len]; omega)
      have hx := hc m (by rw [ofN'_len]; omega)
      rw [ofN'_get] at hx
      have hxb : L.getD m 0 ≤ 15 := hL.out _ (by simp [hmn])
      have hks := kT_succ L m hmn
      have hns := nzT_succ L m hmn
      clear hc
      generalize L.getD m 0 = x at *
      have hxi : (x : Int) ≤ 15 := by omega
      generalize kT L m = sk at *
      generalize nzT L m = sn at *
      have hski : (sk : Int) ≤ 67108864 := by omega
      have hsni : (sn : Int) ≤ 4096 := by omega
      by_cases h0 : x = 0
      · subst h0
        have h0i : ¬ (0 : Int) < ((0 : Nat) : Int) := by omega
        have hks' : Hid (kT L (m + 1) = sk) := hide (by rw [hks]; simp [wgt])
        have hns' : Hid (nzT L (m + 1) = sn) := hide (by rw [hns]; simp)
        clear hks hns
        go_wp2
        go_roundg k
        case measure => omega
        case rel => exact ⟨m + 1, by omega, by go_num, by rw [hks'.out], by rw [hns'.out], rfl⟩
      · have h0i : (0 : Int) < (x : Int) := by omega
        have hp : (2 : Nat) ^ (15 - x) ≤ 2 ^ 15 := Nat.pow_le_pow_right (by decide) (by omega)
        have hpi : ((2 : Int) ^ (15 - x)) ≤ 32768 := by
          have h4 := Int.ofNat_le.2 hp
          rw [Int.natCast_pow, Int.natCast_pow] at h4
          exact h4
        have hp0 : (0 : Int) < 2 ^ (15 - x) := Int.pow_pos (by decide)
        have hks' : Hid (((kT L (m + 1) : Nat) : Int) = (sk : Int) + 2 ^ (15 - x)) := hide (by rw [hks, wgt, if_neg h0]; simp)
        have hns' : Hid (nzT L (m + 1) = sn + 1) := hide (by rw [hns, if_neg h0])
        have hsub : ((15 : Int) - (x : Int)).toNat = 15 - x := by omega
        clear hks hns hp
        go_wp2
        go_roundg k
        case measure => omega
        case rel => exact ⟨m + 1, by omega, by go_num, by rw [hks'.out], by rw [hns'.out]; go_num, rfl⟩

set_option maxRecDepth 100000 in
set_option maxHeartbeats 4000000 in
theorem refusedLaw_any (As A : Option Addr) (caps cap : Nat) (l0 l1 : List Int) (ar ae au : Addr) (w : World) (hB : ∀ x ∈ l1, 0 ≤ x ∧ x ≤ 255) (h0 : Rd .i64 w w.heap.size As l0) (h1 : Rd .u8 w w.heap.size A l1) (hm0 : l0.length ≤ 9223372036854775807) (hm1 : l1.length ≤ 9223372036854775807) (hTab : TabH w ar) (hE : Ends w ae au) :
    Calls Tryd.prog 7 #[.slice As l0.length caps, .slice A l1.length cap] w fun e w' => e = .returned (.bool true) ∧ Below w.heap.size w w' := by
  have cR := inRange_any As caps w.heap.size l0 0 15 w hm0 h0
  have cQ := hide (readSums_any w)
  by_cases c1 : (2147483647 : Int) < (l0.length : Int)
  · clear h0 h1 hB hE cR hTab
    go_enter Tryd.func7, Tryd.ntmps7
    go_wp2
    go_ret
    exact ⟨rfl, Below.refl _ _⟩
  by_cases c2 : (2147483647 : Int) < (l1.length : Int)
  · clear h0 h1 hB hE cR hTab
    go_enter Tryd.func7, Tryd.ntmps7
    go_wp2
    go_ret
    exact ⟨rfl, Below.refl _ _⟩
  by_cases c3 : (4096 : Int) < (l0.length : Int)
  · clear h0 h1 hB hE cR hTab
    go_enter Tryd.func7, Tryd.ntmps7
    go_wp2_with fail
    (with_reducible refine (cQ.out).mono ?_)
    rintro e w' ⟨rfl, rfl⟩
    go_wp2
    go_ret
    exact ⟨rfl, Below.refl _ _⟩
  cases hW : within 0 15 l0
  · rw [hW] at cR
    replace cR := hide cR
    clear h0 h1 hB hE hTab hW
    go_enter Tryd.func7, Tryd.ntmps7
    go_wp2_with fail
    (with_reducible refine (cR.out).mono ?_)
    rintro e w' ⟨rfl, rfl⟩
    go_wp2_with fail
    (with_reducible refine (cQ.out).mono ?_)
    rintro e w' ⟨rfl, rfl⟩
    go_wp2
    go_ret
    exact ⟨rfl, Below.refl _ _⟩
  have e0 := natOf_back l0 (fun x hx => (within_all hW x hx).1)
  have e1 := natOf_back l1 (fun x hx => (hB x hx).1)
  have hL : ∀ x ∈ natOf l0, x ≤ 15 := by intro x hx; unfold natOf at hx; rw [List.mem_map] at hx; obtain ⟨y, hy, rfl⟩ := hx; have := within_all hW y hy; omega
  have hl : ((natOf l0).length : Int) ≤ 4096 := by rw [natOf_len]; omega
  have h0' : Rd .i64 w w.heap.size As (ofN' (natOf l0)) := by rw [e0]; exact h0
  have h1' : Rd .u8 w w.heap.size A (ofN' (natOf l1)) := by rw [e1]; exact h1
  have cW := isWhole_any As caps w.heap.size (natOf l0) w hl hL h0'
  cases hT : wholeB (natOf l0)
  case true =>
    rw [hT, natOf_len] at cW
    rw [hW] at cR
    replace cR := hide cR
    replace cW := hide cW
    clear h0 hW e0 e1 hL hl h1 hT h0' h1' hB hE hTab
    go_enter Tryd.func7, Tryd.ntmps7
    go_wp2_with fail
    (with_reducible refine (cR.out).mono ?_)
    rintro e w' ⟨rfl, rfl⟩
    go_wp2_with fail
    (with_reducible refine (cW.out).mono ?_)
    rintro e w' ⟨rfl, rfl⟩
    go_wp2_with fail
    (with_reducible refine (cQ.out).mono ?_)
    rintro e w' ⟨rfl, rfl⟩
    go_wp2
    go_ret
    exact ⟨rfl, Below.refl _ _⟩
  by_cases c5 : (1048576 : Int) < (l1.length : Int)
  · rw [hT, natOf_len] at cW
    rw [hW] at cR
    replace cR := hide cR
    replace cW := hide cW
    clear h0 hW e0 e1 hL hl h1 hT h0' h1' hB hE hTab
    go_enter Tryd.func7, Tryd.ntmps7
    go_wp2_with fail
    (with_reducible refine (cR.out).mono ?_)
    rintro e w' ⟨rfl, rfl⟩
    go_wp2_with fail
    (with_reducible refine (cW.out).mono ?_)
    rintro e w' ⟨rfl, rfl⟩
    go_wp2_with fail
    (with_reducible refine (cQ.out).mono ?_)
    rintro e w' ⟨rfl, rfl⟩
    go_wp2
    go_ret
    exact ⟨rfl, Below.refl _ _⟩
  · have k := refused_main As A caps cap (natOf l0) (natOf l1) ar ae au w hl hL hT (by rw [e0]; exact hW)
      (by intro x hx; unfold natOf at hx; rw [List.mem_map] at hx; obtain ⟨y, hy, rfl⟩ := hx; have := hB y hy; omega)
      (by rw [natOf_len]; omega) h0' h1' hTab hE
    rw [natOf_len, natOf_len] at k
    exact k
end Go.Proofs.YtpiapfahcoopbaaDoor

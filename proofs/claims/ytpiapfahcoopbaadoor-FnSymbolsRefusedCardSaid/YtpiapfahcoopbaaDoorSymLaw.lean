/- The laws FnSymbols and FnSymbolsRefused: the walks, for every argument. -/
import Derived.Test.YtpiapfahcoopbaaDoorSymTop
import Derived.Test.YtpiapfahcoopbaaDoorSymSpec
import Derived.Test.YtpiapfahcoopbaaDoorCodesLaw
namespace Go.Proofs.YtpiapfahcoopbaaDoor
set_option linter.unusedSimpArgs false
set_option linter.unusedVariables false
open Go.RowKit Plain

def revList : List Int := [0, 128, 64, 192, 32, 160, 96, 224, 16, 144, 80, 208, 48, 176, 112, 240, 8, 136, 72, 200, 40, 168, 104, 232, 24, 152, 88, 216, 56, 184, 120, 248, 4, 132, 68, 196, 36, 164, 100, 228, 20, 148, 84, 212, 52, 180, 116, 244, 12, 140, 76, 204, 44, 172, 108, 236, 28, 156, 92, 220, 60, 188, 124, 252, 2, 130, 66, 194, 34, 162, 98, 226, 18, 146, 82, 210, 50, 178, 114, 242, 10, 138, 74, 202, 42, 170, 106, 234, 26, 154, 90, 218, 58, 186, 122, 250, 6, 134, 70, 198, 38, 166, 102, 230, 22, 150, 86, 214, 54, 182, 118, 246, 14, 142, 78, 206, 46, 174, 110, 238, 30, 158, 94, 222, 62, 190, 126, 254, 1, 129, 65, 193, 33, 161, 97, 225, 17, 145, 81, 209, 49, 177, 113, 241, 9, 137, 73, 201, 41, 169, 105, 233, 25, 153, 89, 217, 57, 185, 121, 249, 5, 133, 69, 197, 37, 165, 101, 229, 21, 149, 85, 213, 53, 181, 117, 245, 13, 141, 77, 205, 45, 173, 109, 237, 29, 157, 93, 221, 61, 189, 125, 253, 3, 131, 67, 195, 35, 163, 99, 227, 19, 147, 83, 211, 51, 179, 115, 243, 11, 139, 75, 203, 43, 171, 107, 235, 27, 155, 91, 219, 59, 187, 123, 251, 7, 135, 71, 199, 39, 167, 103, 231, 23, 151, 87, 215, 55, 183, 119, 247, 15, 143, 79, 207, 47, 175, 111, 239, 31, 159, 95, 223, 63, 191, 127, 255]
theorem rev_tab : ∀ j, j < 256 → revList.getD j 0 = ((revN j 8 : Nat) : Int) := by decide +kernel
theorem runG_P (L B : List Nat) (m : Nat) : runG (lN L B) 0 m = runP L B m := by
  induction m with
  | zero => rfl
  | succ m ih => rw [runG, runP, ih]; rfl
theorem runSG_S (L B : List Nat) (m : Nat) : runSG (dN L B) (lN L B) 0 m = runS L B m := by
  unfold runSG runS
  apply List.map_congr_left
  intro j _
  rw [runG_P]
  rfl
theorem stopG_R {L B : List Nat} {n m : Nat} (h : StopG (lN L B) 0 B.length n m) : StopR L B n m := by
  unfold StopG at h
  simp only [runG_P] at h
  exact h
theorem whole_kS {L : List Nat} (hL : ∀ x ∈ L, x ≤ 15) (h : wholeB L = true) : kS L 15 = 32768 ∧ 2 ≤ nz L := by
  have := of_decide_eq_true h
  exact ⟨by rw [kS_eq L hL]; exact this.2, this.1⟩

set_option maxRecDepth 100000 in
set_option maxHeartbeats 4000000 in
theorem syms_main (As A : Option Addr) (caps cap n : Nat) (L Bs : List Nat) (ar ae au : Addr) (w : World) (hl : (L.length : Int) ≤ 4096) (hL : ∀ x ∈ L, x ≤ 15) (hW : wholeB L = true) (hw : within 0 15 (ofN' L) = true) (hB : Oct Bs) (hlb : (Bs.length : Int) ≤ 1048576) (hn : (n : Int) ≤ 4096)
    (hSs : Rd .i64 w w.heap.size As (ofN' L)) (hS : Rd .u8 w w.heap.size A (ofN' Bs)) (hTab : TabH w ar) (hE : Ends w ae au) :
    Calls Tryd.prog 6 #[.slice As L.length caps, .slice A Bs.length cap, .int .i64 n] w fun e w' => e = .returned (.bool true) ∧ Below w.heap.size w w' := by
  obtain ⟨hmd, hl1⟩ := whole_made L hL hW
  obtain ⟨hk, hn2⟩ := whole_kS hL hW
  have cR := inRange_any As caps w.heap.size (ofN' L) 0 15 w (by rw [ofN'_len]; omega) hSs
  rw [hw, ofN'_len] at cR
  have cW := isWhole_any As caps w.heap.size L w hl hL hSs
  rw [hW] at cW
  have cI := hide (implSyms_any As A caps cap n L Bs ar ae au w hl hL (by omega) hn2 hB hlb hn hSs hS hTab hE)
  have cS := fun w1 (hU : Upd [] w w1) => specSyms_any As A caps cap n L Bs w1 hl hL hk hn2 hmd hB hlb hn ((hSs.upd hU (Nat.le_refl _) (by simp)).more hU.size) ((hS.upd hU (Nat.le_refl _) (by simp)).more hU.size)
  replace cR := hide cR
  replace cW := hide cW
  replace cS := hide cS
  have t1 : ¬ (2147483647 : Int) < (L.length : Int) := by omega
  have t2 : ¬ (2147483647 : Int) < (Bs.length : Int) := by omega
  have t3 : ¬ (4096 : Int) < (L.length : Int) := by omega
  have t4 : ¬ (1048576 : Int) < (Bs.length : Int) := by omega
  have t5 : ¬ (4096 : Int) < (n : Int) := by omega
  have t6 : ¬ (n : Int) < 0 := by omega
  replace hk := hide hk
  clear hL hW hw hSs hS hmd hl1 hn2 hTab hE hB
  go_enter Tryd.func6, Tryd.ntmps6
  go_wp2_with fail
  (with_reducible refine (cR.out).mono ?_)
  rintro e w' ⟨rfl, rfl⟩
  go_wp2_with fail
  (with_reducible refine (cW.out).mono ?_)
  rintro e w' ⟨rfl, rfl⟩
  go_wp2_with fail
  (with_reducible refine (cI.out).mono ?_)
  rintro e w1 ⟨u1, hc⟩
  rcases hc with ⟨_, m1, v1, hst1, rfl, ho1⟩ | ⟨hno, _⟩
  · obtain ⟨A1, c1, rfl, _, _⟩ := own_len ho1
    replace hst1 := hide (stopG_R hst1)
    rw [runSG_S] at ho1
    replace ho1 := hide ho1
    replace u1 := hide u1
    rw [show kindI n m1 = kindN n m1 from rfl]
    generalize hkk : kindN n m1 = k1 at *
    replace hkk := hide hkk
    go_wp2_with fail
    (with_reducible refine (cS.out w1 u1.out).mono ?_)
    rintro e w2 ⟨m2, v2, hst2, rfl, ho2, u2⟩
    obtain ⟨A2, c2, rfl, _, _⟩ := own_len ho2
    obtain rfl := hst1.out.uniq hst2
    rw [hkk.out]
    have hm : m1 ≤ n := hst2.1
    have hr1 := Rd.ofOwn (u2.own ho1.out (by simp))
    have hr2 := Rd.ofOwn ho2
    have cc := ints_same A1 A2 c1 c2 (runS L Bs m1) w2 _ _ (by rw [runS_len]; omega) hr1 hr2
    rw [runS_len] at cc
    replace cc := hide cc
    have u3 := hide (u1.out.trans u2)
    clear hr1 hr2 ho1 ho2 hst1 hst2 u1 u2
    have hkq : (k1 == k1) = true := by simp
    go_wp2_with fail
    (with_reducible refine (cc.out).mono ?_)
    rintro e w3 ⟨rfl, n3, rfl⟩
    go_wp2_with fail
    refine (readSums_any _).mono ?_
    rintro e w4 ⟨rfl, rfl⟩
    go_wp2
    go_ret
    exact ⟨rfl, below_drewN u3.out.toBelow _⟩
  · exact absurd hk.out hno

set_option maxRecDepth 100000 in
set_option maxHeartbeats 4000000 in
theorem symsLaw_any (As A : Option Addr) (caps cap : Nat) (l0 l1 : List Int) (n : Int) (ar ae au : Addr) (w : World) (hB : ∀ x ∈ l1, 0 ≤ x ∧ x ≤ 255) (h0 : Rd .i64 w w.heap.size As l0) (h1 : Rd .u8 w w.heap.size A l1) (hm0 : l0.length ≤ 9223372036854775807) (hm1 : l1.length ≤ 9223372036854775807) (hTab : TabH w ar) (hE : Ends w ae au) :
    Calls Tryd.prog 6 #[.slice As l0.length caps, .slice A l1.length cap, .int .i64 n] w fun e w' => e = .returned (.bool true) ∧ Below w.heap.size w w' := by
  have cR := inRange_any As caps w.heap.size l0 0 15 w hm0 h0
  have cQ := hide (readSums_any w)
  by_cases c1 : (2147483647 : Int) < (l0.length : Int)
  · clear h0 h1 hB hE cR hTab
    go_enter Tryd.func6, Tryd.ntmps6
    go_wp2
    go_ret
    exact ⟨rfl, Below.refl _ _⟩
  by_cases c2 : (2147483647 : Int) < (l1.length : Int)
  · clear h0 h1 hB hE cR hTab
    go_enter Tryd.func6, Tryd.ntmps6
    go_wp2
    go_ret
    exact ⟨rfl, Below.refl _ _⟩
  by_cases c3 : (4096 : Int) < (l0.length : Int)
  · clear h0 h1 hB hE cR hTab
    go_enter Tryd.func6, Tryd.ntmps6
    go_wp2_with fail
    (with_reducible refine (cQ.out).mono ?_)
    rintro e w' ⟨rfl, rfl⟩
    go_wp2
    go_ret
    exact ⟨rfl, Below.refl _ _⟩
  cases hW : within 0 15 l0
  · rw [hW] at cR
    replace cR := hide cR
    clear h0 h1 hB hE hTab hW
    go_enter Tryd.func6, Tryd.ntmps6
    go_wp2_with fail
    (with_reducible refine (cR.out).mono ?_)
    rintro e w' ⟨rfl, rfl⟩
    go_wp2_with fail
    (with_reducible refine (cQ.out).mono ?_)
    rintro e w' ⟨rfl, rfl⟩
    go_wp2
    go_ret
    exact ⟨rfl, Below.refl _ _⟩
  have e0 := natOf_back l0 (fun x hx => (within_all hW x hx).1)
  have e1 := natOf_back l1 (fun x hx => (hB x hx).1)
  have hL : ∀ x ∈ natOf l0, x ≤ 15 := by intro x hx; unfold natOf at hx; rw [List.mem_map] at hx; obtain ⟨y, hy, rfl⟩ := hx; have := within_all hW y hy; omega
  have hl : ((natOf l0).length : Int) ≤ 4096 := by rw [natOf_len]; omega
  have h0' : Rd .i64 w w.heap.size As (ofN' (natOf l0)) := by rw [e0]; exact h0
  have h1' : Rd .u8 w w.heap.size A (ofN' (natOf l1)) := by rw [e1]; exact h1
  have cW := isWhole_any As caps w.heap.size (natOf l0) w hl hL h0'
  cases hT : wholeB (natOf l0)
  · rw [hT, natOf_len] at cW
    rw [hW] at cR
    replace cR := hide cR
    replace cW := hide cW
    clear h0 hW e0 e1 hL hl h1 hT h0' h1' hB hE hTab
    go_enter Tryd.func6, Tryd.ntmps6
    go_wp2_with fail
    (with_reducible refine (cR.out).mono ?_)
    rintro e w' ⟨rfl, rfl⟩
    go_wp2_with fail
    (with_reducible refine (cW.out).mono ?_)
    rintro e w' ⟨rfl, rfl⟩
    go_wp2_with fail
    (with_reducible refine (cQ.out).mono ?_)
    rintro e w' ⟨rfl, rfl⟩
    go_wp2
    go_ret
    exact ⟨rfl, Below.refl _ _⟩
  by_cases c4 : (1048576 : Int) < (l1.length : Int) ∨ n < 0 ∨ (4096 : Int) < n
  · rw [hT, natOf_len] at cW
    rw [hW] at cR
    replace cR := hide cR
    replace cW := hide cW
    clear h0 hW e0 e1 hL hl h1 hT h0' h1' hB hE hTab
    by_cases c5 : (1048576 : Int) < (l1.length : Int)
    · clear c4
      go_enter Tryd.func6, Tryd.ntmps6
      go_wp2_with fail
      (with_reducible refine (cR.out).mono ?_)
      rintro e w' ⟨rfl, rfl⟩
      go_wp2_with fail
      (with_reducible refine (cW.out).mono ?_)
      rintro e w' ⟨rfl, rfl⟩
      go_wp2_with fail
      (with_reducible refine (cQ.out).mono ?_)
      rintro e w' ⟨rfl, rfl⟩
      go_wp2
      go_ret
      exact ⟨rfl, Below.refl _ _⟩
    · by_cases c6 : n < 0
      · clear c4
        go_enter Tryd.func6, Tryd.ntmps6
        go_wp2_with fail
        (with_reducible refine (cR.out).mono ?_)
        rintro e w' ⟨rfl, rfl⟩
        go_wp2_with fail
        (with_reducible refine (cW.out).mono ?_)
        rintro e w' ⟨rfl, rfl⟩
        go_wp2_with fail
        (with_reducible refine (cQ.out).mono ?_)
        rintro e w' ⟨rfl, rfl⟩
        go_wp2
        go_ret
        exact ⟨rfl, Below.refl _ _⟩
      · have c7 : (4096 : Int) < n := by omega
        clear c4
        go_enter Tryd.func6, Tryd.ntmps6
        go_wp2_with fail
        (with_reducible refine (cR.out).mono ?_)
        rintro e w' ⟨rfl, rfl⟩
        go_wp2_with fail
        (with_reducible refine (cW.out).mono ?_)
        rintro e w' ⟨rfl, rfl⟩
        go_wp2_with fail
        (with_reducible refine (cQ.out).mono ?_)
        rintro e w' ⟨rfl, rfl⟩
        go_wp2
        go_ret
        exact ⟨rfl, Below.refl _ _⟩
  · obtain ⟨n', rfl⟩ : ∃ n' : Nat, n = (n' : Int) := ⟨n.toNat, by omega⟩
    have k := syms_main As A caps cap n' (natOf l0) (natOf l1) ar ae au w hl hL hT (by rw [e0]; exact hW)
      (by intro x hx; unfold natOf at hx; rw [List.mem_map] at hx; obtain ⟨y, hy, rfl⟩ := hx; have := hB y hy; omega)
      (by rw [natOf_len]; omega) (by omega) h0' h1' hTab hE
    rw [natOf_len, natOf_len] at k
    exact k
end Go.Proofs.YtpiapfahcoopbaaDoor

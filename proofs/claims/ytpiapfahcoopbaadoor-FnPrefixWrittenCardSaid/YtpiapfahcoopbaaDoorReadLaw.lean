/- The law FnRead: the walk, for every argument. -/
import Derived.Test.YtpiapfahcoopbaaDoorReadImpl
import Derived.Test.YtpiapfahcoopbaaDoorTruths
import Derived.Test.YtpiapfahcoopbaaDoorInts
import Derived.Test.YtpiapfahcoopbaaDoorSums
namespace Go.Proofs.YtpiapfahcoopbaaDoor
set_option linter.unusedSimpArgs false
set_option linter.unusedVariables false
open Go.RowKit Plain

/-- A list of numbers, none of them below 0, as natural ones. -/
def natOf (l : List Int) : List Nat := l.map Int.toNat
theorem natOf_len (l : List Int) : (natOf l).length = l.length := by simp [natOf]
theorem natOf_back (l : List Int) (h : ∀ x ∈ l, 0 ≤ x) : ofN' (natOf l) = l := by
  unfold ofN' natOf
  rw [List.map_map]
  have e : l.map (Int.ofNat ∘ Int.toNat) = l.map id := by
    apply List.map_congr_left
    intro x hx
    have := h x hx
    simp
    omega
  rw [e]
  simp
theorem within_all {lo hi : Int} {l : List Int} (h : within lo hi l = true) : ∀ x ∈ l, lo ≤ x ∧ x ≤ hi := by
  unfold within at h
  rw [List.all_eq_true] at h
  intro x hx
  exact of_decide_eq_true (h x hx)
theorem readN_bd (B ss : List Nat) (m : Nat) : (readN B ss m).length = m := readN_len B ss m

set_option maxRecDepth 100000 in
set_option maxHeartbeats 4000000 in
theorem read_main (A As : Option Addr) (cap caps : Nat) (B ss : List Nat) (ae au : Addr) (w : World) (hB : Oct B) (hl : (B.length : Int) ≤ 1048576) (hs : (ss.length : Int) ≤ 4096) (hs24 : ∀ x ∈ ss, x ≤ 24) (hw : within 0 24 (ofN' ss) = true)
    (hS : Rd .u8 w w.heap.size A (ofN' B)) (hSs : Rd .i64 w w.heap.size As (ofN' ss)) (hE : Ends w ae au) :
    Calls Tryd.prog 3 #[.slice A B.length cap, .slice As ss.length caps] w fun e w' => e = .returned (.bool true) ∧ Below w.heap.size w w' := by
  have cI := hide (reads_any A As cap caps B ss ae au w hB hl hs hs24 hS hSs hE)
  have cS := fun w1 (hb : Below w.heap.size w w1) => sreads_any A As cap caps B ss w1 hB hl hs hs24 ((hS.below hb).more hb.size) ((hSs.below hb).more hb.size)
  replace cS := hide cS
  have cR := inRange_any As caps w.heap.size (ofN' ss) 0 24 w (by rw [ofN'_len]; omega) hSs
  rw [hw, ofN'_len] at cR
  replace cR := hide cR
  have t1 : ¬ (2147483647 : Int) < (B.length : Int) := by omega
  have t2 : ¬ (2147483647 : Int) < (ss.length : Int) := by omega
  have t3 : ¬ (1048576 : Int) < (B.length : Int) := by omega
  have t4 : ¬ (4096 : Int) < (ss.length : Int) := by omega
  clear hB hs24 hw hS hSs hE
  go_enter Tryd.func3, Tryd.ntmps3
  go_wp2_with fail
  (with_reducible refine (cR.out).mono ?_)
  rintro e w' ⟨rfl, rfl⟩
  go_wp2_with fail
  (with_reducible refine (cI.out).mono ?_)
  rintro e w1 ⟨m1, v1, hst1, rfl, ho1, hb1⟩
  obtain ⟨A1, c1, rfl, _, _⟩ := own_len ho1
  have hb1' := hide hb1
  replace ho1 := hide ho1
  replace hst1 := hide hst1
  go_wp2_with fail
  (with_reducible refine (cS.out w1 hb1'.out).mono ?_)
  rintro e w2 ⟨m2, v2, hst2, rfl, ho2, hb2⟩
  obtain ⟨A2, c2, rfl, _, _⟩ := own_len ho2
  obtain rfl := hst1.out.uniq hst2
  have hm : m1 ≤ ss.length := hst2.1
  have hr1 := Rd.ofOwn ((Upd.ofBelow (S := []) hb2).own ho1.out (by simp))
  have hr2 := Rd.ofOwn ho2
  have cc := ints_same A1 A2 c1 c2 (readN B ss m1) w2 _ _ (by rw [readN_len]; omega) hr1 hr2
  rw [readN_len] at cc
  replace cc := hide cc
  have hb3 := hide (hb1'.out.trans (hb2.mono hb1'.out.size))
  clear hr1 hr2 ho1 ho2 hst1 hst2 hb1 hb2 hb1'
  generalize decide (m1 = ss.length) = ok at *
  have hok : (ok == ok) = true := by simp
  go_wp2_with fail
  (with_reducible refine (cc.out).mono ?_)
  rintro e w3 ⟨rfl, n3, rfl⟩
  go_wp2_with fail
  refine (readSums_any _).mono ?_
  rintro e w4 ⟨rfl, rfl⟩
  go_wp2
  go_ret
  exact ⟨rfl, below_drewN hb3.out _⟩

set_option maxRecDepth 100000 in
set_option maxHeartbeats 4000000 in
theorem readLaw_any (A As : Option Addr) (cap caps : Nat) (l0 l1 : List Int) (ae au : Addr) (w : World) (hB : ∀ x ∈ l0, 0 ≤ x ∧ x ≤ 255) (h0 : Rd .u8 w w.heap.size A l0) (h1 : Rd .i64 w w.heap.size As l1) (hm0 : l0.length ≤ 9223372036854775807) (hm1 : l1.length ≤ 9223372036854775807) (hE : Ends w ae au) :
    Calls Tryd.prog 3 #[.slice A l0.length cap, .slice As l1.length caps] w fun e w' => e = .returned (.bool true) ∧ Below w.heap.size w w' := by
  have cR := inRange_any As caps w.heap.size l1 0 24 w hm1 h1
  have cQ := hide (readSums_any w)
  by_cases c1 : (2147483647 : Int) < (l0.length : Int)
  · clear h0 h1 hB hE cR
    go_enter Tryd.func3, Tryd.ntmps3
    go_wp2
    go_ret
    exact ⟨rfl, Below.refl _ _⟩
  by_cases c2 : (2147483647 : Int) < (l1.length : Int)
  · clear h0 h1 hB hE cR
    go_enter Tryd.func3, Tryd.ntmps3
    go_wp2
    go_ret
    exact ⟨rfl, Below.refl _ _⟩
  by_cases c3 : (1048576 : Int) < (l0.length : Int)
  · clear h0 h1 hB hE cR
    go_enter Tryd.func3, Tryd.ntmps3
    go_wp2_with fail
    (with_reducible refine (cQ.out).mono ?_)
    rintro e w' ⟨rfl, rfl⟩
    go_wp2
    go_ret
    exact ⟨rfl, Below.refl _ _⟩
  by_cases c4 : (4096 : Int) < (l1.length : Int)
  · clear h0 h1 hB hE cR
    go_enter Tryd.func3, Tryd.ntmps3
    go_wp2_with fail
    (with_reducible refine (cQ.out).mono ?_)
    rintro e w' ⟨rfl, rfl⟩
    go_wp2
    go_ret
    exact ⟨rfl, Below.refl _ _⟩
  cases hW : within 0 24 l1
  · rw [hW] at cR
    replace cR := hide cR
    clear h0 h1 hB hE hW
    go_enter Tryd.func3, Tryd.ntmps3
    go_wp2_with fail
    (with_reducible refine (cR.out).mono ?_)
    rintro e w' ⟨rfl, rfl⟩
    go_wp2_with fail
    (with_reducible refine (cQ.out).mono ?_)
    rintro e w' ⟨rfl, rfl⟩
    go_wp2
    go_ret
    exact ⟨rfl, Below.refl _ _⟩
  · have e0 := natOf_back l0 (fun x hx => (hB x hx).1)
    have e1 := natOf_back l1 (fun x hx => (within_all hW x hx).1)
    have k := read_main A As cap caps (natOf l0) (natOf l1) ae au w
      (by intro x hx; unfold natOf at hx; rw [List.mem_map] at hx; obtain ⟨y, hy, rfl⟩ := hx; have := hB y hy; omega)
      (by rw [natOf_len]; omega) (by rw [natOf_len]; omega)
      (by intro x hx; unfold natOf at hx; rw [List.mem_map] at hx; obtain ⟨y, hy, rfl⟩ := hx; have := within_all hW y hy; omega)
      (by rw [e1]; exact hW) (by rw [e0]; exact h0) (by rw [e1]; exact h1) hE
    rw [natOf_len, natOf_len] at k
    exact k
end Go.Proofs.YtpiapfahcoopbaaDoor

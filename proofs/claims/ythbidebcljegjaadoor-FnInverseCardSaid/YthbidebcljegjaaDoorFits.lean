/- 'spec.Fits', 'laws.isShort', 'spec.byteOf': the walks. -/
import Derived.Test.YthbidebcljegjaaDoorSInv
import Derived.Test.YthbidebcljegjaaDoorTruths
namespace Go.Proofs.YthbidebcljegjaaDoor
set_option linter.unusedSimpArgs false
set_option linter.unusedVariables false
open Go.RowKit Plain

/-- Between both passes all numbers are near to 0. -/
def fitB (x : Nat → Int) : Bool := (List.range 16).all fun j => decide (-25079 ≤ pT x j ∧ pT x j ≤ 25079)
theorem fitB_true {x : Nat → Int} (h : ∀ j, j < 16 → -25079 ≤ pT x j ∧ pT x j ≤ 25079) : fitB x = true := by
  unfold fitB
  rw [List.all_eq_true]
  intro j hj
  exact decide_eq_true (h j (by simpa using hj))
theorem fitB_of {x : Nat → Int} (h : fitB x = true) (j : Nat) (hj : j < 16) : -25079 ≤ pT x j ∧ pT x j ≤ 25079 := by
  unfold fitB at h
  rw [List.all_eq_true] at h
  exact of_decide_eq_true (h j (by simpa using hj))
theorem fitB_false {x : Nat → Int} (j : Nat) (hj : j < 16) (h : ¬ (-25079 ≤ pT x j ∧ pT x j ≤ 25079)) : fitB x = false := by
  cases e : fitB x with
  | false => rfl
  | true => exact absurd (fitB_of e j hj) h
theorem dist_0 (a : Int) : dist a 0 ≤ 25079 ↔ (-25079 ≤ a ∧ a ≤ 25079) := by
  unfold dist
  (repeat' split) <;> omega
theorem byteOf_any (n : Int) (w : World) : Calls Tryd.prog 49 #[.int .i64 n] w fun e w' => e = .returned (.int .i64 (clB n)) ∧ w = w' := by
  have c := within_any n 0 255 w (by decide)
  have e : clamp 0 255 n = clB n := by
    unfold clamp clB
    (repeat' split) <;> omega
  rw [e] at c
  generalize clB n = y at *
  replace c := hide c
  clear e
  go_enter Tryd.func49, Tryd.ntmps49
  go_wp2_with (first | (go_at_call 69; (with_reducible refine c.out.mono ?_); rintro e w' ⟨rfl, rfl⟩) | fail)
  go_ret
  exact ⟨rfl, rfl⟩

set_option maxRecDepth 100000 in
set_option maxHeartbeats 4000000 in
theorem fits_any (x : Nat → Int) (w : World) (hx : ∀ j, -25079 ≤ x j ∧ x j ≤ 25079) :
    Calls Tryd.prog 46 #[.agg (rowF .i64 x 16)] w fun e w' => e = .returned (.bool (fitB x)) ∧ Below w.heap.size w w' := by
  have cP := fun w1 => pass_any x w1 hx
  have hpb : ∀ j, -100000 ≤ pT x j ∧ pT x j ≤ 100000 := fun j => tur_bd _ _ _ _ _ (hx _) (hx _) (hx _) (hx _)
  have hsz : (rowF .i64 x 16).size = 16 := rowF_size _ _ _
  have hs2 : (rowF .i64 (pT x) 16).size = 16 := rowF_size _ _ _
  have h2 := rowF_one .i64 (pT x) 16
  replace cP := hide cP
  replace hx := hide hx
  replace hpb := hide hpb
  have hbx := hide (Blk.new w 37 (rowF .i64 x 16)).range
  have b0 := hide (Blk.new w 37 (rowF .i64 x 16))
  have hb := hide ((Below.refl _ w).alloc (Nat.le_refl _) (.cells (rowF .i64 x 16) 37))
  generalize hXS : rowF .i64 (pT x) 16 = XS at *
  replace hXS := hide hXS
  go_enter Tryd.func46, Tryd.ntmps46
  go_wp2_with (first | (refine wpList_load_mid rfl 37 (.tmp 1) rfl w.heap.size 0 rfl (rowF .i64 x 16).toList _ hbx.out Tryd.underlying37 rfl (by rw [Array.length_toList, hsz]; exact size_16int) ?_) | (go_at_call 63; (with_reducible refine (cP.out _).mono ?_); rintro e w2 ⟨rfl, hb2⟩; replace hb2 := hide hb2) | (refine wpList_store_mid rfl 37 (.tmp 3) (.tmp 6) rfl w2.heap.size 0 XS.toList.toArray rfl rfl (by rw [Array.toArray_toList, hs2]; exact (Blk.new w2 37 (rowF .i64 (fun _ => 0) 16)).there 16 (by rw [rowF_size]; exact Nat.le_refl _)) (by rw [Array.toArray_toList, hs2]; exact size_16int) (by rw [Array.toArray_toList]; exact h2) ?_) | fail)
  have hs3 := hb2.out.size
  simp only [World.size_alloc] at hs3
  have hX0 : Hid (Blk ((w2.alloc (.cells (rowF .i64 (fun _ => 0) 16) 37)).setCells w2.heap.size 0 XS.toList) w2.heap.size 37 XS) := hide (blk_stored (Blk.new w2 37 (rowF .i64 (fun _ => 0) 16)) (by rw [hs2, rowF_size]))
  have hB0 := hide (blk_setCells_far (show w.heap.size ≠ w2.heap.size by omega) XS.toList 0 ((b0.out.below hb2.out (by simp)).alloc (.cells (rowF .i64 (fun _ => 0) 16) 37)))
  have hb0 := hide (below_setCells (show w.heap.size ≤ w2.heap.size by omega) XS.toList 0 ((hb.out.trans (hb2.out.mono (by simp))).alloc (by omega) (.cells (rowF .i64 (fun _ => 0) 16) 37)))
  clear hb2 hb b0 hbx hs3 cP
  generalize w2.heap.size = T0 at *
  go_loopg [4] 16 (fun k u4 wr => ∃ i : Nat, k + i = 16 ∧ u4 = .int .i64 i ∧ Blk wr w.heap.size 37 (rowF .i64 x 16) ∧ Blk wr T0 37 (rowF .i64 (pT x) 16) ∧ Below w.heap.size w wr ∧ ∀ j, j < i → -25079 ≤ pT x j ∧ pT x j ≤ 25079)
  case atStart => exact ⟨0, rfl, rfl, hB0.out, Blk.to hX0.out rfl hXS.out, hb0.out, fun j hj => absurd hj (by omega)⟩
  case round =>
    obtain ⟨i, hi, rfl, hB, hX, hbel, hall⟩ := hrel
    clear hB0 hX0 hb0 hXS hs2 h2
    replace hbel := hide hbel
    cases gk with
    | zero =>
      have hi4 : i = 16 := by omega
      subst hi4
      have hF := hide (fitB_true hall)
      clear hall hB hX
      go_wp2
      go_ret
      exact ⟨(congrArg (fun b => Ending.returned (.bool b)) hF.out).symm, hbel.out⟩
    | succ k =>
      have hi4 : i < 16 := by omega
      have hii : (i : Int) < 16 := by omega
      have hi0 : (0 : Int) ≤ (i : Int) := by omega
      have k0 := Blk.rowCell hB i hi4
      have k1 := Blk.rowCell hX i hi4
      have c1 := distance_any (x i) 0 wr (by have := hx.out i; omega) (by have := hx.out i; omega) (by decide) (by decide)
      have c2 := distance_any (pT x i) 0 wr (by have := hpb.out i; omega) (by have := hpb.out i; omega) (by decide) (by decide)
      have d1 := (dist_0 (x i)).2 (hx.out i)
      have d2 := dist_0 (pT x i)
      have hall' := hide hall
      replace hB := hide hB
      replace hX := hide hX
      clear hall
      by_cases hp : -25079 ≤ pT x i ∧ pT x i ≤ 25079
      · have d3 := d2.2 hp
        replace hp := hide hp
        clear d2
        generalize dist (x i) 0 = z1 at *
        generalize dist (pT x i) 0 = z2 at *
        replace c1 := hide c1
        replace c2 := hide c2
        go_wp2_with (first | (go_at_call 64; (with_reducible refine (c1.out).mono ?_); rintro e w' ⟨rfl, rfl⟩) | (go_at_call 64; (with_reducible refine (c2.out).mono ?_); rintro e w' ⟨rfl, rfl⟩) | fail)
        go_roundg k
        case measure => omega
        case rel =>
          refine ⟨i + 1, by omega, by go_num, hB.out, hX.out, hbel.out, ?_⟩
          intro j hj
          rcases Nat.lt_or_ge j i with h | h
          · exact hall'.out j h
          · have : j = i := by omega
            subst this
            exact hp.out
      · have d3 : 25079 < dist (pT x i) 0 := by
          have := fun h => hp (d2.1 h)
          omega
        have hF := hide (fitB_false i hi4 hp)
        clear d2 hp
        generalize dist (x i) 0 = z1 at *
        generalize dist (pT x i) 0 = z2 at *
        replace c1 := hide c1
        replace c2 := hide c2
        go_wp2_with (first | (go_at_call 64; (with_reducible refine (c1.out).mono ?_); rintro e w' ⟨rfl, rfl⟩) | (go_at_call 64; (with_reducible refine (c2.out).mono ?_); rintro e w' ⟨rfl, rfl⟩) | fail)
        go_ret
        exact ⟨(congrArg (fun b => Ending.returned (.bool b)) hF.out).symm, hbel.out⟩
end Go.Proofs.YthbidebcljegjaaDoor

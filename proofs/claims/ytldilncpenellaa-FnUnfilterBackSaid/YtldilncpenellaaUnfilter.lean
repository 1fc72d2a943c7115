/- 'unfilterAlpha' undoes the filter of a plane. -/
import Derived.Test.YtldilncpenellaaAlphaPlain
import Derived.Test.YtldilncpenellaaRows
import Derived.Outline
import Derived.WalkLawsBesides
import Derived.RegionTactic
import Derived.ChangeAlike
import Derived.Deep.LoopGhost
namespace Go.Proofs.Ytldilncpenellaa
set_option linter.unusedSimpArgs false
set_option linter.unusedVariables false
open Go.RowKit
set_option linter.unusedVariables false
set_option maxHeartbeats 4000000 in
set_option maxRecDepth 100000 in
theorem unfilter_1 (base g n cap W : Nat) (P : List Int) (w : World) (hn : P.length = n) (hn1 : W ≤ n) (hn2 : n ≤ 65536) (hnW : n % W = 0) (hW : 1 ≤ W) (hB : IsB P)
    (hown : w.ownsRow base 5 1 (.slice (some ⟨g, 0, none⟩) n cap) n ((filt 1 W P).map (Value.int .u8))) :
    Calls Try.prog 23 #[.slice (some ⟨g, 0, none⟩) n cap, .int .i64 W, .int .u8 1] w fun e w' => e = .returned (.tuple #[]) ∧
      w'.ownsRow base 5 1 (.slice (some ⟨g, 0, none⟩) n cap) n (P.map (Value.int .u8)) ∧ Upd [g] w w' := by
  have hF := filt_length 1 W P
  have hl0 : ((n : Int) == 0) = false := by simp; omega
  have hw0 : ((W : Int) == 0) = false := by simp; omega
  go_enter Try.func23, Try.ntmps23
  go_wp2
  go_loopw [6] (fun i wr => ∃ m : Nat, 1 ≤ m ∧ m ≤ W ∧ i = .int .i64 m ∧ wr.ownsRow base 5 1 (.slice (some ⟨g, 0, none⟩) n cap) n ((half P (filt 1 W P) m).map (Value.int .u8)) ∧ Upd [g] w wr) (fun i _ => W - (intOf i).toNat)
  case atStart => exact ⟨1, by omega, hW, rfl, by rw [half_one 1 W P hB (by omega)]; exact hown, Upd.refl _ _⟩
  case round =>
    obtain ⟨m, hm1, hm2, rfl, hown1, hupd⟩ := hrel
    by_cases hlt : m < W
    · have c1 := own_cell hown1 m (by omega)
      have c2 := own_cell hown1 (m - 1) (by omega)
      rw [half_hi P _ m m hF (by omega) (by omega)] at c1
      rw [half_lo P _ m (m - 1) hF (by omega) (by omega)] at c2
      have f1 := hown1.frozenAt m
      obtain ⟨p1, p2, p3⟩ := at_first (by omega) hlt
      have H := hide (undo_at 1 W P hB m (by omega) _ (fore_left (by decide) p1 p2 (.inl p3)))
      have S := hide (half_set P (filt 1 W P) m hF (by omega))
      have O := hide (own_set hown1 m (P.getD m 0))
      clear p1 p2 p3 hown1
      generalize (filt 1 W P).getD m 0 = x at *
      generalize P.getD (m - 1) 0 = y at *
      go_wp2
      go_region
      go_wp2
      go_roundw
      case rel =>
        refine ⟨m + 1, by omega, by omega, by go_num, ?_, (hupd.drew).setCell (.inl (by simp)) _⟩
        rw [H.out, ← S.out]
        exact O.out
      case measure => simp [intOf]; omega
    · have hmW : m = W := by omega
      subst hmW
      clear hlt hm2 hm1 hown
      go_wp2
      go_loopw [7] (fun i wr => ∃ q : Nat, q % m = 0 ∧ m ≤ q ∧ q ≤ n ∧ i = .int .i64 q ∧ wr.ownsRow base 5 1 (.slice (some ⟨g, 0, none⟩) n cap) n ((half P (filt 1 m P) q).map (Value.int .u8)) ∧ Upd [g] w wr) (fun i _ => n - (intOf i).toNat)
      case atStart => exact ⟨m, Nat.mod_self m, Nat.le_refl _, by omega, rfl, hown1, hupd⟩
      case round =>
        obtain ⟨q, hq1, hq2, hq3, rfl, hown2, hupd2⟩ := hrel
        clear hown1 hupd
        by_cases hlt : q < n
        · have hqn := row_next hq1 hnW hlt
          have c1 := own_cell hown2 q (by omega)
          have c2 := own_cell hown2 (q - m) (by omega)
          rw [half_hi P _ q q hF (by omega) (by omega)] at c1
          rw [half_lo P _ q (q - m) hF (by omega) (by omega)] at c2
          have f1 := hown2.frozenAt q
          have H := hide (undo_at 1 m P hB q (by omega) _ (fore_col (by decide) (by omega) hq1))
          have S := hide (half_set P (filt 1 m P) q hF (by omega))
          have O := hide (own_set hown2 q (P.getD q 0))
          clear hown2
          generalize (filt 1 m P).getD q 0 = x at *
          generalize P.getD (q - m) 0 = y at *
          go_wp2
          go_region
          go_wp2
          go_loopw [8] (fun i wr => ∃ j : Nat, 1 ≤ j ∧ j ≤ m ∧ i = .int .i64 j ∧ wr.ownsRow base 5 1 (.slice (some ⟨g, 0, none⟩) n cap) n ((half P (filt 1 m P) (q + j)).map (Value.int .u8)) ∧ Upd [g] w wr) (fun i _ => m - (intOf i).toNat)
          case atStart =>
            refine ⟨1, by omega, by omega, rfl, ?_, (hupd2.drew).setCell (.inl (by simp)) _⟩
            rw [H.out, ← S.out]
            exact O.out
          case round =>
            obtain ⟨j, hj1, hj2, rfl, hown3, hupd3⟩ := hrel
            clear c1 c2 f1 H S O hupd2
            by_cases hltj : j < m
            · obtain ⟨p1, p2, p3⟩ := at_inner hq1 hq2 (by omega) hltj
              have c1 := own_cell hown3 (q + j) (by omega)
              have c2 := own_cell hown3 (q + j - 1) (by omega)
              rw [half_hi P _ (q + j) (q + j) hF (by omega) (by omega)] at c1
              rw [half_lo P _ (q + j) (q + j - 1) hF (by omega) (by omega)] at c2
              have f1 := hown3.frozenAt (q + j)
              have H := undo_at 1 m P hB (q + j) (by omega) _ (fore_left (by decide) p1 p2 (.inr rfl))
              have S := hide (half_set P (filt 1 m P) (q + j) hF (by omega))
              have O := hide (own_set hown3 (q + j) (P.getD (q + j) 0))
              clear p1 p2 p3 hown3
              generalize P.getD (q + j) 0 = r at *
              generalize (filt 1 m P).getD (q + j) 0 = x at *
              generalize P.getD (q + j - 1) 0 = y at *
              replace H := hide H
              go_wp2
              go_region
              go_wp2
              go_roundw
              case rel =>
                refine ⟨j + 1, by omega, by omega, by go_num, ?_, (hupd3.drew).setCell (.inl (by simp)) _⟩
                rw [← Nat.add_assoc, ← S.out]
                have E : ∀ y, y = r → World.ownsRow (wr.setCell ⟨g, q + j, none⟩ (Value.int .u8 y)) base 5 1 (.slice (some ⟨g, 0, none⟩) n cap) n (((half P (filt 1 m P) (q + j)).set (q + j) r).map (Value.int .u8)) := by
                  rintro _ rfl
                  exact O.out
                exact E _ (by have := H.out; omega)
              case measure => simp [intOf]; omega
            · have hjm : j = m := by omega
              subst hjm
              go_wp2
              go_roundw
              case rel => exact ⟨q + j, by rw [Nat.add_mod_right]; exact hq1, by omega, by omega, by go_num, hown3, hupd3⟩
              case measure => simp [intOf]; omega
        · have hqn : q = n := by omega
          subst hqn
          go_wp2
          go_end0
          refine ⟨rfl, ?_, hupd2⟩
          rw [← hn, half_all P _ hF] at hown2
          rw [← hn]
          exact hown2
set_option maxHeartbeats 4000000 in
set_option maxRecDepth 100000 in
theorem unfilter_2 (base g n cap W : Nat) (P : List Int) (w : World) (hn : P.length = n) (hn1 : W ≤ n) (hn2 : n ≤ 65536) (hnW : n % W = 0) (hW : 1 ≤ W) (hB : IsB P)
    (hown : w.ownsRow base 5 1 (.slice (some ⟨g, 0, none⟩) n cap) n ((filt 2 W P).map (Value.int .u8))) :
    Calls Try.prog 23 #[.slice (some ⟨g, 0, none⟩) n cap, .int .i64 W, .int .u8 2] w fun e w' => e = .returned (.tuple #[]) ∧
      w'.ownsRow base 5 1 (.slice (some ⟨g, 0, none⟩) n cap) n (P.map (Value.int .u8)) ∧ Upd [g] w w' := by
  have hF := filt_length 2 W P
  have hl0 : ((n : Int) == 0) = false := by simp; omega
  have hw0 : ((W : Int) == 0) = false := by simp; omega
  go_enter Try.func23, Try.ntmps23
  go_wp2
  go_loopw [9] (fun i wr => ∃ m : Nat, 1 ≤ m ∧ m ≤ W ∧ i = .int .i64 m ∧ wr.ownsRow base 5 1 (.slice (some ⟨g, 0, none⟩) n cap) n ((half P (filt 2 W P) m).map (Value.int .u8)) ∧ Upd [g] w wr) (fun i _ => W - (intOf i).toNat)
  case atStart => exact ⟨1, by omega, hW, rfl, by rw [half_one 2 W P hB (by omega)]; exact hown, Upd.refl _ _⟩
  case round =>
    obtain ⟨m, hm1, hm2, rfl, hown1, hupd⟩ := hrel
    by_cases hlt : m < W
    · have c1 := own_cell hown1 m (by omega)
      have c2 := own_cell hown1 (m - 1) (by omega)
      rw [half_hi P _ m m hF (by omega) (by omega)] at c1
      rw [half_lo P _ m (m - 1) hF (by omega) (by omega)] at c2
      have f1 := hown1.frozenAt m
      obtain ⟨p1, p2, p3⟩ := at_first (by omega) hlt
      have H := hide (undo_at 2 W P hB m (by omega) _ (fore_left (by decide) p1 p2 (.inl p3)))
      have S := hide (half_set P (filt 2 W P) m hF (by omega))
      have O := hide (own_set hown1 m (P.getD m 0))
      clear p1 p2 p3 hown1
      generalize (filt 2 W P).getD m 0 = x at *
      generalize P.getD (m - 1) 0 = y at *
      go_wp2
      go_region
      go_wp2
      go_roundw
      case rel =>
        refine ⟨m + 1, by omega, by omega, by go_num, ?_, (hupd.drew).setCell (.inl (by simp)) _⟩
        rw [H.out, ← S.out]
        exact O.out
      case measure => simp [intOf]; omega
    · have hmW : m = W := by omega
      subst hmW
      clear hlt hm2 hm1 hown
      go_wp2
      go_loopw [10] (fun i wr => ∃ q : Nat, m ≤ q ∧ q ≤ n ∧ i = .int .i64 q ∧ wr.ownsRow base 5 1 (.slice (some ⟨g, 0, none⟩) n cap) n ((half P (filt 2 m P) q).map (Value.int .u8)) ∧ Upd [g] w wr) (fun i _ => n - (intOf i).toNat)
      case atStart => exact ⟨m, Nat.le_refl _, by omega, rfl, hown1, hupd⟩
      case round =>
        obtain ⟨q, hq2, hq3, rfl, hown2, hupd2⟩ := hrel
        clear hown1 hupd
        by_cases hlt : q < n
        · have c1 := own_cell hown2 q (by omega)
          have c2 := own_cell hown2 (q - m) (by omega)
          rw [half_hi P _ q q hF (by omega) (by omega)] at c1
          rw [half_lo P _ q (q - m) hF (by omega) (by omega)] at c2
          have f1 := hown2.frozenAt q
          have hfo : fore 2 m P q = P.getD (q - m) 0 := by
            by_cases hx : q % m = 0
            · exact fore_col (by decide) (by omega) hx
            · exact fore_up rfl (by omega) hx (fun h => h.elim (fun e => by have := Nat.div_eq_zero_iff.1 e; omega) (by decide))
          have H := hide (undo_at 2 m P hB q (by omega) _ hfo)
          have S := hide (half_set P (filt 2 m P) q hF (by omega))
          have O := hide (own_set hown2 q (P.getD q 0))
          clear hown2 hfo
          generalize (filt 2 m P).getD q 0 = x at *
          generalize P.getD (q - m) 0 = y at *
          go_wp2
          go_region
          go_wp2
          go_roundw
          case rel =>
            refine ⟨q + 1, by omega, by omega, by go_num, ?_, (hupd2.drew).setCell (.inl (by simp)) _⟩
            rw [H.out, ← S.out]
            exact O.out
          case measure => simp [intOf]; omega
        · have hqn : q = n := by omega
          subst hqn
          go_wp2
          go_end0
          refine ⟨rfl, ?_, hupd2⟩
          rw [← hn, half_all P _ hF] at hown2
          rw [← hn]
          exact hown2
set_option maxHeartbeats 4000000 in
set_option maxRecDepth 100000 in
theorem unfilter_3 (base g n cap W : Nat) (P : List Int) (w : World) (hn : P.length = n) (hn1 : W ≤ n) (hn2 : n ≤ 65536) (hnW : n % W = 0) (hW : 1 ≤ W) (hB : IsB P)
    (hown : w.ownsRow base 5 1 (.slice (some ⟨g, 0, none⟩) n cap) n ((filt 3 W P).map (Value.int .u8))) :
    Calls Try.prog 23 #[.slice (some ⟨g, 0, none⟩) n cap, .int .i64 W, .int .u8 3] w fun e w' => e = .returned (.tuple #[]) ∧
      w'.ownsRow base 5 1 (.slice (some ⟨g, 0, none⟩) n cap) n (P.map (Value.int .u8)) ∧ Upd [g] w w' := by
  have hF := filt_length 3 W P
  have hl0 : ((n : Int) == 0) = false := by simp; omega
  have hw0 : ((W : Int) == 0) = false := by simp; omega
  go_enter Try.func23, Try.ntmps23
  go_wp2
  go_loopw [11] (fun i wr => ∃ m : Nat, 1 ≤ m ∧ m ≤ W ∧ i = .int .i64 m ∧ wr.ownsRow base 5 1 (.slice (some ⟨g, 0, none⟩) n cap) n ((half P (filt 3 W P) m).map (Value.int .u8)) ∧ Upd [g] w wr) (fun i _ => W - (intOf i).toNat)
  case atStart => exact ⟨1, by omega, hW, rfl, by rw [half_one 3 W P hB (by omega)]; exact hown, Upd.refl _ _⟩
  case round =>
    obtain ⟨m, hm1, hm2, rfl, hown1, hupd⟩ := hrel
    by_cases hlt : m < W
    · have c1 := own_cell hown1 m (by omega)
      have c2 := own_cell hown1 (m - 1) (by omega)
      rw [half_hi P _ m m hF (by omega) (by omega)] at c1
      rw [half_lo P _ m (m - 1) hF (by omega) (by omega)] at c2
      have f1 := hown1.frozenAt m
      obtain ⟨p1, p2, p3⟩ := at_first (by omega) hlt
      have H := hide (undo_at 3 W P hB m (by omega) _ (fore_left (by decide) p1 p2 (.inl p3)))
      have S := hide (half_set P (filt 3 W P) m hF (by omega))
      have O := hide (own_set hown1 m (P.getD m 0))
      clear p1 p2 p3 hown1
      generalize (filt 3 W P).getD m 0 = x at *
      generalize P.getD (m - 1) 0 = y at *
      go_wp2
      go_region
      go_wp2
      go_roundw
      case rel =>
        refine ⟨m + 1, by omega, by omega, by go_num, ?_, (hupd.drew).setCell (.inl (by simp)) _⟩
        rw [H.out, ← S.out]
        exact O.out
      case measure => simp [intOf]; omega
    · have hmW : m = W := by omega
      subst hmW
      clear hlt hm2 hm1 hown
      go_wp2
      go_loopw [12] (fun i wr => ∃ q : Nat, q % m = 0 ∧ m ≤ q ∧ q ≤ n ∧ i = .int .i64 q ∧ wr.ownsRow base 5 1 (.slice (some ⟨g, 0, none⟩) n cap) n ((half P (filt 3 m P) q).map (Value.int .u8)) ∧ Upd [g] w wr) (fun i _ => n - (intOf i).toNat)
      case atStart => exact ⟨m, Nat.mod_self m, Nat.le_refl _, by omega, rfl, hown1, hupd⟩
      case round =>
        obtain ⟨q, hq1, hq2, hq3, rfl, hown2, hupd2⟩ := hrel
        clear hown1 hupd
        by_cases hlt : q < n
        · have hqn := row_next hq1 hnW hlt
          have c1 := own_cell hown2 q (by omega)
          have c2 := own_cell hown2 (q - m) (by omega)
          rw [half_hi P _ q q hF (by omega) (by omega)] at c1
          rw [half_lo P _ q (q - m) hF (by omega) (by omega)] at c2
          have f1 := hown2.frozenAt q
          have H := hide (undo_at 3 m P hB q (by omega) _ (fore_col (by decide) (by omega) hq1))
          have S := hide (half_set P (filt 3 m P) q hF (by omega))
          have O := hide (own_set hown2 q (P.getD q 0))
          clear hown2
          generalize (filt 3 m P).getD q 0 = x at *
          generalize P.getD (q - m) 0 = y at *
          go_wp2
          go_region
          go_wp2
          go_loopw [13] (fun i wr => ∃ j : Nat, 1 ≤ j ∧ j ≤ m ∧ i = .int .i64 j ∧ wr.ownsRow base 5 1 (.slice (some ⟨g, 0, none⟩) n cap) n ((half P (filt 3 m P) (q + j)).map (Value.int .u8)) ∧ Upd [g] w wr) (fun i _ => m - (intOf i).toNat)
          case atStart =>
            refine ⟨1, by omega, by omega, rfl, ?_, (hupd2.drew).setCell (.inl (by simp)) _⟩
            rw [H.out, ← S.out]
            exact O.out
          case round =>
            obtain ⟨j, hj1, hj2, rfl, hown3, hupd3⟩ := hrel
            clear c1 c2 f1 H S O hupd2
            by_cases hltj : j < m
            · obtain ⟨p1, p2, p3⟩ := at_inner hq1 hq2 (by omega) hltj
              have c1 := own_cell hown3 (q + j) (by omega)
              have c2 := own_cell hown3 (q + j - 1) (by omega)
              rw [half_hi P _ (q + j) (q + j) hF (by omega) (by omega)] at c1
              rw [half_lo P _ (q + j) (q + j - 1) hF (by omega) (by omega)] at c2
              have c3 := own_cell hown3 (q + j - m) (by omega)
              have c4 := own_cell hown3 (q + j - m - 1) (by omega)
              rw [half_lo P _ (q + j) (q + j - m) hF (by omega) (by omega)] at c3
              rw [half_lo P _ (q + j) (q + j - m - 1) hF (by omega) (by omega)] at c4
              have f1 := hown3.frozenAt (q + j)
              have H := undo_at 3 m P hB (q + j) (by omega) _ (fore_grad (by decide) (by decide) p1 p2 (fun h => h.elim p3 (by decide)))
              have S := hide (half_set P (filt 3 m P) (q + j) hF (by omega))
              have O := hide (own_set hown3 (q + j) (P.getD (q + j) 0))
              clear p1 p2 p3 hown3
              generalize P.getD (q + j) 0 = r at *
              generalize (filt 3 m P).getD (q + j) 0 = x at *
              have b2 := hB (q + j - 1)
              have b3 := hB (q + j - m)
              have b4 := hB (q + j - m - 1)
              generalize P.getD (q + j - 1) 0 = y at *
              generalize P.getD (q + j - m) 0 = z at *
              generalize P.getD (q + j - m - 1) 0 = v at *
              unfold heldI at H
              by_cases s1 : y + z - v < 0
              · rw [if_pos s1] at H
                replace H := hide H
                go_wp2
                go_roundw
                case rel =>
                  refine ⟨j + 1, by omega, by omega, by go_num, ?_, hupd3.setCell (.inl (by simp)) _⟩
                  rw [← Nat.add_assoc, ← S.out]
                  have E : ∀ y, y = r → World.ownsRow (wr.setCell ⟨g, q + j, none⟩ (Value.int .u8 y)) base 5 1 (.slice (some ⟨g, 0, none⟩) n cap) n (((half P (filt 3 m P) (q + j)).set (q + j) r).map (Value.int .u8)) := by
                    rintro _ rfl
                    exact O.out
                  exact E _ (by have := H.out; omega)
                case measure => simp [intOf]; omega
              · rw [if_neg s1] at H
                by_cases s2 : y + z - v > 255
                · rw [if_pos s2] at H
                  replace H := hide H
                  go_wp2
                  go_roundw
                  case rel =>
                    refine ⟨j + 1, by omega, by omega, by go_num, ?_, hupd3.setCell (.inl (by simp)) _⟩
                    rw [← Nat.add_assoc, ← S.out]
                    have E : ∀ y, y = r → World.ownsRow (wr.setCell ⟨g, q + j, none⟩ (Value.int .u8 y)) base 5 1 (.slice (some ⟨g, 0, none⟩) n cap) n (((half P (filt 3 m P) (q + j)).set (q + j) r).map (Value.int .u8)) := by
                      rintro _ rfl
                      exact O.out
                    exact E _ (by have := H.out; omega)
                  case measure => simp [intOf]; omega
                · rw [if_neg s2] at H
                  replace H := hide H
                  go_wp2
                  go_roundw
                  case rel =>
                    refine ⟨j + 1, by omega, by omega, by go_num, ?_, hupd3.setCell (.inl (by simp)) _⟩
                    rw [← Nat.add_assoc, ← S.out]
                    have E : ∀ y, y = r → World.ownsRow (wr.setCell ⟨g, q + j, none⟩ (Value.int .u8 y)) base 5 1 (.slice (some ⟨g, 0, none⟩) n cap) n (((half P (filt 3 m P) (q + j)).set (q + j) r).map (Value.int .u8)) := by
                      rintro _ rfl
                      exact O.out
                    exact E _ (by have := H.out; omega)
                  case measure => simp [intOf]; omega
            · have hjm : j = m := by omega
              subst hjm
              go_wp2
              go_roundw
              case rel => exact ⟨q + j, by rw [Nat.add_mod_right]; exact hq1, by omega, by omega, by go_num, hown3, hupd3⟩
              case measure => simp [intOf]; omega
        · have hqn : q = n := by omega
          subst hqn
          go_wp2
          go_end0
          refine ⟨rfl, ?_, hupd2⟩
          rw [← hn, half_all P _ hF] at hown2
          rw [← hn]
          exact hown2
set_option maxHeartbeats 400000 in
set_option maxRecDepth 100000 in
theorem unfilter_0 (g n cap W : Nat) (w : World) (hn : 1 ≤ n) (hW : 1 ≤ W) :
    Calls Try.prog 23 #[.slice (some ⟨g, 0, none⟩) n cap, .int .i64 W, .int .u8 0] w fun e w' => e = .returned (.tuple #[]) ∧ w = w' := by
  have hl0 : ((n : Int) == 0) = false := by simp; omega
  have hw0 : ((W : Int) == 0) = false := by simp; omega
  go_enter Try.func23, Try.ntmps23
  go_wp2
  go_end0
  exact ⟨rfl, rfl⟩
end Go.Proofs.Ytldilncpenellaa

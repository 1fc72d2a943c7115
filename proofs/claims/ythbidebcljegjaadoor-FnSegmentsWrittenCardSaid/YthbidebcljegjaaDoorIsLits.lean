/- 'isLiterals': the walk. -/
import Derived.Test.YthbidebcljegjaaDoorLitPlain
import Derived.Test.YthbidebcljegjaaDoorEdge
namespace Go.Proofs.YthbidebcljegjaaDoor
set_option linter.unusedSimpArgs false
set_option linter.unusedVariables false
open Go.RowKit

def litOk (zs : List Int) (i : Nat) : Bool := decide (0 ≤ zs.getD (3 * i) 0 ∧ zs.getD (3 * i) 0 ≤ 2 ∧ 0 ≤ zs.getD (3 * i + 1) 0 ∧ zs.getD (3 * i + 1) 0 ≤ 255 ∧ 0 ≤ zs.getD (3 * i + 2) 0 ∧ zs.getD (3 * i + 2) 0 ≤ 24)
def litsOk (zs : List Int) (n : Nat) : Bool := (List.range n).all fun i => litOk zs i
def litsB (zs : List Int) (n : Nat) : Bool := decide ((n : Int) ≤ 4096) && litsOk zs n
theorem litsOk_succ (zs : List Int) (n : Nat) : litsOk zs (n + 1) = (litsOk zs n && litOk zs n) := by simp [litsOk, List.range_succ]
theorem litsOk_no {zs : List Int} {n i : Nat} (hi : i < n) (h : litOk zs i = false) : litsOk zs n = false := by
  unfold litsOk
  rw [List.all_eq_false]
  exact ⟨i, by simpa using hi, by simp [h]⟩
theorem lits_of {zs : List Int} {n : Nat} (hl : zs.length = n * 3) (h : litsOk zs n = true) : Lits zs n := by
  have key : ∀ i, i < n → litOk zs i = true := fun i hi => (List.all_eq_true.1 h) i (by simpa using hi)
  refine ⟨hl, fun i hi => ?_, fun i hi => ?_, fun i hi => ?_⟩
  all_goals
    have h1 := key i hi
    unfold litOk at h1
    have h2 := of_decide_eq_true h1
    omega

set_option maxRecDepth 100000 in
set_option maxHeartbeats 4000000 in
theorem isLits_any (A : Option Addr) (cap n B : Nat) (zs : List Int) (w : World) (hl : zs.length = n * 3) (hn : (n : Int) ≤ 9223372036854775807) (hr : Rd .i64 w B A zs) :
    Calls Tryd.prog 9 #[.slice A n cap] w fun e w' => e = .returned (.bool (litsB zs n)) ∧ w = w' := by
  by_cases h1 : (n : Int) ≤ 4096
  · have hE : litsB zs n = litsOk zs n := by simp [litsB, h1]
    rw [hE]
    clear hE
    replace hl := hide hl
    go_enter Tryd.func9, Tryd.ntmps9
    go_wp2
    go_loopg [3] n (fun k u3 wr => ∃ m : Nat, k + m = n ∧ u3 = .int .i64 m ∧ litsOk zs m = true ∧ w = wr)
    case atStart => exact ⟨0, rfl, rfl, rfl, rfl⟩
    case round =>
      obtain ⟨i, hi, rfl, hok, rfl⟩ := hrel
      cases gk with
      | zero =>
        have hi' : i = n := by omega
        subst hi'
        replace hok := hide hok
        clear hr
        go_wp2
        go_ret
        exact ⟨ret_b hok.out.symm, rfl⟩
      | succ k =>
        have hlt : (i : Int) < (n : Int) := by omega
        have hin : i < n := by omega
        have hzl := hl.out
        obtain ⟨b, off, rfl, _, hc⟩ := hr.at_ (j := 3 * i) (by omega)
        have k0 := hc (3 * i) (by omega)
        have k1 := hc (3 * i + 1) (by omega)
        have k2 := hc (3 * i + 2) (by omega)
        have hs := litsOk_succ zs i
        have hno := @litsOk_no zs n i hin
        rw [hok] at hs
        unfold litOk at hs hno
        clear hc hzl
        rw [show off + 3 * i = off + i * 3 by omega] at k0
        rw [show off + (3 * i + 1) = off + i * 3 + 1 by omega] at k1
        rw [show off + (3 * i + 2) = off + i * 3 + 2 by omega] at k2
        generalize zs.getD (3 * i) 0 = c at *
        generalize zs.getD (3 * i + 1) 0 = p at *
        generalize zs.getD (3 * i + 2) 0 = s at *
        replace hok := hide hok
        by_cases hg : 0 ≤ c ∧ c ≤ 2 ∧ 0 ≤ p ∧ p ≤ 255 ∧ 0 ≤ s ∧ s ≤ 24
        · have hs2 : litsOk zs (i + 1) = true := by rw [hs, decide_eq_true hg]; rfl
          replace hs2 := hide hs2
          obtain ⟨g1, g2, g3, g4, g5, g6⟩ := hg
          clear hs hno
          go_wp2
          go_roundg k
          case measure => omega
          case rel => exact ⟨i + 1, by omega, by go_num, hs2.out, rfl⟩
        · have hno2 := hide (hno (decide_eq_false hg))
          replace hs := hide hs
          have hd : c < 0 ∨ (0 ≤ c ∧ 2 < c) ∨ (0 ≤ c ∧ c ≤ 2 ∧ p < 0) ∨ (0 ≤ c ∧ c ≤ 2 ∧ 0 ≤ p ∧ 255 < p) ∨ (0 ≤ c ∧ c ≤ 2 ∧ 0 ≤ p ∧ p ≤ 255 ∧ s < 0) ∨ (0 ≤ c ∧ c ≤ 2 ∧ 0 ≤ p ∧ p ≤ 255 ∧ 0 ≤ s ∧ 24 < s) := by omega
          clear hno hg
          rcases hd with g1 | ⟨g1, g2⟩ | ⟨g1, g2, g3⟩ | ⟨g1, g2, g3, g4⟩ | ⟨g1, g2, g3, g4, g5⟩ | ⟨g1, g2, g3, g4, g5, g6⟩
          all_goals
            go_wp2
            go_ret
            exact ⟨ret_b hno2.out.symm, rfl⟩
  · have hE : litsB zs n = false := by simp [litsB, h1]
    replace hE := hide hE
    clear hr
    go_enter Tryd.func9, Tryd.ntmps9
    go_wp2
    go_ret
    exact ⟨ret_b hE.out.symm, rfl⟩
end Go.Proofs.YthbidebcljegjaaDoor

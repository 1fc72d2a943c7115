/- 'inRange': the walk. -/
import Derived.Test.YtpiapfahcoopbaaDoorRdB
namespace Go.Proofs.YtpiapfahcoopbaaDoor
set_option linter.unusedSimpArgs false
set_option linter.unusedVariables false
open Go.RowKit

/-- All of a list's numbers lie between two. -/
def within (lo hi : Int) (l : List Int) : Bool := l.all fun x => decide (lo ≤ x ∧ x ≤ hi)

set_option maxHeartbeats 1000000 in
theorem inRange_any (A : Option Addr) (c B : Nat) (l : List Int) (lo hi : Int) (w : World) (hl : l.length ≤ 9223372036854775807) (hr : Rd .i64 w B A l) :
    Calls Tryd.prog 9 #[.slice A l.length c, .int .i64 lo, .int .i64 hi] w fun e w' => e = .returned (.bool (within lo hi l)) ∧ w = w' := by
  go_enter Tryd.func9, Tryd.ntmps9
  go_wp2
  go_loopw [7] (fun i wr => ∃ k : Nat, k ≤ l.length ∧ i = .int .i64 k ∧ within lo hi l = within lo hi (l.drop k) ∧ wr = w) (fun i _ => l.length - (intOf i).toNat)
  case atStart => exact ⟨0, by omega, rfl, rfl, rfl⟩
  case round =>
    obtain ⟨k, hk, rfl, hin, rfl⟩ := hrel
    by_cases hlt : k < l.length
    · obtain ⟨b, off, rfl, hb, hc⟩ := hr.at_ hlt
      have ck := hc k hlt
      have hd : l.drop k = l.getD k 0 :: l.drop (k + 1) := by
        rw [List.drop_eq_getElem_cons hlt]
        simp [hlt]
      rw [hd] at hin
      clear hc hd
      generalize l.getD k 0 = x at *
      by_cases h1 : x < lo
      · have hE : within lo hi (x :: l.drop (k + 1)) = false := by simp [within]; omega
        rw [hE] at hin
        replace hin := hide hin
        clear hE
        go_wp2
        go_ret
        exact ⟨by rw [hin.out]; rfl, rfl⟩
      · by_cases h2 : hi < x
        · have hE : within lo hi (x :: l.drop (k + 1)) = false := by simp [within]; omega
          rw [hE] at hin
          replace hin := hide hin
          clear hE
          go_wp2
          go_ret
          exact ⟨by rw [hin.out]; rfl, rfl⟩
        · have hE : within lo hi (x :: l.drop (k + 1)) = within lo hi (l.drop (k + 1)) := by simp [within]; omega
          rw [hE] at hin
          replace hin := hide hin
          clear hE
          go_wp2
          go_roundw
          case rel => exact ⟨k + 1, by omega, by go_num, hin.out, trivial⟩
          case measure => simp [intOf]; omega
    · have hE : within lo hi l = true := by
        rw [hin, List.drop_eq_nil_of_le (by omega)]; rfl
      replace hE := hide hE
      clear hin
      go_wp2
      go_ret
      exact ⟨by rw [hE.out]; rfl, rfl⟩

end Go.Proofs.YtpiapfahcoopbaaDoor

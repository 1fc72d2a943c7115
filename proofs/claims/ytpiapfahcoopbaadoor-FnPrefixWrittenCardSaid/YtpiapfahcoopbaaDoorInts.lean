/- 'bytes': lists of numbers are compared. -/
import Derived.Test.YtpiapfahcoopbaaDoorRows
import Derived.Test.YtpiapfahcoopbaaDoorMem
import Derived.Outline
import Derived.Deep.QuietTactic
import Derived.BigQuiet
namespace Go.Proofs.YtpiapfahcoopbaaDoor
set_option linter.unusedSimpArgs false
set_option linter.unusedVariables false
open Go.RowKit
set_option maxHeartbeats 400000 in
theorem ints_same (A A' : Option Addr) (c c' : Nat) (l : List Int) (w : World) (B B' : Nat) (hl : l.length ≤ 9223372036854775807) (h : Rd .i64 w B A l) (h' : Rd .i64 w B' A' l) :
    Calls Tryd.prog 13 #[.slice A l.length c, .slice A' l.length c'] w fun e w' => e = .returned (.bool true) ∧ ∃ n, w.drewN n = w' := by
  go_enter Tryd.func13, Tryd.ntmps13
  go_wp2
  go_loopw [5] (fun i wr => ∃ k n : Nat, k ≤ l.length ∧ i = .int .i64 k ∧ wr = w.drewN n) (fun i _ => l.length - (intOf i).toNat)
  case atStart => exact ⟨0, 0, Nat.zero_le _, rfl, rfl⟩
  case round =>
    obtain ⟨k, n, hk, rfl, rfl⟩ := hrel
    by_cases hlt : k < l.length
    · obtain ⟨b, off, rfl, _, hc⟩ := h.at_ hlt
      obtain ⟨b', off', rfl, _, hc'⟩ := h'.at_ hlt
      have h1 := hc k hlt
      have h2 := hc' k hlt
      clear hc hc' h h'
      generalize l.getD k 0 = x at h1 h2
      go_wp2
      go_quiet (fail)
      go_wp2
      go_roundw
      case rel => exact ⟨k + 1, _, by omega, by go_num, rfl⟩
      case measure => simp [intOf]; omega
    · go_wp2
      go_ret
      exact ⟨rfl, n, rfl⟩
end Go.Proofs.YtpiapfahcoopbaaDoor

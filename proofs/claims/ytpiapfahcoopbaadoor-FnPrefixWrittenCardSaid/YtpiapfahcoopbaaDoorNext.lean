/- 'hTree.next': all ways. -/
import Derived.Test.YtpiapfahcoopbaaDoorNextA
import Derived.Test.YtpiapfahcoopbaaDoorNextB
import Derived.Test.YtpiapfahcoopbaaDoorNextC
namespace Go.Proofs.YtpiapfahcoopbaaDoor
set_option linter.unusedSimpArgs false
set_option linter.unusedVariables false
open Go.RowKit Plain

theorem next_any (g nt ct gd r base cap i pos nb bt : Nat) (A : Option Addr) (L Bs : List Nat) (ns : List Nd) (lt : Nat → Nat) (ae au : Addr) (w : World) (hL : ∀ x ∈ L, x ≤ 15) (hk : kS L 15 = 32768) (hN : L.length ≤ 4096) (hDn : Done L w g nt ct ns lt) (hB : Oct Bs) (hlen : (Bs.length : Int) ≤ 1073741824) (hK : Kept Bs i pos nb bt) (hnb : nb ≤ 31) (hD : Dec w gd r A Bs.length cap i nb bt) (hS : Rd .u8 w base A (ofN' Bs)) (hbw : base ≤ w.heap.size) (hE : Ends w ae au)
    (hg : base ≤ gd) (hr : base ≤ r) (hgr : gd ≠ r) (hge : gd ≠ 0 ∧ gd ≠ 1 ∧ r ≠ 0 ∧ r ≠ 1) (hd1 : g ≠ gd ∧ g ≠ r ∧ nt ≠ gd ∧ nt ≠ r) :
    Calls Tryd.prog 68 #[.pointer (some ⟨g, 0, none⟩), .pointer (some ⟨gd, 0, none⟩)] w (NextPost L Bs pos gd r cap A au w) := by
  by_cases h7 : nb < 7
  · by_cases hi : i < Bs.length
    · exact next_b g nt ct gd r base cap i pos nb bt A L Bs ns lt ae au w hL hk hN hDn hB hlen hK hnb hD hS hbw hE hg hr hgr hge hd1 h7 hi
    · exact next_c g nt ct gd r base cap i pos nb bt A L Bs ns lt ae au w hL hk hN hDn hB hlen hK hnb hD hS hbw hE hg hr hgr hge hd1 h7 hi
  · exact next_a g nt ct gd r base cap i pos nb bt A L Bs ns lt ae au w hL hk hN hDn hB hlen hK hnb hD hS hbw hE hg hr hgr hge hd1 (by omega)
end Go.Proofs.YtpiapfahcoopbaaDoor

/- 'hTree.insert': both kinds. -/
import Derived.Test.YtpiapfahcoopbaaDoorInsShort
import Derived.Test.YtpiapfahcoopbaaDoorInsLong
namespace Go.Proofs.YtpiapfahcoopbaaDoor
set_option linter.unusedSimpArgs false
set_option linter.unusedVariables false
open Go.RowKit Plain

theorem insert_any (g nb cap k l c : Nat) (L : List Nat) (ns : List Nd) (lt : Nat → Nat) (ae : Addr) (w : World) (hL : ∀ x ∈ L, x ≤ 15) (hk : kS L 15 ≤ 32768) (hU : Used L k) (hk4 : k < 4096) (hl : L.getD k 0 = l) (hc : c % 2 ^ l = codeG L k) (hcb : c ≤ 268500000) (hT : Tree L k ns) (hLu : LutK L k ns lt) (hM : TreeM w g nb cap ns lt) (hcap : cap ≤ 8191) (hcz : cap = 2 * nz L - 1) (hTab : TabH w ae)
    (hg1 : g ≠ 4) (hg2 : g ≠ 2) (hn1 : nb ≠ 4) (hn2 : nb ≠ 2) :
    Calls Tryd.prog 67 #[.pointer (some ⟨g, 0, none⟩), .int .u32 k, .int .u32 c, .int .u32 l] w (InsPost g nb cap k L ae w) := by
  by_cases h7 : l ≤ 7
  · exact insert_short g nb cap k l c L ns lt ae w hL hk hU hk4 hl hc hcb hT hLu hM hcap hcz hTab hg1 hg2 hn1 hn2 h7
  · exact insert_long g nb cap k l c L ns lt ae w hL hk hU hk4 hl hc hcb hT hLu hM hcap hcz hTab hg1 hg2 hn1 hn2 h7
end Go.Proofs.YtpiapfahcoopbaaDoor

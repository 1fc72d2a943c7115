/- The law FnRiffLists over what came in. -/
import Derived.Test.YthkpoidnhgcjhaaDoorRfCard
import Derived.Test.YthkpoidnhgcjhaaDoorRfLawL
namespace Go.Proofs.YthkpoidnhgcjhaaDoor
set_option linter.unusedSimpArgs false
set_option linter.unusedVariables false
open Go.RowKit Plain Go.ChangeShapes Go.WideShapes

/-- The law FnRiffLists over what came in. -/
theorem lists_card (l0 l1 l3 : List Int) (A1 A2 A3 : Option Addr) (len1 c1 c2 c3 : Nat) (L2 : List (List Nat)) (W : World) (hn0 : l0.length = 4) (hw0 : ∀ z ∈ l0, (Lit.int .u8 z).wf = true) (hl1 : l1.length = len1 * 4) (hr1 : Rd .u8 W W.heap.size A1 l1) (hw1 : ∀ z ∈ l1, (Lit.int .u8 z).wf = true) (hm1 : len1 ≤ 9223372036854775807)
    (hr2 : RdR W W.heap.size A2 L2) (hb2 : ∀ d ∈ L2, ∀ x ∈ d, x ≤ 255) (hn2 : ∀ d ∈ L2, (d.length : Int) ≤ 9223372036854775807) (hm2 : (L2.length : Int) ≤ 9223372036854775807)
    (hr3 : Rd .i64 W W.heap.size A3 l3) (hw3 : ∀ z ∈ l3, (Lit.int .i64 z).wf = true) (hm3 : l3.length ≤ 9223372036854775807) (hE : ∃ ae au ar ad al ap ah, Errs W W.heap.size ae au ar ad al ap ah) :
    Calls Tryd.prog 4 #[.agg (l0.map (Value.int .u8)).toArray, .slice A1 len1 c1, .slice A2 L2.length c2, .slice A3 l3.length c3] W fun e w' => e = .returned (.bool true) ∧ Below W.heap.size W w' := by
  obtain ⟨f0, f1, f2, f3, hf, hfb⟩ := four_of hn0 (fun z hz => Go.bounds_u8 (hw0 z hz))
  obtain ⟨h1, h2⟩ := nr_of (fun z hz => Go.bounds_u8 (hw1 z hz))
  obtain ⟨ae, au, ar, ad, al, ap, ah, hE⟩ := hE
  rw [hf]
  exact (lists_law f0 f1 f2 f3 A1 A2 A3 len1 c1 c2 c3 (l1.map Int.toNat) L2 l3 ae au ar ad al ap ah W hfb (by rw [h1]; exact hr1) (by rw [List.length_map, hl1]) h2 (by omega) hr2 hm2 hn2 hb2 hr3 (by omega) (fun x hx => Go.bounds_i64 (hw3 x hx)) hE).mono fun e w' h => ⟨h.1, h.2.toBelow⟩
end Go.Proofs.YthkpoidnhgcjhaaDoor

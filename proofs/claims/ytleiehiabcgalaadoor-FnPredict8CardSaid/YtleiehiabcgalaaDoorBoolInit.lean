/- The boolean reader: set up, and the doors of it. -/
import Derived.Test.YtleiehiabcgalaaDoorBoolBit
namespace Go.Proofs.YtleiehiabcgalaaDoor
set_option linter.unusedSimpArgs false
set_option linter.unusedVariables false
open Go.RowKit Plain

set_option maxHeartbeats 1000000 in
theorem init_any (g o : Nat) (A A0 : Option Addr) (len cap len0 cap0 : Nat) (s0 : DS) (eof : Bool) (w : World) (hD : DAt w g o A0 len0 cap0 s0 eof) :
    Calls Tryd.prog 61 #[.pointer (some ⟨g, o, none⟩), .slice A len cap] w fun x w' => x = .returned (.tuple #[]) ∧ DAt w' g o A len cap DS.start false ∧ Only g o 6 w w' := by
  obtain ⟨c0, c1, c2, c3, c4, c5, f0, f1, f2, f3, f4, f5⟩ := id hD
  go_enter Tryd.func61, Tryd.ntmps61
  go_wp2
  go_end0
  refine ⟨rfl, (((((hD.set0 A len cap).set1 0 0 rfl).set2 254 254 rfl).set3 0 0 rfl).set4 0 0 rfl).set5 false, ?_⟩
  exact ((((((Only.refl g o 6 w).setCell o (by omega) (by omega) _).setCell (o + 1) (by omega) (by omega) _).setCell (o + 2) (by omega) (by omega) _).setCell (o + 3) (by omega) (by omega) _).setCell (o + 4) (by omega) (by omega) _).setCell (o + 5) (by omega) (by omega) _

theorem doorInit_any (g o : Nat) (A A0 : Option Addr) (len cap len0 cap0 : Nat) (s0 : DS) (eof : Bool) (w : World) (hD : DAt w g o A0 len0 cap0 s0 eof) :
    Calls Tryd.prog 33 #[.pointer (some ⟨g, o, none⟩), .slice A len cap] w fun x w' => x = .returned (.tuple #[]) ∧ DAt w' g o A len cap DS.start false ∧ Only g o 6 w w' := by
  have c := init_any g o A A0 len cap len0 cap0 s0 eof w hD
  clear hD
  go_enter Tryd.func33, Tryd.ntmps33
  go_wp2_with (first | (go_at_call 61; refine c.mono ?_; rintro e w1 ⟨rfl, hD1, hO1⟩) | go_in)
  go_end0
  exact ⟨rfl, hD1, hO1⟩

theorem bools_new (A : Option Addr) (len cap : Nat) (w : World) :
    Calls Tryd.prog 21 #[.slice A len cap] w fun x w' => x = .returned (.pointer (some ⟨w.heap.size, 0, none⟩)) ∧ DAt w' w.heap.size 0 A len cap DS.start false ∧ Below w.heap.size w w' ∧ ∃ cs, Blk w' w.heap.size 58 cs := by
  have hB := Blk.new w 58 #[.slice none 0 0, .int .i64 0, .int .u32 0, .int .u32 0, .int .u8 0, .bool false]
  have hD0 : DAt (w.alloc (.cells #[.slice none 0 0, .int .i64 0, .int .u32 0, .int .u32 0, .int .u8 0, .bool false] 58)) w.heap.size 0 none 0 0 ⟨0, 0, 0, 0⟩ false :=
    ⟨hB.cell 0, hB.cell 1, hB.cell 2, hB.cell 3, hB.cell 4, hB.cell 5, hB.frozen 0, hB.frozen 1, hB.frozen 2, hB.frozen 3, hB.frozen 4, hB.frozen 5⟩
  replace hB := hide hB
  replace hD0 := hide hD0
  go_enter Tryd.func21, Tryd.ntmps21
  go_wp2_with (first | (go_at_call 33; refine (doorInit_any w.heap.size 0 A none len cap 0 0 _ _ _ hD0.out).mono ?_; rintro e w1 ⟨rfl, hD1, hO1⟩; replace hD1 := hide hD1; replace hO1 := hide hO1) | go_in)
  go_ret
  refine ⟨rfl, hD1.out, ?_, hO1.out.typ _ _ hB.out⟩
  exact ((Below.refl w.heap.size w).alloc (Nat.le_refl _) _).trans (hO1.out.upd.below (by simp) (by simp))

theorem doorBit_any (g o : Nat) (A : Option Addr) (cap : Nat) (bytes : List Nat) (s : DS) (v : Iv) (e : Bool × Nat) (w : World) (hb : IsBy bytes) (h : s.tells bytes v) (hv : v.ok) (hp : e.2 ≤ 255)
    (hh : Holds bytes v) (hs : Holds bytes (v.step e)) (hlen : bytes.length ≤ 100000000) (hS : Src w g A bytes) (hL : Luts w) (hg : g ≠ 0 ∧ g ≠ 1) (hD : DAt w g o A bytes.length cap s false) :
    Calls Tryd.prog 22 #[.pointer (some ⟨g, o, none⟩), .int .u8 e.2] w fun x w' => x = .returned (.bool e.1) ∧
      (((s.load bytes).cut e.2).2.norm).tells bytes (v.step e) ∧ DAt w' g o A bytes.length cap (((s.load bytes).cut e.2).2.norm) false ∧ Only g o 6 w w' := by
  have c := readBit_any g o A cap bytes s v e w hb h hv hp hh hs hlen hS hL hg hD
  clear hb h hv hp hh hs hlen hS hL hg hD
  go_enter Tryd.func22, Tryd.ntmps22
  go_wp2_with (first | (go_at_call 34; refine c.mono ?_; rintro e w1 ⟨rfl, ht1, hD1, hO1⟩; replace ht1 := hide ht1; replace hD1 := hide hD1; replace hO1 := hide hO1) | go_in)
  go_ret
  exact ⟨rfl, ht1.out, hD1.out, hO1.out⟩

theorem doorEnded_any (g o : Nat) (A : Option Addr) (len cap : Nat) (s : DS) (w : World) (hD : DAt w g o A len cap s false) :
    Calls Tryd.prog 23 #[.pointer (some ⟨g, o, none⟩)] w fun x w' => x = .returned (.bool false) ∧ w = w' := by
  obtain ⟨c0, c1, c2, c3, c4, c5, f0, f1, f2, f3, f4, f5⟩ := id hD
  go_enter Tryd.func23, Tryd.ntmps23
  go_wp2
  go_ret
  exact ⟨rfl, rfl⟩
end Go.Proofs.YtleiehiabcgalaaDoor

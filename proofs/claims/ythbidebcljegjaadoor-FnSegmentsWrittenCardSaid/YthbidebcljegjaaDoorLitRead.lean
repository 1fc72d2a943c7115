/- Numbers with a truth ahead that tells whether there is one; the doors. The walks. -/
import Derived.Test.YthbidebcljegjaaDoorEvents
namespace Go.Proofs.YthbidebcljegjaaDoor
set_option linter.unusedSimpArgs false
set_option linter.unusedVariables false
open Go.RowKit Plain

set_option maxHeartbeats 1000000 in
theorem readOpt0_ev (g o : Nat) (A : Option Addr) (cap : Nat) (bytes : List Nat) (dn rs : List (Bool × Nat)) (p s : Nat) (w : World) (R : Rdr w g o A cap bytes dn ((false, p) :: rs)) :
    Calls Tryd.prog 56 #[.pointer (some ⟨g, o, none⟩), .int .u8 p, .int .u8 s] w fun x w' => x = .returned (.int .i32 0) ∧ Rdr w' g o A cap bytes (dn ++ [(false, p)]) rs ∧ Only g o 6 w w' := by
  have cB := readBit_ev g o A cap bytes dn rs false p w R
  clear R
  go_enter Tryd.func56, Tryd.ntmps56
  go_wp2_with (first
    | (go_at_call 71; refine cB.mono ?_; rintro e w2 ⟨rfl, hR2, hO2⟩; replace hR2 := hide hR2; replace hO2 := hide hO2)
    | fail)
  go_ret
  exact ⟨rfl, hR2.out, hO2.out⟩
set_option maxHeartbeats 1000000 in
theorem readOpt1_ev (g o : Nat) (A : Option Addr) (cap : Nat) (bytes : List Nat) (dn rs : List (Bool × Nat)) (n p s : Nat) (b : Bool) (w : World) (hn : n < 2 ^ s) (hs : s ≤ 24) (R : Rdr w g o A cap bytes dn ((true, p) :: (signEv n p s b ++ rs))) :
    Calls Tryd.prog 56 #[.pointer (some ⟨g, o, none⟩), .int .u8 p, .int .u8 s] w fun x w' => x = .returned (.int .i32 (if b then -(n : Int) else (n : Int))) ∧ Rdr w' g o A cap bytes (dn ++ (true, p) :: signEv n p s b) rs ∧ Only g o 6 w w' := by
  have cB := readBit_ev g o A cap bytes dn (signEv n p s b ++ rs) true p w R
  have cI := fun w' => readInt_ev g o A cap bytes (dn ++ [(true, p)]) rs n p s b w' hn hs
  generalize (if b then -(n : Int) else (n : Int)) = y at *
  replace cI := hide cI
  clear R
  go_enter Tryd.func56, Tryd.ntmps56
  go_wp2_with (first
    | (go_at_call 71; refine cB.mono ?_; rintro e w2 ⟨rfl, hR2, hO2⟩; replace hR2 := hide hR2; replace hO2 := hide hO2)
    | (go_at_call 55; refine (cI.out _ hR2.out).mono ?_; rintro e w3 ⟨rfl, hR3, hO3⟩; replace hR3 := hide hR3; replace hO3 := hide hO3)
    | fail)
  go_ret
  exact ⟨rfl, by simpa using hR3.out, hO2.out.trans hO3.out⟩

theorem doorUint_ev (g o : Nat) (A : Option Addr) (cap : Nat) (bytes : List Nat) (dn rs : List (Bool × Nat)) (n p s : Nat) (w : World) (hn : n < 2 ^ s) (hs : s ≤ 24) (R : Rdr w g o A cap bytes dn (bitsOf n p s ++ rs)) :
    Calls Tryd.prog 35 #[.pointer (some ⟨g, o, none⟩), .int .u8 p, .int .u8 s] w fun x w' => x = .returned (.int .u32 n) ∧ Rdr w' g o A cap bytes (dn ++ bitsOf n p s) rs ∧ Only g o 6 w w' := by
  have c := readUint_ev g o A cap bytes dn rs n p s w hn hs R
  clear R hn hs
  go_enter Tryd.func35, Tryd.ntmps35
  go_wp2_with (first | (go_at_call 54; refine c.mono ?_; rintro e w2 ⟨rfl, hR2, hO2⟩; replace hR2 := hide hR2; replace hO2 := hide hO2) | fail)
  go_ret
  exact ⟨rfl, hR2.out, hO2.out⟩
theorem doorInt_ev (g o : Nat) (A : Option Addr) (cap : Nat) (bytes : List Nat) (dn rs : List (Bool × Nat)) (n p s : Nat) (b : Bool) (w : World) (hn : n < 2 ^ s) (hs : s ≤ 24) (R : Rdr w g o A cap bytes dn (signEv n p s b ++ rs)) :
    Calls Tryd.prog 36 #[.pointer (some ⟨g, o, none⟩), .int .u8 p, .int .u8 s] w fun x w' => x = .returned (.int .i32 (if b then -(n : Int) else (n : Int))) ∧ Rdr w' g o A cap bytes (dn ++ signEv n p s b) rs ∧ Only g o 6 w w' := by
  have c := readInt_ev g o A cap bytes dn rs n p s b w hn hs R
  generalize (if b then -(n : Int) else (n : Int)) = y at *
  clear R hn hs
  go_enter Tryd.func36, Tryd.ntmps36
  go_wp2_with (first | (go_at_call 55; refine c.mono ?_; rintro e w2 ⟨rfl, hR2, hO2⟩; replace hR2 := hide hR2; replace hO2 := hide hO2) | fail)
  go_ret
  exact ⟨rfl, hR2.out, hO2.out⟩
/-- The third kind, as it is written. -/
def optEv (n p s : Nat) (b : Bool) : List (Bool × Nat) := if n = 0 then [(false, p)] else (true, p) :: signEv n p s b
theorem readOpt_ev (g o : Nat) (A : Option Addr) (cap : Nat) (bytes : List Nat) (dn rs : List (Bool × Nat)) (n p s : Nat) (b : Bool) (w : World) (hn : n < 2 ^ s) (hs : s ≤ 24) (R : Rdr w g o A cap bytes dn (optEv n p s b ++ rs)) :
    Calls Tryd.prog 56 #[.pointer (some ⟨g, o, none⟩), .int .u8 p, .int .u8 s] w fun x w' => x = .returned (.int .i32 (if b then -(n : Int) else (n : Int))) ∧ Rdr w' g o A cap bytes (dn ++ optEv n p s b) rs ∧ Only g o 6 w w' := by
  unfold optEv at *
  by_cases h0 : n = 0
  · subst h0
    simp only [if_true] at *
    have e : (if b then -((0 : Nat) : Int) else ((0 : Nat) : Int)) = 0 := by cases b <;> rfl
    rw [e]
    exact readOpt0_ev g o A cap bytes dn rs p s w R
  · simp only [h0, if_false] at *
    exact readOpt1_ev g o A cap bytes dn rs n p s b w hn hs R
theorem doorOpt_ev (g o : Nat) (A : Option Addr) (cap : Nat) (bytes : List Nat) (dn rs : List (Bool × Nat)) (n p s : Nat) (b : Bool) (w : World) (hn : n < 2 ^ s) (hs : s ≤ 24) (R : Rdr w g o A cap bytes dn (optEv n p s b ++ rs)) :
    Calls Tryd.prog 37 #[.pointer (some ⟨g, o, none⟩), .int .u8 p, .int .u8 s] w fun x w' => x = .returned (.int .i32 (if b then -(n : Int) else (n : Int))) ∧ Rdr w' g o A cap bytes (dn ++ optEv n p s b) rs ∧ Only g o 6 w w' := by
  have c := readOpt_ev g o A cap bytes dn rs n p s b w hn hs R
  generalize (if b then -(n : Int) else (n : Int)) = y at *
  clear R hn hs
  go_enter Tryd.func37, Tryd.ntmps37
  go_wp2_with (first | (go_at_call 56; refine c.mono ?_; rintro e w2 ⟨rfl, hR2, hO2⟩; replace hR2 := hide hR2; replace hO2 := hide hO2) | fail)
  go_ret
  exact ⟨rfl, hR2.out, hO2.out⟩
end Go.Proofs.YthbidebcljegjaaDoor

/- The normal filter: words, and the body of its loop. -/
import Derived.Test.YthbidebcljegjaaDoorFiltWalk
namespace Go.Proofs.YthbidebcljegjaaDoor
set_option linter.unusedSimpArgs false
set_option linter.unusedVariables false
open Go.RowKit

theorem clamp127_ex (x : Int) (w : World) : Calls Tryd.prog 73 #[.int .i64 x] w fun e w' => ∃ y, e = .returned (.int .i64 y) ∧ -128 ≤ y ∧ y ≤ 127 ∧ w = w' :=
  (clamp127_any x w).mono fun _ _ ⟨a, b⟩ => ⟨_, a, (clamp_bd (-128) 127 x (by decide)).1, (clamp_bd (-128) 127 x (by decide)).2, b⟩
theorem clamp15_ex (x : Int) (w : World) : Calls Tryd.prog 74 #[.int .i64 x] w fun e w' => ∃ y, e = .returned (.int .i64 y) ∧ -16 ≤ y ∧ y ≤ 15 ∧ w = w' :=
  (clamp15_any x w).mono fun _ _ ⟨a, b⟩ => ⟨_, a, (clamp_bd (-16) 15 x (by decide)).1, (clamp_bd (-16) 15 x (by decide)).2, b⟩
theorem clamp255_ex (x : Int) (w : World) : Calls Tryd.prog 75 #[.int .i64 x] w fun e w' => ∃ y, e = .returned (.int .u8 y) ∧ (0 ≤ y ∧ y ≤ 255) ∧ w = w' :=
  (clamp255_any x w).mono fun _ _ ⟨a, b⟩ => ⟨_, a, clamp_bd 0 255 x (by decide), b⟩

/-- Places that a filter may turn: of so many lines those from lo to hi. -/
def Near (c s st lo hi : Int) (lines : Nat) (k : Nat) : Prop := ∃ m : Nat, m < lines ∧ ∃ j : Int, lo ≤ j ∧ j ≤ hi ∧ (k : Int) = c + m * st + j * s
/-- Only places of S have turned, and bytes are bytes. -/
structure Tch (S : Nat → Prop) (P Q : List Int) : Prop where
  len : Q.length = P.length
  by_ : Bytes Q
  same : ∀ k, ¬ S k → Q.getD k 0 = P.getD k 0
theorem Tch.refl {S : Nat → Prop} {P : List Int} (h : Bytes P) : Tch S P P := ⟨rfl, h, fun _ _ => rfl⟩
theorem Tch.set {S : Nat → Prop} {P Q : List Int} (h : Tch S P Q) (i : Nat) (x : Int) (hS : S i) (hx : 0 ≤ x ∧ x ≤ 255) : Tch S P (Q.set i x) :=
  ⟨by simp [h.len], h.by_.set i x hx, fun k hk => by
    have hne : i ≠ k := fun e => hk (e ▸ hS)
    have := h.same k hk
    simp only [List.getD_eq_getElem?_getD, List.getElem?_set, hne, if_false] at *
    exact this⟩

/-- The places of so many lines, four on each side, lie in a row of n. -/
def Fits8 (n : Nat) (c s st : Int) (lines : Nat) : Prop := ∀ m : Nat, m < lines → ∀ j : Int, -4 ≤ j → j < 4 → 0 ≤ c + m * st + j * s ∧ c + m * st + j * s < n

/-- The first loop of a code. -/
def firstLoop : Code → Option Code
  | .loop c => some c
  | .seq a b => match firstLoop a with
    | some c => some c
    | none => firstLoop b
  | .block _ c => firstLoop c
  | .scope c => firstLoop c
  | .cond _ a b => match firstLoop a with
    | some c => some c
    | none => firstLoop b
  | _ => none
noncomputable def body246 : Code := (Tryd.f70.body.bind firstLoop).getD .skip
end Go.Proofs.YthbidebcljegjaaDoor

/- Predicting at 8: what is filled. No program in sight. -/
import Derived.Test.YtleiehiabcgalaaDoorSq8
namespace Go.Proofs.YtleiehiabcgalaaDoor
set_option linter.unusedSimpArgs false
set_option linter.unusedVariables false
open Go.RowKit Plain

/-- So much of the square is filled: whole rows below j, and of row j so many. -/
def Fil8 (cur : Array Value) (G : Nat → Nat → Int) (j i : Nat) : Prop := ∀ a b, b < 8 → (a < j ∨ (a = j ∧ b < i)) → cur[1650 + (1 + a) * 32 + (8 + b)]? = some (.int .u8 (G a b))
theorem Fil8.start (cur : Array Value) (G : Nat → Nat → Int) : Fil8 cur G 0 0 := fun a b _ h => by omega
theorem Fil8.line {cur : Array Value} {G : Nat → Nat → Int} {j : Nat} (h : Fil8 cur G j 8) : Fil8 cur G (j + 1) 0 := fun a b hb hc => h a b hb (by omega)
theorem Fil8.put {cur : Array Value} {G : Nat → Nat → Int} {j i : Nat} (h : Fil8 cur G j i) (hs : cur.size = 2482) (hj : j < 8) (hi : i < 8) (u : Int) (hu : u = G j i) : Fil8 (cur.setIfInBounds (1650 + (1 + j) * 32 + (8 + i)) (.int .u8 u)) G j (i + 1) := by
  intro a b hb hc
  by_cases e : a = j ∧ b = i
  · obtain ⟨rfl, rfl⟩ := e
    rw [set_eq _ _ _ _ (by omega) rfl, hu]
  · rw [set_ne _ _ _ _ (by omega)]
    exact h a b hb (by omega)
theorem Sq8.put {cur : Array Value} {cv : Int} {va vl : List Int} {na : Nat} (h : Sq8 cur cv va vl na 8) (hna : na ≤ 24) {j i : Nat} (hj : j < 8) (hi : i < 8) (u : Value) : Sq8 (cur.setIfInBounds (1650 + (1 + j) * 32 + (8 + i)) u) cv va vl na 8 :=
  ⟨by rw [Array.size_setIfInBounds]; exact h.size, by rw [set_ne _ _ _ _ (by omega)]; exact h.corner, fun k hk => by rw [set_ne _ _ _ _ (by omega)]; exact h.above k hk, fun k hk => by rw [set_ne _ _ _ _ (by omega)]; exact h.left k hk⟩
def sum8 (f : Nat → Int) : Nat → Int
  | 0 => 0
  | k + 1 => sum8 f k + f k
theorem sum8_bd (f : Nat → Int) (hf : ∀ k, 0 ≤ f k ∧ f k ≤ 255) : ∀ k : Nat, 0 ≤ sum8 f k ∧ sum8 f k ≤ 255 * k
  | 0 => by simp [sum8]
  | k + 1 => by
    have h := sum8_bd f hf k
    have := hf k
    simp only [sum8]
    omega
/-- What a predicting function does. -/
def Pred8 (w : World) (g : Nat) (G : Nat → Nat → Int) (e : Ending) (w' : World) : Prop := e = .returned (.tuple #[]) ∧ Upd [g] w w' ∧ ∃ cur', Blk w' g 100 cur' ∧ cur'.size = 2482 ∧ Fil8 cur' G 8 0
def clp8 (x : Int) : Int := if x < 0 then 0 else if 255 < x then 255 else x
end Go.Proofs.YtleiehiabcgalaaDoor

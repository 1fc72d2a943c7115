/- impl.Predict8 where all around is one value. -/
import Derived.Test.YtleiehiabcgalaaDoorDoor8
import Derived.Test.YtleiehiabcgalaaDoorPd8DC
import Derived.Test.YtleiehiabcgalaaDoorPd8TM
import Derived.Test.YtleiehiabcgalaaDoorPd8VE
import Derived.Test.YtleiehiabcgalaaDoorPd8HE
import Derived.Shelf.Abstract
namespace Go.Proofs.YtleiehiabcgalaaDoor
set_option linter.unusedSimpArgs false
set_option linter.unusedVariables false
open Go.RowKit Plain

theorem rep_getD8 (v : Int) (n k : Nat) (h : k < n) : (List.replicate n v).getD k 0 = v := by simp [h]
theorem rep_bd8 (v : Int) (n : Nat) (h : 0 ≤ v ∧ v ≤ 255) (k : Nat) : 0 ≤ (List.replicate n v).getD k 0 ∧ (List.replicate n v).getD k 0 ≤ 255 := by
  by_cases hk : k < n
  · rw [rep_getD8 v n k hk]; exact h
  · simp [hk]
theorem const8 (v : Int) (m : Nat) : (List.range m).map (fun _ => v) = List.replicate m v := by
  apply List.ext_getElem
  · simp
  · intro i h1 h2
    simp
theorem Pred8.congr {w : World} {g : Nat} {G G' : Nat → Nat → Int} (h : ∀ a b, a < 8 → b < 8 → G a b = G' a b) (e : Ending) (w' : World) (hp : Pred8 w g G e w') : Pred8 w g G' e w' := by
  obtain ⟨h1, h2, cur, h3, h4, h5⟩ := hp
  exact ⟨h1, h2, cur, h3, h4, fun a b hb hc => by rw [← h a b (by omega) hb]; exact h5 a b hb hc⟩
theorem sum8_rep (v : Int) (n : Nat) : ∀ k, k ≤ n → sum8 (fun j => (List.replicate n v).getD j 0) k = v * k
  | 0, _ => by simp [sum8]
  | k + 1, h => by
    have h1 := sum8_rep v n k (by omega)
    have h2 := rep_getD8 v n k (by omega)
    simp only [sum8]
    rw [h1, h2]
    push_cast
    rw [Int.mul_add]
    omega
theorem has8_0 : HasFn8 0 36 := ⟨fun _ => by kernel_rfl, enters_of Tryd.func36 (by kernel_rfl) rfl⟩
theorem fills8_0 (v : Int) (h : 0 ≤ v ∧ v ≤ 255) : Fills8 36 v (List.replicate 8 v) (List.replicate 8 v) (fun _ _ => v) := fun g cur w hD hS =>
  (predFunc8DC_any g 8 v (List.replicate 8 v) (List.replicate 8 v) cur w (by decide) (by decide) h (rep_bd8 v _ h) (rep_bd8 v _ h) hD hS).mono (Pred8.congr (by
    intro a b ha hb
    rw [sum8_rep v 8 8 (by decide)]
    try rw [sum8_rep v 8 8 (by decide)]
    push_cast
    omega))
theorem has8_1 : HasFn8 1 37 := ⟨fun _ => by kernel_rfl, enters_of Tryd.func37 (by kernel_rfl) rfl⟩
theorem fills8_1 (v : Int) (h : 0 ≤ v ∧ v ≤ 255) : Fills8 37 v (List.replicate 8 v) (List.replicate 8 v) (fun _ _ => v) := fun g cur w hD hS =>
  (predFunc8TM_any g 8 v (List.replicate 8 v) (List.replicate 8 v) cur w (by decide) (by decide) h (rep_bd8 v _ h) (rep_bd8 v _ h) hD hS).mono (Pred8.congr (by
    intro a b ha hb
    rw [rep_getD8 v _ a ha, rep_getD8 v _ b (by omega)]
    unfold clp8
    rw [if_neg (by omega), if_neg (by omega)]
    omega))
theorem has8_2 : HasFn8 2 38 := ⟨fun _ => by kernel_rfl, enters_of Tryd.func38 (by kernel_rfl) rfl⟩
theorem fills8_2 (v : Int) (h : 0 ≤ v ∧ v ≤ 255) : Fills8 38 v (List.replicate 8 v) (List.replicate 8 v) (fun _ _ => v) := fun g cur w hD hS =>
  (predFunc8VE_any g 8 v (List.replicate 8 v) (List.replicate 8 v) cur w (by decide) (by decide) h (rep_bd8 v _ h) (rep_bd8 v _ h) hD hS).mono (Pred8.congr (by
    intro a b ha hb
    exact rep_getD8 v _ b (by omega)))
theorem has8_3 : HasFn8 3 39 := ⟨fun _ => by kernel_rfl, enters_of Tryd.func39 (by kernel_rfl) rfl⟩
theorem fills8_3 (v : Int) (h : 0 ≤ v ∧ v ≤ 255) : Fills8 39 v (List.replicate 8 v) (List.replicate 8 v) (fun _ _ => v) := fun g cur w hD hS =>
  (predFunc8HE_any g 8 v (List.replicate 8 v) (List.replicate 8 v) cur w (by decide) (by decide) h (rep_bd8 v _ h) (rep_bd8 v _ h) hD hS).mono (Pred8.congr (by
    intro a b ha hb
    exact rep_getD8 v _ a ha))
theorem implFlat8 (M v : Int) (hM1 : 0 ≤ M) (hM2 : M < 4) (h : 0 ≤ v ∧ v ≤ 255) (Aa Al : Option Addr) (ca cl B : Nat) (w : World) (hB : B ≤ w.heap.size) (hra : Rd .u8 w B Aa (List.replicate 8 v)) (hrl : Rd .u8 w B Al (List.replicate 8 v)) :
    Calls Tryd.prog 8 #[.int .i64 M, .int .i64 v, .slice Aa 8 ca, .slice Al 8 cl] w fun e w' => ∃ s, e = .returned s ∧ w'.ownsRow w.heap.size 5 1 s 64 ((List.replicate 64 v).map (Value.int .u8)) ∧ Below w.heap.size w w' := by
  have he : rowQ8 (fun q => (fun (_ _ : Nat) => v) (q / 8) (q % 8)) 64 = List.replicate 64 v := const8 v _
  rw [← he]
  obtain rfl | rfl | rfl | rfl : M = 0 ∨ M = 1 ∨ M = 2 ∨ M = 3 := by omega
  · exact implPred8_any 0 _ Aa Al ca cl B v _ _ (fun _ _ => v) w h.1 h.2 has8_0 (fills8_0 v h) (by simp) (by simp) hB hra hrl
  · exact implPred8_any 1 _ Aa Al ca cl B v _ _ (fun _ _ => v) w h.1 h.2 has8_1 (fills8_1 v h) (by simp) (by simp) hB hra hrl
  · exact implPred8_any 2 _ Aa Al ca cl B v _ _ (fun _ _ => v) w h.1 h.2 has8_2 (fills8_2 v h) (by simp) (by simp) hB hra hrl
  · exact implPred8_any 3 _ Aa Al ca cl B v _ _ (fun _ _ => v) w h.1 h.2 has8_3 (fills8_3 v h) (by simp) (by simp) hB hra hrl
end Go.Proofs.YtleiehiabcgalaaDoor

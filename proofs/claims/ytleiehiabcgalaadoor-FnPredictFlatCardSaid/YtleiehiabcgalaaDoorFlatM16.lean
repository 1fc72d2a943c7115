/- impl.Predict16 where all around is one value. -/
import Derived.Test.YtleiehiabcgalaaDoorDoor16
import Derived.Test.YtleiehiabcgalaaDoorPd16DC
import Derived.Test.YtleiehiabcgalaaDoorPd16TM
import Derived.Test.YtleiehiabcgalaaDoorPd16VE
import Derived.Test.YtleiehiabcgalaaDoorPd16HE
import Derived.Shelf.Abstract
namespace Go.Proofs.YtleiehiabcgalaaDoor
set_option linter.unusedSimpArgs false
set_option linter.unusedVariables false
open Go.RowKit Plain

theorem rep_getD16 (v : Int) (n k : Nat) (h : k < n) : (List.replicate n v).getD k 0 = v := by simp [h]
theorem rep_bd16 (v : Int) (n : Nat) (h : 0 ≤ v ∧ v ≤ 255) (k : Nat) : 0 ≤ (List.replicate n v).getD k 0 ∧ (List.replicate n v).getD k 0 ≤ 255 := by
  by_cases hk : k < n
  · rw [rep_getD16 v n k hk]; exact h
  · simp [hk]
theorem const16 (v : Int) (m : Nat) : (List.range m).map (fun _ => v) = List.replicate m v := by
  apply List.ext_getElem
  · simp
  · intro i h1 h2
    simp
theorem Pred16.congr {w : World} {g : Nat} {G G' : Nat → Nat → Int} (h : ∀ a b, a < 16 → b < 16 → G a b = G' a b) (e : Ending) (w' : World) (hp : Pred16 w g G e w') : Pred16 w g G' e w' := by
  obtain ⟨h1, h2, cur, h3, h4, h5⟩ := hp
  exact ⟨h1, h2, cur, h3, h4, fun a b hb hc => by rw [← h a b (by omega) hb]; exact h5 a b hb hc⟩
theorem sum16_rep (v : Int) (n : Nat) : ∀ k, k ≤ n → sum16 (fun j => (List.replicate n v).getD j 0) k = v * k
  | 0, _ => by simp [sum16]
  | k + 1, h => by
    have h1 := sum16_rep v n k (by omega)
    have h2 := rep_getD16 v n k (by omega)
    simp only [sum16]
    rw [h1, h2]
    push_cast
    rw [Int.mul_add]
    omega
theorem has16_0 : HasFn16 0 54 := ⟨fun _ => by kernel_rfl, enters_of Tryd.func54 (by kernel_rfl) rfl⟩
theorem fills16_0 (v : Int) (h : 0 ≤ v ∧ v ≤ 255) : Fills16 54 v (List.replicate 16 v) (List.replicate 16 v) (fun _ _ => v) := fun g cur w hD hS =>
  (predFunc16DC_any g 16 v (List.replicate 16 v) (List.replicate 16 v) cur w (by decide) (by decide) h (rep_bd16 v _ h) (rep_bd16 v _ h) hD hS).mono (Pred16.congr (by
    intro a b ha hb
    rw [sum16_rep v 16 16 (by decide)]
    try rw [sum16_rep v 16 16 (by decide)]
    push_cast
    omega))
theorem has16_1 : HasFn16 1 55 := ⟨fun _ => by kernel_rfl, enters_of Tryd.func55 (by kernel_rfl) rfl⟩
theorem fills16_1 (v : Int) (h : 0 ≤ v ∧ v ≤ 255) : Fills16 55 v (List.replicate 16 v) (List.replicate 16 v) (fun _ _ => v) := fun g cur w hD hS =>
  (predFunc16TM_any g 16 v (List.replicate 16 v) (List.replicate 16 v) cur w (by decide) (by decide) h (rep_bd16 v _ h) (rep_bd16 v _ h) hD hS).mono (Pred16.congr (by
    intro a b ha hb
    rw [rep_getD16 v _ a ha, rep_getD16 v _ b (by omega)]
    unfold clp16
    rw [if_neg (by omega), if_neg (by omega)]
    omega))
theorem has16_2 : HasFn16 2 56 := ⟨fun _ => by kernel_rfl, enters_of Tryd.func56 (by kernel_rfl) rfl⟩
theorem fills16_2 (v : Int) (h : 0 ≤ v ∧ v ≤ 255) : Fills16 56 v (List.replicate 16 v) (List.replicate 16 v) (fun _ _ => v) := fun g cur w hD hS =>
  (predFunc16VE_any g 16 v (List.replicate 16 v) (List.replicate 16 v) cur w (by decide) (by decide) h (rep_bd16 v _ h) (rep_bd16 v _ h) hD hS).mono (Pred16.congr (by
    intro a b ha hb
    exact rep_getD16 v _ b (by omega)))
theorem has16_3 : HasFn16 3 57 := ⟨fun _ => by kernel_rfl, enters_of Tryd.func57 (by kernel_rfl) rfl⟩
theorem fills16_3 (v : Int) (h : 0 ≤ v ∧ v ≤ 255) : Fills16 57 v (List.replicate 16 v) (List.replicate 16 v) (fun _ _ => v) := fun g cur w hD hS =>
  (predFunc16HE_any g 16 v (List.replicate 16 v) (List.replicate 16 v) cur w (by decide) (by decide) h (rep_bd16 v _ h) (rep_bd16 v _ h) hD hS).mono (Pred16.congr (by
    intro a b ha hb
    exact rep_getD16 v _ a ha))
theorem implFlat16 (M v : Int) (hM1 : 0 ≤ M) (hM2 : M < 4) (h : 0 ≤ v ∧ v ≤ 255) (Aa Al : Option Addr) (ca cl B : Nat) (w : World) (hB : B ≤ w.heap.size) (hra : Rd .u8 w B Aa (List.replicate 16 v)) (hrl : Rd .u8 w B Al (List.replicate 16 v)) :
    Calls Tryd.prog 11 #[.int .i64 M, .int .i64 v, .slice Aa 16 ca, .slice Al 16 cl] w fun e w' => ∃ s, e = .returned s ∧ w'.ownsRow w.heap.size 5 1 s 256 ((List.replicate 256 v).map (Value.int .u8)) ∧ Below w.heap.size w w' := by
  have he : rowQ16 (fun q => (fun (_ _ : Nat) => v) (q / 16) (q % 16)) 256 = List.replicate 256 v := const16 v _
  rw [← he]
  obtain rfl | rfl | rfl | rfl : M = 0 ∨ M = 1 ∨ M = 2 ∨ M = 3 := by omega
  · exact implPred16_any 0 _ Aa Al ca cl B v _ _ (fun _ _ => v) w h.1 h.2 has16_0 (fills16_0 v h) (by simp) (by simp) hB hra hrl
  · exact implPred16_any 1 _ Aa Al ca cl B v _ _ (fun _ _ => v) w h.1 h.2 has16_1 (fills16_1 v h) (by simp) (by simp) hB hra hrl
  · exact implPred16_any 2 _ Aa Al ca cl B v _ _ (fun _ _ => v) w h.1 h.2 has16_2 (fills16_2 v h) (by simp) (by simp) hB hra hrl
  · exact implPred16_any 3 _ Aa Al ca cl B v _ _ (fun _ _ => v) w h.1 h.2 has16_3 (fills16_3 v h) (by simp) (by simp) hB hra hrl
end Go.Proofs.YtleiehiabcgalaaDoor

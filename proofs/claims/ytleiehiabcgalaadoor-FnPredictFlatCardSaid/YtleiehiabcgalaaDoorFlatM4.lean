/- impl.Predict4 where all around is one value. -/
import Derived.Test.YtleiehiabcgalaaDoorDoor4
import Derived.Test.YtleiehiabcgalaaDoorPd4DC
import Derived.Test.YtleiehiabcgalaaDoorPd4TM
import Derived.Test.YtleiehiabcgalaaDoorFl4A
import Derived.Test.YtleiehiabcgalaaDoorFl4B
import Derived.Shelf.Abstract
namespace Go.Proofs.YtleiehiabcgalaaDoor
set_option linter.unusedSimpArgs false
set_option linter.unusedVariables false
open Go.RowKit Plain

theorem rep_getD4 (v : Int) (n k : Nat) (h : k < n) : (List.replicate n v).getD k 0 = v := by simp [h]
theorem rep_bd4 (v : Int) (n : Nat) (h : 0 ≤ v ∧ v ≤ 255) (k : Nat) : 0 ≤ (List.replicate n v).getD k 0 ∧ (List.replicate n v).getD k 0 ≤ 255 := by
  by_cases hk : k < n
  · rw [rep_getD4 v n k hk]; exact h
  · simp [hk]
theorem const4 (v : Int) (m : Nat) : (List.range m).map (fun _ => v) = List.replicate m v := by
  apply List.ext_getElem
  · simp
  · intro i h1 h2
    simp
theorem Pred4.congr {w : World} {g : Nat} {G G' : Nat → Nat → Int} (h : ∀ a b, a < 4 → b < 4 → G a b = G' a b) (e : Ending) (w' : World) (hp : Pred4 w g G e w') : Pred4 w g G' e w' := by
  obtain ⟨h1, h2, cur, h3, h4, h5⟩ := hp
  exact ⟨h1, h2, cur, h3, h4, fun a b hb hc => by rw [← h a b (by omega) hb]; exact h5 a b hb hc⟩
theorem sum4_rep (v : Int) (n : Nat) : ∀ k, k ≤ n → sum4 (fun j => (List.replicate n v).getD j 0) k = v * k
  | 0, _ => by simp [sum4]
  | k + 1, h => by
    have h1 := sum4_rep v n k (by omega)
    have h2 := rep_getD4 v n k (by omega)
    simp only [sum4]
    rw [h1, h2]
    push_cast
    rw [Int.mul_add]
    omega
theorem has4_0 : HasFn4 0 44 := ⟨fun _ => by kernel_rfl, enters_of Tryd.func44 (by kernel_rfl) rfl⟩
theorem fills4_0 (v : Int) (h : 0 ≤ v ∧ v ≤ 255) : Fills4 44 v (List.replicate 8 v) (List.replicate 4 v) (fun _ _ => v) := fun g cur w hD hS =>
  (predFunc4DC_any g 8 v (List.replicate 8 v) (List.replicate 4 v) cur w (by decide) (by decide) h (rep_bd4 v _ h) (rep_bd4 v _ h) hD hS).mono (Pred4.congr (by
    intro a b ha hb
    rw [sum4_rep v 8 4 (by decide)]
    try rw [sum4_rep v 4 4 (by decide)]
    push_cast
    omega))
theorem has4_1 : HasFn4 1 45 := ⟨fun _ => by kernel_rfl, enters_of Tryd.func45 (by kernel_rfl) rfl⟩
theorem fills4_1 (v : Int) (h : 0 ≤ v ∧ v ≤ 255) : Fills4 45 v (List.replicate 8 v) (List.replicate 4 v) (fun _ _ => v) := fun g cur w hD hS =>
  (predFunc4TM_any g 8 v (List.replicate 8 v) (List.replicate 4 v) cur w (by decide) (by decide) h (rep_bd4 v _ h) (rep_bd4 v _ h) hD hS).mono (Pred4.congr (by
    intro a b ha hb
    rw [rep_getD4 v _ a ha, rep_getD4 v _ b (by omega)]
    unfold clp4
    rw [if_neg (by omega), if_neg (by omega)]
    omega))
theorem has4_2 : HasFn4 2 46 := ⟨fun _ => by kernel_rfl, enters_of Tryd.func46 (by kernel_rfl) rfl⟩
theorem fills4_2 (v : Int) (h : 0 ≤ v ∧ v ≤ 255) : Fills4 46 v (List.replicate 8 v) (List.replicate 4 v) (fun _ _ => v) := fun g cur w hD hS =>
  predFunc4VEflat g v cur w h.1 h.2 hD (Flat4.of hS (by decide) (fun i hi => rep_getD4 v _ i hi) (fun i hi => rep_getD4 v _ i hi))
theorem has4_3 : HasFn4 3 47 := ⟨fun _ => by kernel_rfl, enters_of Tryd.func47 (by kernel_rfl) rfl⟩
theorem fills4_3 (v : Int) (h : 0 ≤ v ∧ v ≤ 255) : Fills4 47 v (List.replicate 8 v) (List.replicate 4 v) (fun _ _ => v) := fun g cur w hD hS =>
  predFunc4HEflat g v cur w h.1 h.2 hD (Flat4.of hS (by decide) (fun i hi => rep_getD4 v _ i hi) (fun i hi => rep_getD4 v _ i hi))
theorem has4_4 : HasFn4 4 48 := ⟨fun _ => by kernel_rfl, enters_of Tryd.func48 (by kernel_rfl) rfl⟩
theorem fills4_4 (v : Int) (h : 0 ≤ v ∧ v ≤ 255) : Fills4 48 v (List.replicate 8 v) (List.replicate 4 v) (fun _ _ => v) := fun g cur w hD hS =>
  predFunc4RDflat g v cur w h.1 h.2 hD (Flat4.of hS (by decide) (fun i hi => rep_getD4 v _ i hi) (fun i hi => rep_getD4 v _ i hi))
theorem has4_5 : HasFn4 5 49 := ⟨fun _ => by kernel_rfl, enters_of Tryd.func49 (by kernel_rfl) rfl⟩
theorem fills4_5 (v : Int) (h : 0 ≤ v ∧ v ≤ 255) : Fills4 49 v (List.replicate 8 v) (List.replicate 4 v) (fun _ _ => v) := fun g cur w hD hS =>
  predFunc4VRflat g v cur w h.1 h.2 hD (Flat4.of hS (by decide) (fun i hi => rep_getD4 v _ i hi) (fun i hi => rep_getD4 v _ i hi))
theorem has4_6 : HasFn4 6 50 := ⟨fun _ => by kernel_rfl, enters_of Tryd.func50 (by kernel_rfl) rfl⟩
theorem fills4_6 (v : Int) (h : 0 ≤ v ∧ v ≤ 255) : Fills4 50 v (List.replicate 8 v) (List.replicate 4 v) (fun _ _ => v) := fun g cur w hD hS =>
  predFunc4LDflat g v cur w h.1 h.2 hD (Flat4.of hS (by decide) (fun i hi => rep_getD4 v _ i hi) (fun i hi => rep_getD4 v _ i hi))
theorem has4_7 : HasFn4 7 51 := ⟨fun _ => by kernel_rfl, enters_of Tryd.func51 (by kernel_rfl) rfl⟩
theorem fills4_7 (v : Int) (h : 0 ≤ v ∧ v ≤ 255) : Fills4 51 v (List.replicate 8 v) (List.replicate 4 v) (fun _ _ => v) := fun g cur w hD hS =>
  predFunc4VLflat g v cur w h.1 h.2 hD (Flat4.of hS (by decide) (fun i hi => rep_getD4 v _ i hi) (fun i hi => rep_getD4 v _ i hi))
theorem has4_8 : HasFn4 8 52 := ⟨fun _ => by kernel_rfl, enters_of Tryd.func52 (by kernel_rfl) rfl⟩
theorem fills4_8 (v : Int) (h : 0 ≤ v ∧ v ≤ 255) : Fills4 52 v (List.replicate 8 v) (List.replicate 4 v) (fun _ _ => v) := fun g cur w hD hS =>
  predFunc4HDflat g v cur w h.1 h.2 hD (Flat4.of hS (by decide) (fun i hi => rep_getD4 v _ i hi) (fun i hi => rep_getD4 v _ i hi))
theorem has4_9 : HasFn4 9 53 := ⟨fun _ => by kernel_rfl, enters_of Tryd.func53 (by kernel_rfl) rfl⟩
theorem fills4_9 (v : Int) (h : 0 ≤ v ∧ v ≤ 255) : Fills4 53 v (List.replicate 8 v) (List.replicate 4 v) (fun _ _ => v) := fun g cur w hD hS =>
  predFunc4HUflat g v cur w h.1 h.2 hD (Flat4.of hS (by decide) (fun i hi => rep_getD4 v _ i hi) (fun i hi => rep_getD4 v _ i hi))
theorem implFlat4 (M v : Int) (hM1 : 0 ≤ M) (hM2 : M < 10) (h : 0 ≤ v ∧ v ≤ 255) (Aa Al : Option Addr) (ca cl B : Nat) (w : World) (hB : B ≤ w.heap.size) (hra : Rd .u8 w B Aa (List.replicate 8 v)) (hrl : Rd .u8 w B Al (List.replicate 4 v)) :
    Calls Tryd.prog 10 #[.int .i64 M, .int .i64 v, .slice Aa 8 ca, .slice Al 4 cl] w fun e w' => ∃ s, e = .returned s ∧ w'.ownsRow w.heap.size 5 1 s 16 ((List.replicate 16 v).map (Value.int .u8)) ∧ Below w.heap.size w w' := by
  have he : rowQ4 (fun q => (fun (_ _ : Nat) => v) (q / 4) (q % 4)) 16 = List.replicate 16 v := const4 v _
  rw [← he]
  obtain rfl | rfl | rfl | rfl | rfl | rfl | rfl | rfl | rfl | rfl : M = 0 ∨ M = 1 ∨ M = 2 ∨ M = 3 ∨ M = 4 ∨ M = 5 ∨ M = 6 ∨ M = 7 ∨ M = 8 ∨ M = 9 := by omega
  · exact implPred4_any 0 _ Aa Al ca cl B v _ _ (fun _ _ => v) w h.1 h.2 has4_0 (fills4_0 v h) (by simp) (by simp) hB hra hrl
  · exact implPred4_any 1 _ Aa Al ca cl B v _ _ (fun _ _ => v) w h.1 h.2 has4_1 (fills4_1 v h) (by simp) (by simp) hB hra hrl
  · exact implPred4_any 2 _ Aa Al ca cl B v _ _ (fun _ _ => v) w h.1 h.2 has4_2 (fills4_2 v h) (by simp) (by simp) hB hra hrl
  · exact implPred4_any 3 _ Aa Al ca cl B v _ _ (fun _ _ => v) w h.1 h.2 has4_3 (fills4_3 v h) (by simp) (by simp) hB hra hrl
  · exact implPred4_any 4 _ Aa Al ca cl B v _ _ (fun _ _ => v) w h.1 h.2 has4_4 (fills4_4 v h) (by simp) (by simp) hB hra hrl
  · exact implPred4_any 5 _ Aa Al ca cl B v _ _ (fun _ _ => v) w h.1 h.2 has4_5 (fills4_5 v h) (by simp) (by simp) hB hra hrl
  · exact implPred4_any 6 _ Aa Al ca cl B v _ _ (fun _ _ => v) w h.1 h.2 has4_6 (fills4_6 v h) (by simp) (by simp) hB hra hrl
  · exact implPred4_any 7 _ Aa Al ca cl B v _ _ (fun _ _ => v) w h.1 h.2 has4_7 (fills4_7 v h) (by simp) (by simp) hB hra hrl
  · exact implPred4_any 8 _ Aa Al ca cl B v _ _ (fun _ _ => v) w h.1 h.2 has4_8 (fills4_8 v h) (by simp) (by simp) hB hra hrl
  · exact implPred4_any 9 _ Aa Al ca cl B v _ _ (fun _ _ => v) w h.1 h.2 has4_9 (fills4_9 v h) (by simp) (by simp) hB hra hrl
end Go.Proofs.YtleiehiabcgalaaDoor

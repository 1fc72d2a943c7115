/- The law FnPredict8: the walk, for every argument. -/
import Derived.Test.YtleiehiabcgalaaDoorDoor8
import Derived.Test.YtleiehiabcgalaaDoorLarge
import Derived.Test.YtleiehiabcgalaaDoorPd8DC
import Derived.Test.YtleiehiabcgalaaDoorPd8TM
import Derived.Test.YtleiehiabcgalaaDoorPd8VE
import Derived.Test.YtleiehiabcgalaaDoorPd8HE
import Derived.Test.YtleiehiabcgalaaDoorPd8DCTop
import Derived.Test.YtleiehiabcgalaaDoorPd8DCLeft
import Derived.Test.YtleiehiabcgalaaDoorPd8DCTopLeft
import Derived.Test.YtleiehiabcgalaaDoorBytes
import Derived.Test.YtleiehiabcgalaaDoorEqLaws
import Derived.Test.YtleiehiabcgalaaDoorReadBool
import Derived.Shelf.Abstract
namespace Go.Proofs.YtleiehiabcgalaaDoor
set_option linter.unusedSimpArgs false
set_option linter.unusedVariables false
open Go.RowKit Plain

theorem hasm_0 : HasFn8 0 36 := ⟨fun _ => by kernel_rfl, enters_of Tryd.func36 (by kernel_rfl) rfl⟩
theorem fillm_0 (cv : Int) (va vl : List Int) (hcv : 0 ≤ cv ∧ cv ≤ 255) (hva : ∀ k, 0 ≤ va.getD k 0 ∧ va.getD k 0 ≤ 255) (hvl : ∀ k, 0 ≤ vl.getD k 0 ∧ vl.getD k 0 ≤ 255) : Fills8 36 cv va vl (fun a b => (8 + sum8 (fun k => va.getD k 0) 8 + sum8 (fun k => vl.getD k 0) 8) / 16) := fun g cur w hD hS => predFunc8DC_any g 8 cv va vl cur w (by decide) (by decide) hcv hva hvl hD hS
set_option maxRecDepth 100000 in
theorem spec8_0 (Aa Al : Option Addr) (ca cl B : Nat) (cv : Int) (va vl : List Int) (w : World) (hB : B ≤ w.heap.size) (hla : va.length = 8) (hll : vl.length = 8) (hcv : 0 ≤ cv ∧ cv ≤ 255) (hva : ∀ k, 0 ≤ va.getD k 0 ∧ va.getD k 0 ≤ 255) (hvl : ∀ k, 0 ≤ vl.getD k 0 ∧ vl.getD k 0 ≤ 255) (hra : Rd .u8 w B Aa va) (hrl : Rd .u8 w B Al vl) :
    Calls Tryd.prog 9 #[.int .i64 0, .int .i64 cv, .slice Aa 8 ca, .slice Al 8 cl] w fun e w' => ∃ s, e = .returned s ∧ w'.ownsRow w.heap.size 5 1 s 64 ((rowQ8 (fun q => (fun a b => (8 + sum8 (fun k => va.getD k 0) 8 + sum8 (fun k => vl.getD k 0) 8) / 16) (q / 8) (q % 8)) 64).map (Value.int .u8)) ∧ Below w.heap.size w w' := by
  have cL := hide (largeDC Aa Al ca cl B cv va vl w hB hla hll hcv hva hvl hra hrl)
  clear hra hrl hva hvl hcv hla hll hB
  go_enter Tryd.func9, Tryd.ntmps9
  go_wp2_with fail
  (with_reducible refine (cL.out).mono ?_)
  rintro e w6 ⟨s, rfl, ho, hb6⟩
  replace ho := hide ho
  replace hb6 := hide hb6
  go_wp2_with fail
  go_ret
  exact ⟨s, rfl, ho.out, hb6.out⟩
theorem hasm_1 : HasFn8 1 37 := ⟨fun _ => by kernel_rfl, enters_of Tryd.func37 (by kernel_rfl) rfl⟩
theorem fillm_1 (cv : Int) (va vl : List Int) (hcv : 0 ≤ cv ∧ cv ≤ 255) (hva : ∀ k, 0 ≤ va.getD k 0 ∧ va.getD k 0 ≤ 255) (hvl : ∀ k, 0 ≤ vl.getD k 0 ∧ vl.getD k 0 ≤ 255) : Fills8 37 cv va vl (fun a b => clp8 (vl.getD a 0 + va.getD b 0 - cv)) := fun g cur w hD hS => predFunc8TM_any g 8 cv va vl cur w (by decide) (by decide) hcv hva hvl hD hS
set_option maxRecDepth 100000 in
theorem spec8_1 (Aa Al : Option Addr) (ca cl B : Nat) (cv : Int) (va vl : List Int) (w : World) (hB : B ≤ w.heap.size) (hla : va.length = 8) (hll : vl.length = 8) (hcv : 0 ≤ cv ∧ cv ≤ 255) (hva : ∀ k, 0 ≤ va.getD k 0 ∧ va.getD k 0 ≤ 255) (hvl : ∀ k, 0 ≤ vl.getD k 0 ∧ vl.getD k 0 ≤ 255) (hra : Rd .u8 w B Aa va) (hrl : Rd .u8 w B Al vl) :
    Calls Tryd.prog 9 #[.int .i64 1, .int .i64 cv, .slice Aa 8 ca, .slice Al 8 cl] w fun e w' => ∃ s, e = .returned s ∧ w'.ownsRow w.heap.size 5 1 s 64 ((rowQ8 (fun q => (fun a b => clp8 (vl.getD a 0 + va.getD b 0 - cv)) (q / 8) (q % 8)) 64).map (Value.int .u8)) ∧ Below w.heap.size w w' := by
  have cL := hide (largeTM Aa Al ca cl B cv va vl w hB hla hll hcv hva hvl hra hrl)
  clear hra hrl hva hvl hcv hla hll hB
  go_enter Tryd.func9, Tryd.ntmps9
  go_wp2_with fail
  (with_reducible refine (cL.out).mono ?_)
  rintro e w6 ⟨s, rfl, ho, hb6⟩
  replace ho := hide ho
  replace hb6 := hide hb6
  go_wp2_with fail
  go_ret
  exact ⟨s, rfl, ho.out, hb6.out⟩
theorem hasm_2 : HasFn8 2 38 := ⟨fun _ => by kernel_rfl, enters_of Tryd.func38 (by kernel_rfl) rfl⟩
theorem fillm_2 (cv : Int) (va vl : List Int) (hcv : 0 ≤ cv ∧ cv ≤ 255) (hva : ∀ k, 0 ≤ va.getD k 0 ∧ va.getD k 0 ≤ 255) (hvl : ∀ k, 0 ≤ vl.getD k 0 ∧ vl.getD k 0 ≤ 255) : Fills8 38 cv va vl (fun a b => va.getD b 0) := fun g cur w hD hS => predFunc8VE_any g 8 cv va vl cur w (by decide) (by decide) hcv hva hvl hD hS
set_option maxRecDepth 100000 in
theorem spec8_2 (Aa Al : Option Addr) (ca cl B : Nat) (cv : Int) (va vl : List Int) (w : World) (hB : B ≤ w.heap.size) (hla : va.length = 8) (hll : vl.length = 8) (hcv : 0 ≤ cv ∧ cv ≤ 255) (hva : ∀ k, 0 ≤ va.getD k 0 ∧ va.getD k 0 ≤ 255) (hvl : ∀ k, 0 ≤ vl.getD k 0 ∧ vl.getD k 0 ≤ 255) (hra : Rd .u8 w B Aa va) (hrl : Rd .u8 w B Al vl) :
    Calls Tryd.prog 9 #[.int .i64 2, .int .i64 cv, .slice Aa 8 ca, .slice Al 8 cl] w fun e w' => ∃ s, e = .returned s ∧ w'.ownsRow w.heap.size 5 1 s 64 ((rowQ8 (fun q => (fun a b => va.getD b 0) (q / 8) (q % 8)) 64).map (Value.int .u8)) ∧ Below w.heap.size w w' := by
  have cL := hide (largeVE Aa Al ca cl B cv va vl w hB hla hll hcv hva hvl hra hrl)
  clear hra hrl hva hvl hcv hla hll hB
  go_enter Tryd.func9, Tryd.ntmps9
  go_wp2_with fail
  (with_reducible refine (cL.out).mono ?_)
  rintro e w6 ⟨s, rfl, ho, hb6⟩
  replace ho := hide ho
  replace hb6 := hide hb6
  go_wp2_with fail
  go_ret
  exact ⟨s, rfl, ho.out, hb6.out⟩
theorem hasm_3 : HasFn8 3 39 := ⟨fun _ => by kernel_rfl, enters_of Tryd.func39 (by kernel_rfl) rfl⟩
theorem fillm_3 (cv : Int) (va vl : List Int) (hcv : 0 ≤ cv ∧ cv ≤ 255) (hva : ∀ k, 0 ≤ va.getD k 0 ∧ va.getD k 0 ≤ 255) (hvl : ∀ k, 0 ≤ vl.getD k 0 ∧ vl.getD k 0 ≤ 255) : Fills8 39 cv va vl (fun a b => vl.getD a 0) := fun g cur w hD hS => predFunc8HE_any g 8 cv va vl cur w (by decide) (by decide) hcv hva hvl hD hS
set_option maxRecDepth 100000 in
theorem spec8_3 (Aa Al : Option Addr) (ca cl B : Nat) (cv : Int) (va vl : List Int) (w : World) (hB : B ≤ w.heap.size) (hla : va.length = 8) (hll : vl.length = 8) (hcv : 0 ≤ cv ∧ cv ≤ 255) (hva : ∀ k, 0 ≤ va.getD k 0 ∧ va.getD k 0 ≤ 255) (hvl : ∀ k, 0 ≤ vl.getD k 0 ∧ vl.getD k 0 ≤ 255) (hra : Rd .u8 w B Aa va) (hrl : Rd .u8 w B Al vl) :
    Calls Tryd.prog 9 #[.int .i64 3, .int .i64 cv, .slice Aa 8 ca, .slice Al 8 cl] w fun e w' => ∃ s, e = .returned s ∧ w'.ownsRow w.heap.size 5 1 s 64 ((rowQ8 (fun q => (fun a b => vl.getD a 0) (q / 8) (q % 8)) 64).map (Value.int .u8)) ∧ Below w.heap.size w w' := by
  have cL := hide (largeHE Aa Al ca cl B cv va vl w hB hla hll hcv hva hvl hra hrl)
  clear hra hrl hva hvl hcv hla hll hB
  go_enter Tryd.func9, Tryd.ntmps9
  go_wp2_with fail
  (with_reducible refine (cL.out).mono ?_)
  rintro e w6 ⟨s, rfl, ho, hb6⟩
  replace ho := hide ho
  replace hb6 := hide hb6
  go_wp2_with fail
  go_ret
  exact ⟨s, rfl, ho.out, hb6.out⟩
theorem hasm_10 : HasFn8 10 40 := ⟨fun _ => by kernel_rfl, enters_of Tryd.func40 (by kernel_rfl) rfl⟩
theorem fillm_10 (cv : Int) (va vl : List Int) (hcv : 0 ≤ cv ∧ cv ≤ 255) (hva : ∀ k, 0 ≤ va.getD k 0 ∧ va.getD k 0 ≤ 255) (hvl : ∀ k, 0 ≤ vl.getD k 0 ∧ vl.getD k 0 ≤ 255) : Fills8 40 cv va vl (fun a b => (4 + sum8 (fun k => vl.getD k 0) 8) / 8) := fun g cur w hD hS => predFunc8DCTop_any g 8 cv va vl cur w (by decide) (by decide) hcv hva hvl hD hS
set_option maxRecDepth 100000 in
theorem spec8_10 (Aa Al : Option Addr) (ca cl B : Nat) (cv : Int) (va vl : List Int) (w : World) (hB : B ≤ w.heap.size) (hla : va.length = 8) (hll : vl.length = 8) (hcv : 0 ≤ cv ∧ cv ≤ 255) (hva : ∀ k, 0 ≤ va.getD k 0 ∧ va.getD k 0 ≤ 255) (hvl : ∀ k, 0 ≤ vl.getD k 0 ∧ vl.getD k 0 ≤ 255) (hra : Rd .u8 w B Aa va) (hrl : Rd .u8 w B Al vl) :
    Calls Tryd.prog 9 #[.int .i64 10, .int .i64 cv, .slice Aa 8 ca, .slice Al 8 cl] w fun e w' => ∃ s, e = .returned s ∧ w'.ownsRow w.heap.size 5 1 s 64 ((rowQ8 (fun q => (fun a b => (4 + sum8 (fun k => vl.getD k 0) 8) / 8) (q / 8) (q % 8)) 64).map (Value.int .u8)) ∧ Below w.heap.size w w' := by
  have cL := hide (largeDCTop Aa Al ca cl B cv va vl w hB hla hll hcv hva hvl hra hrl)
  clear hra hrl hva hvl hcv hla hll hB
  go_enter Tryd.func9, Tryd.ntmps9
  go_wp2_with fail
  (with_reducible refine (cL.out).mono ?_)
  rintro e w6 ⟨s, rfl, ho, hb6⟩
  replace ho := hide ho
  replace hb6 := hide hb6
  go_wp2_with fail
  go_ret
  exact ⟨s, rfl, ho.out, hb6.out⟩
theorem hasm_11 : HasFn8 11 41 := ⟨fun _ => by kernel_rfl, enters_of Tryd.func41 (by kernel_rfl) rfl⟩
theorem fillm_11 (cv : Int) (va vl : List Int) (hcv : 0 ≤ cv ∧ cv ≤ 255) (hva : ∀ k, 0 ≤ va.getD k 0 ∧ va.getD k 0 ≤ 255) (hvl : ∀ k, 0 ≤ vl.getD k 0 ∧ vl.getD k 0 ≤ 255) : Fills8 41 cv va vl (fun a b => (4 + sum8 (fun k => va.getD k 0) 8) / 8) := fun g cur w hD hS => predFunc8DCLeft_any g 8 cv va vl cur w (by decide) (by decide) hcv hva hvl hD hS
set_option maxRecDepth 100000 in
theorem spec8_11 (Aa Al : Option Addr) (ca cl B : Nat) (cv : Int) (va vl : List Int) (w : World) (hB : B ≤ w.heap.size) (hla : va.length = 8) (hll : vl.length = 8) (hcv : 0 ≤ cv ∧ cv ≤ 255) (hva : ∀ k, 0 ≤ va.getD k 0 ∧ va.getD k 0 ≤ 255) (hvl : ∀ k, 0 ≤ vl.getD k 0 ∧ vl.getD k 0 ≤ 255) (hra : Rd .u8 w B Aa va) (hrl : Rd .u8 w B Al vl) :
    Calls Tryd.prog 9 #[.int .i64 11, .int .i64 cv, .slice Aa 8 ca, .slice Al 8 cl] w fun e w' => ∃ s, e = .returned s ∧ w'.ownsRow w.heap.size 5 1 s 64 ((rowQ8 (fun q => (fun a b => (4 + sum8 (fun k => va.getD k 0) 8) / 8) (q / 8) (q % 8)) 64).map (Value.int .u8)) ∧ Below w.heap.size w w' := by
  have cL := hide (largeDCLeft Aa Al ca cl B cv va vl w hB hla hll hcv hva hvl hra hrl)
  clear hra hrl hva hvl hcv hla hll hB
  go_enter Tryd.func9, Tryd.ntmps9
  go_wp2_with fail
  (with_reducible refine (cL.out).mono ?_)
  rintro e w6 ⟨s, rfl, ho, hb6⟩
  replace ho := hide ho
  replace hb6 := hide hb6
  go_wp2_with fail
  go_ret
  exact ⟨s, rfl, ho.out, hb6.out⟩
theorem hasm_12 : HasFn8 12 42 := ⟨fun _ => by kernel_rfl, enters_of Tryd.func42 (by kernel_rfl) rfl⟩
theorem fillm_12 (cv : Int) (va vl : List Int) (hcv : 0 ≤ cv ∧ cv ≤ 255) (hva : ∀ k, 0 ≤ va.getD k 0 ∧ va.getD k 0 ≤ 255) (hvl : ∀ k, 0 ≤ vl.getD k 0 ∧ vl.getD k 0 ≤ 255) : Fills8 42 cv va vl (fun a b => 128) := fun g cur w hD hS => predFunc8DCTopLeft_any g 8 cv va vl cur w (by decide) (by decide) hcv hva hvl hD hS
set_option maxRecDepth 100000 in
theorem spec8_12 (Aa Al : Option Addr) (ca cl B : Nat) (cv : Int) (va vl : List Int) (w : World) (hB : B ≤ w.heap.size) (hla : va.length = 8) (hll : vl.length = 8) (hcv : 0 ≤ cv ∧ cv ≤ 255) (hva : ∀ k, 0 ≤ va.getD k 0 ∧ va.getD k 0 ≤ 255) (hvl : ∀ k, 0 ≤ vl.getD k 0 ∧ vl.getD k 0 ≤ 255) (hra : Rd .u8 w B Aa va) (hrl : Rd .u8 w B Al vl) :
    Calls Tryd.prog 9 #[.int .i64 12, .int .i64 cv, .slice Aa 8 ca, .slice Al 8 cl] w fun e w' => ∃ s, e = .returned s ∧ w'.ownsRow w.heap.size 5 1 s 64 ((rowQ8 (fun q => (fun a b => 128) (q / 8) (q % 8)) 64).map (Value.int .u8)) ∧ Below w.heap.size w w' := by
  have cL := hide (largeDCTopLeft Aa Al ca cl B cv va vl w hB hla hll hcv hva hvl hra hrl)
  clear hra hrl hva hvl hcv hla hll hB
  go_enter Tryd.func9, Tryd.ntmps9
  go_wp2_with fail
  (with_reducible refine (cL.out).mono ?_)
  rintro e w6 ⟨s, rfl, ho, hb6⟩
  replace ho := hide ho
  replace hb6 := hide hb6
  go_wp2_with fail
  go_ret
  exact ⟨s, rfl, ho.out, hb6.out⟩

/-- The program and the reference foretell the same numbers. -/
structure Both8 (M cv : Int) (va vl : List Int) (L : List Int) : Prop where
  len : L.length = 64
  impl : ∀ (Aa Al : Option Addr) (ca cl B : Nat) (w : World), B ≤ w.heap.size → Rd .u8 w B Aa va → Rd .u8 w B Al vl → Calls Tryd.prog 8 #[.int .i64 M, .int .i64 cv, .slice Aa 8 ca, .slice Al 8 cl] w fun e w' => ∃ s, e = .returned s ∧ w'.ownsRow w.heap.size 5 1 s 64 (L.map (Value.int .u8)) ∧ Below w.heap.size w w'
  spec : ∀ (Aa Al : Option Addr) (ca cl B : Nat) (w : World), B ≤ w.heap.size → Rd .u8 w B Aa va → Rd .u8 w B Al vl → Calls Tryd.prog 9 #[.int .i64 M, .int .i64 cv, .slice Aa 8 ca, .slice Al 8 cl] w fun e w' => ∃ s, e = .returned s ∧ w'.ownsRow w.heap.size 5 1 s 64 (L.map (Value.int .u8)) ∧ Below w.heap.size w w'
def large8B (M : Int) : Bool := decide (0 ≤ M ∧ M ≤ 3 ∨ 10 ≤ M ∧ M ≤ 12)
theorem both8 (M cv : Int) (va vl : List Int) (hM : large8B M = true) (hla : va.length = 8) (hll : vl.length = 8) (hcv : 0 ≤ cv ∧ cv ≤ 255) (hva : ∀ k, 0 ≤ va.getD k 0 ∧ va.getD k 0 ≤ 255) (hvl : ∀ k, 0 ≤ vl.getD k 0 ∧ vl.getD k 0 ≤ 255) : ∃ L, Both8 M cv va vl L := by
  have hM' := of_decide_eq_true hM
  obtain rfl | rfl | rfl | rfl | rfl | rfl | rfl : M = 0 ∨ M = 1 ∨ M = 2 ∨ M = 3 ∨ M = 10 ∨ M = 11 ∨ M = 12 := by omega
  · exact ⟨_, rowQ8_len _ 64, fun Aa Al ca cl B w hB hra hrl => implPred8_any 0 _ Aa Al ca cl B cv va vl (fun a b => (8 + sum8 (fun k => va.getD k 0) 8 + sum8 (fun k => vl.getD k 0) 8) / 16) w hcv.1 hcv.2 hasm_0 (fillm_0 cv va vl hcv hva hvl) hla hll hB hra hrl, fun Aa Al ca cl B w hB hra hrl => spec8_0 Aa Al ca cl B cv va vl w hB hla hll hcv hva hvl hra hrl⟩
  · exact ⟨_, rowQ8_len _ 64, fun Aa Al ca cl B w hB hra hrl => implPred8_any 1 _ Aa Al ca cl B cv va vl (fun a b => clp8 (vl.getD a 0 + va.getD b 0 - cv)) w hcv.1 hcv.2 hasm_1 (fillm_1 cv va vl hcv hva hvl) hla hll hB hra hrl, fun Aa Al ca cl B w hB hra hrl => spec8_1 Aa Al ca cl B cv va vl w hB hla hll hcv hva hvl hra hrl⟩
  · exact ⟨_, rowQ8_len _ 64, fun Aa Al ca cl B w hB hra hrl => implPred8_any 2 _ Aa Al ca cl B cv va vl (fun a b => va.getD b 0) w hcv.1 hcv.2 hasm_2 (fillm_2 cv va vl hcv hva hvl) hla hll hB hra hrl, fun Aa Al ca cl B w hB hra hrl => spec8_2 Aa Al ca cl B cv va vl w hB hla hll hcv hva hvl hra hrl⟩
  · exact ⟨_, rowQ8_len _ 64, fun Aa Al ca cl B w hB hra hrl => implPred8_any 3 _ Aa Al ca cl B cv va vl (fun a b => vl.getD a 0) w hcv.1 hcv.2 hasm_3 (fillm_3 cv va vl hcv hva hvl) hla hll hB hra hrl, fun Aa Al ca cl B w hB hra hrl => spec8_3 Aa Al ca cl B cv va vl w hB hla hll hcv hva hvl hra hrl⟩
  · exact ⟨_, rowQ8_len _ 64, fun Aa Al ca cl B w hB hra hrl => implPred8_any 10 _ Aa Al ca cl B cv va vl (fun a b => (4 + sum8 (fun k => vl.getD k 0) 8) / 8) w hcv.1 hcv.2 hasm_10 (fillm_10 cv va vl hcv hva hvl) hla hll hB hra hrl, fun Aa Al ca cl B w hB hra hrl => spec8_10 Aa Al ca cl B cv va vl w hB hla hll hcv hva hvl hra hrl⟩
  · exact ⟨_, rowQ8_len _ 64, fun Aa Al ca cl B w hB hra hrl => implPred8_any 11 _ Aa Al ca cl B cv va vl (fun a b => (4 + sum8 (fun k => va.getD k 0) 8) / 8) w hcv.1 hcv.2 hasm_11 (fillm_11 cv va vl hcv hva hvl) hla hll hB hra hrl, fun Aa Al ca cl B w hB hra hrl => spec8_11 Aa Al ca cl B cv va vl w hB hla hll hcv hva hvl hra hrl⟩
  · exact ⟨_, rowQ8_len _ 64, fun Aa Al ca cl B w hB hra hrl => implPred8_any 12 _ Aa Al ca cl B cv va vl (fun a b => 128) w hcv.1 hcv.2 hasm_12 (fillm_12 cv va vl hcv hva hvl) hla hll hB hra hrl, fun Aa Al ca cl B w hB hra hrl => spec8_12 Aa Al ca cl B cv va vl w hB hla hll hcv hva hvl hra hrl⟩

theorem isLarge_any (M : Int) (w : World) (B : Bool) (hB : large8B M = B) : Calls Tryd.prog 5 #[.int .i64 M] w fun e w' => e = .returned (.bool B) ∧ w = w' := by
  cases B with
  | true =>
    have h := of_decide_eq_true hB
    rcases h with ⟨h1, h2⟩ | ⟨h1, h2⟩
    · clear hB
      go_enter Tryd.func5, Tryd.ntmps5
      go_wp2
      go_ret
      exact ⟨rfl, rfl⟩
    · clear hB
      have h3 : 0 ≤ M := by omega
      have h4 : ¬ M ≤ 3 := by omega
      go_enter Tryd.func5, Tryd.ntmps5
      go_wp2
      go_ret
      exact ⟨rfl, rfl⟩
  | false =>
    have h := of_decide_eq_false hB
    clear hB
    by_cases h1 : 0 ≤ M
    · have h2 : ¬ M ≤ 3 := by omega
      by_cases h3 : 10 ≤ M
      · have h4 : ¬ M ≤ 12 := by omega
        clear h
        go_enter Tryd.func5, Tryd.ntmps5
        go_wp2
        go_ret
        exact ⟨rfl, rfl⟩
      · clear h
        go_enter Tryd.func5, Tryd.ntmps5
        go_wp2
        go_ret
        exact ⟨rfl, rfl⟩
    · have h3 : ¬ 10 ≤ M := by omega
      clear h
      go_enter Tryd.func5, Tryd.ntmps5
      go_wp2
      go_ret
      exact ⟨rfl, rfl⟩

theorem byte_wf8 {l : List Int} (h : ∀ n ∈ l, (Lit.int .u8 n).wf = true) (j : Nat) : 0 ≤ l.getD j 0 ∧ l.getD j 0 ≤ 255 := by
  rcases Nat.lt_or_ge j l.length with hj | hj
  · have h1 := h l[j] (List.getElem_mem hj)
    simp [Lit.wf, IntKind.min, IntKind.max, IntKind.bits, IntKind.signed] at h1
    simp [hj]
    omega
  · simp [hj]

set_option maxRecDepth 100000 in
set_option maxHeartbeats 4000000 in
theorem pred8_main (M cv : Int) (va vl L : List Int) (Aa Al : Option Addr) (ca cl : Nat) (w : World) (hL : Luts w) (hM : large8B M = true) (hBo : Both8 M cv va vl L) (hcv : 0 ≤ cv ∧ cv ≤ 255) (hra : Rd .u8 w w.heap.size Aa va) (hrl : Rd .u8 w w.heap.size Al vl) :
    Calls Tryd.prog 3 #[.int .i64 M, .int .i64 cv, .slice Aa 8 ca, .slice Al 8 cl] w fun e w' => e = .returned (.bool true) ∧ Below w.heap.size w w' := by
  have hlt := hL.lt
  obtain ⟨hc1, hc2⟩ := hcv
  have c0 : ¬ cv < 0 := by omega
  have c1 : ¬ 255 < cv := by omega
  have cM := hide fun W => isLarge_any M W true hM
  have cI := hide (hBo.impl Aa Al ca cl w.heap.size w (Nat.le_refl _) hra hrl)
  have cS := hide fun (W : World) (hb : Below w.heap.size w W) => hBo.spec Aa Al ca cl w.heap.size W hb.size (hra.keep fun p hp => hb.cell hp) (hrl.keep fun p hp => hb.cell hp)
  have cB := hide fun w1 (hb : Below w.heap.size w w1) => readBool_any w1 (hL.below hb hlt)
  have hLl := hide hBo.len
  clear hBo hM hra hrl hL
  go_enter Tryd.func3, Tryd.ntmps3
  go_wp2_with (first | (go_at_call 5; (with_reducible refine (cM.out _).mono ?_); rintro e w' ⟨rfl, rfl⟩) | fail)
  (with_reducible refine (cI.out).mono ?_)
  rintro e w1 ⟨s1, rfl, ho1, hb1⟩
  obtain ⟨A1, c1, rfl, _, _⟩ := own_len ho1
  have cS1 := hide (cS.out w1 hb1)
  replace ho1 := hide ho1
  replace hb1 := hide hb1
  clear cI cS
  go_wp2_with fail
  (with_reducible refine (cS1.out).mono ?_)
  rintro e w2 ⟨s2, rfl, ho2, hb2⟩
  obtain ⟨A2, c2, rfl, _, _⟩ := own_len ho2
  have ho1' := (Upd.ofBelow (S := []) hb2).own ho1.out (by simp)
  have cb := bytes_same A1 A2 c1 c2 L w2 _ _ (by have := hLl.out; omega) (Rd.ofOwn ho1') (Rd.ofOwn ho2)
  rw [hLl.out] at cb
  have hb12 := hide (hb1.out.trans (hb2.mono hb1.out.size))
  replace cb := hide cb
  clear ho1 ho1' ho2 hb1 hb2 cS1
  go_wp2_with fail
  (with_reducible refine (cb.out).mono ?_)
  rintro e w3 ⟨rfl, n3, rfl⟩
  have hb3 := hide (show Below w.heap.size w (w2.drewN n3) from ⟨hb12.out.os, hb12.out.tape, hb12.out.output, hb12.out.size, hb12.out.block⟩)
  have cB3 := hide (cB.out _ hb3.out)
  clear cb hb12 cB
  generalize w2.drewN n3 = w3 at *
  go_wp2_with fail
  (with_reducible refine (cB3.out).mono ?_)
  rintro e w5 ⟨rfl, hb5⟩
  replace hb5 := hide hb5
  go_wp2
  go_ret
  exact ⟨rfl, hb3.out.trans (hb5.out.mono hb3.out.size)⟩

set_option maxRecDepth 100000 in
set_option maxHeartbeats 4000000 in
theorem pred8Law_any (M cv : Int) (va vl : List Int) (Aa Al : Option Addr) (ca cl : Nat) (w : World) (hL : Luts w) (hwa : ∀ n ∈ va, (Lit.int .u8 n).wf = true) (hwl : ∀ n ∈ vl, (Lit.int .u8 n).wf = true) (hma : va.length ≤ 9223372036854775807) (hml : vl.length ≤ 9223372036854775807) (hra : Rd .u8 w w.heap.size Aa va) (hrl : Rd .u8 w w.heap.size Al vl) :
    Calls Tryd.prog 3 #[.int .i64 M, .int .i64 cv, .slice Aa va.length ca, .slice Al vl.length cl] w fun e w' => e = .returned (.bool true) ∧ Below w.heap.size w w' := by
  by_cases hbig : 2147483647 < va.length ∨ 2147483647 < vl.length
  · clear hwa hwl hra hrl hL
    by_cases g0 : 2147483647 < va.length
    · have g1 : (2147483647 : Int) < (va.length : Int) := by omega
      clear g0 hbig
      go_enter Tryd.func3, Tryd.ntmps3
      go_wp2
      go_ret
      exact ⟨rfl, Below.refl _ _⟩
    · have g1 : ¬ (2147483647 : Int) < (va.length : Int) := by omega
      have g2 : (2147483647 : Int) < (vl.length : Int) := by omega
      clear g0 hbig
      go_enter Tryd.func3, Tryd.ntmps3
      go_wp2
      go_ret
      exact ⟨rfl, Below.refl _ _⟩
  · have g1 : ¬ (2147483647 : Int) < (va.length : Int) := by omega
    have g2 : ¬ (2147483647 : Int) < (vl.length : Int) := by omega
    clear hbig
    by_cases hok : large8B M = true ∧ 0 ≤ cv ∧ cv ≤ 255 ∧ va.length = 8 ∧ vl.length = 8
    · obtain ⟨hM, h1, h2, ha, hl⟩ := hok
      obtain ⟨L, hBo⟩ := both8 M cv va vl hM ha hl ⟨h1, h2⟩ (byte_wf8 hwa) (byte_wf8 hwl)
      rw [ha, hl]
      exact pred8_main M cv va vl L Aa Al ca cl w hL hM hBo ⟨h1, h2⟩ hra hrl
    · have hlt := hL.lt
      have cB := hide (readBool_any w hL)
      have cM := hide fun W => isLarge_any M W _ rfl
      clear hwa hwl hra hrl hL
      cases hM : large8B M with
      | false =>
        rw [hM] at cM
        clear hok hM
        go_enter Tryd.func3, Tryd.ntmps3
        go_wp2_with (first | (go_at_call 5; (with_reducible refine (cM.out _).mono ?_); rintro e w' ⟨rfl, rfl⟩) | fail)
        (with_reducible refine (cB.out).mono ?_)
        rintro e w5 ⟨rfl, hb5⟩
        replace hb5 := hide hb5
        go_wp2
        go_ret
        exact ⟨rfl, hb5.out⟩
      | true =>
        rw [hM] at cM
        by_cases h1 : cv < 0
        · clear hok hM
          go_enter Tryd.func3, Tryd.ntmps3
          go_wp2_with (first | (go_at_call 5; (with_reducible refine (cM.out _).mono ?_); rintro e w' ⟨rfl, rfl⟩) | fail)
          (with_reducible refine (cB.out).mono ?_)
          rintro e w5 ⟨rfl, hb5⟩
          replace hb5 := hide hb5
          go_wp2
          go_ret
          exact ⟨rfl, hb5.out⟩
        · by_cases h2 : 255 < cv
          · clear hok hM
            go_enter Tryd.func3, Tryd.ntmps3
            go_wp2_with (first | (go_at_call 5; (with_reducible refine (cM.out _).mono ?_); rintro e w' ⟨rfl, rfl⟩) | fail)
            (with_reducible refine (cB.out).mono ?_)
            rintro e w5 ⟨rfl, hb5⟩
            replace hb5 := hide hb5
            go_wp2
            go_ret
            exact ⟨rfl, hb5.out⟩
          · by_cases h3 : va.length = 8
            · have h4 : ¬ vl.length = 8 := fun h => hok ⟨hM, by omega, by omega, h3, h⟩
              have h4i : ((vl.length : Int) != 8) = true := by simp; omega
              have h3i : ((va.length : Int) != 8) = false := by simp; omega
              rw [h3]
              clear hok hM h4 h3 h3i g1
              go_enter Tryd.func3, Tryd.ntmps3
              go_wp2_with (first | (go_at_call 5; (with_reducible refine (cM.out _).mono ?_); rintro e w' ⟨rfl, rfl⟩) | fail)
              (with_reducible refine (cB.out).mono ?_)
              rintro e w5 ⟨rfl, hb5⟩
              replace hb5 := hide hb5
              go_wp2
              go_ret
              exact ⟨rfl, hb5.out⟩
            · have h3i : ((va.length : Int) != 8) = true := by simp; omega
              clear hok hM h3
              go_enter Tryd.func3, Tryd.ntmps3
              go_wp2_with (first | (go_at_call 5; (with_reducible refine (cM.out _).mono ?_); rintro e w' ⟨rfl, rfl⟩) | fail)
              (with_reducible refine (cB.out).mono ?_)
              rintro e w5 ⟨rfl, hb5⟩
              replace hb5 := hide hb5
              go_wp2
              go_ret
              exact ⟨rfl, hb5.out⟩
end Go.Proofs.YtleiehiabcgalaaDoor

/- 'DoorPredict8' and 'impl.Predict8': the walks, over any mode whose function is known. -/
import Derived.Test.YtleiehiabcgalaaDoorSq8
import Derived.Test.YtleiehiabcgalaaDoorVal8
import Derived.Test.YtleiehiabcgalaaDoorPred8
import Derived.Test.YtleiehiabcgalaaDoorTab8
import Derived.Deep.RegionWith
import Derived.Deep.RegionHeld3
namespace Go.Proofs.YtleiehiabcgalaaDoor
set_option linter.unusedSimpArgs false
set_option linter.unusedVariables false
open Go.RowKit Plain

def zq8 : Array Value := (List.replicate 64 (Value.int .u8 0)).toArray
theorem make_zero8 : ∀ W : World, (Instr.makeSlice 22 (.int .i64 64) (.int .i64 64)).run Tryd.prog W = .ok (.slice (some ⟨W.heap.size, 0, none⟩) 64 64) (W.alloc (.cells zq8 5)) := fun _ => by kernel_rfl
/-- The contract of one predicting function. -/
def Fills8 (F : Nat) (cv : Int) (va vl : List Int) (G : Nat → Nat → Int) : Prop := ∀ (g : Nat) (cur : Array Value) (w : World), Blk w g 100 cur → Sq8 cur cv va vl 8 8 → Calls Tryd.prog F #[.pointer (some ⟨g, 0, none⟩), .int .i64 1, .int .i64 8] w (Pred8 w g G)
/-- Which function a mode has. -/
def HasFn8 (M : Int) (F : Nat) : Prop := (∀ w : World, (Instr.index 48 (.agg tab8) (.int .i64 M)).run Tryd.prog w = .ok (.func (.func F) #[] #[]) w) ∧ ∀ (args : Array Value) (w : World), (callFunc F args).run Tryd.prog w = .ok (.enter F args) w

set_option maxRecDepth 100000 in
set_option maxHeartbeats 4000000 in
theorem door8_any (M : Int) (F : Nat) (Aa Al : Option Addr) (ca cl B : Nat) (cv : Int) (va vl : List Int) (G : Nat → Nat → Int) (w : World) (hF : HasFn8 M F) (hP : Fills8 F cv va vl G) (hla : va.length = 8) (hll : vl.length = 8) (hB : B ≤ w.heap.size) (hra : Rd .u8 w B Aa va) (hrl : Rd .u8 w B Al vl) :
    Calls Tryd.prog 16 #[.int .i64 M, .int .u8 cv, .slice Aa 8 ca, .slice Al 8 cl] w fun e w' => ∃ s, e = .returned s ∧ w'.ownsRow w.heap.size 5 1 s 64 ((rowQ8 (fun q => G (q / 8) (q % 8)) 64).map (Value.int .u8)) ∧ Below w.heap.size w w' := by
  obtain ⟨w2, hw2⟩ : ∃ w2, w2 = w.alloc (.cells zq8 5) := ⟨_, rfl⟩
  have hs2 : w2.heap.size = w.heap.size + 1 := by rw [hw2]; simp
  have hb2 : Below w.heap.size w w2 := by rw [hw2]; exact (Below.refl w.heap.size w).alloc (Nat.le_refl _) _
  have hL2 : Blk w2 w.heap.size 5 zq8 := by rw [hw2]; exact Blk.new w _ _
  have hlc : ∀ j, j < 64 → w2.cell? ⟨w.heap.size, j, none⟩ = some (.int .u8 0) := by
    intro j hj
    rw [hL2.cell j, zq8, List.getElem?_toArray, List.getElem?_replicate, if_pos hj]
  have cS := square8_any Aa Al ca cl B w.heap.size 8 cv va vl w2 (by decide) hla hll (by omega) (hra.keep fun p hp => hb2.cell (by omega)) (hrl.keep fun p hp => hb2.cell (by omega)) (by omega) hlc
  rw [hs2] at cS
  have cT := fun W => predFunc8_any W
  have cV := fun (cur : Array Value) (w5 : World) => values8_any (w.heap.size + 1) (fun q => G (q / 8) (q % 8)) cur w5
  have hmk := fun W => make_zero8 W
  have hIx := hF.1
  have hEn := hF.2
  replace cS := hide cS
  replace cT := hide cT
  replace cV := hide cV
  replace hb2 := hide hb2
  replace hs2 := hide hs2
  replace hP := hide hP
  clear hra hrl hL2 hlc hF
  go_enter Tryd.func16, Tryd.ntmps16
  go_wp2_with fail
  rw [← hw2]
  clear hw2
  (with_reducible refine (cS.out).mono ?_)
  rintro e w3 ⟨cur, rfl, hC, hS, hb3⟩
  have hszE := hb3.size
  have hb3' := hide (hb2.out.trans (hb3.mono (by omega)))
  replace hC := hide hC
  replace hS := hide hS
  have hg3 := hide hC.out.lt
  clear cS hb2 hb3
  go_wp2_with fail
  (with_reducible refine (cT.out _).mono ?_)
  rintro e w4 ⟨rfl, hb4⟩
  have hb4' := hide (hb3'.out.trans (hb4.mono hb3'.out.size))
  have hC4 := hide (hC.out.below hb4 (by have := hg3.out; omega))
  have cF4 := hide (hP.out _ _ _ hC4.out hS.out)
  have hsz4 := hide hb4.size
  clear hC hb4 hb3' cT hP hS
  go_wp2_with fail
  (with_reducible refine (cF4.out).mono ?_)
  rintro e w5 ⟨rfl, hU, cur', hC5, hs5, hF5⟩
  have hb5 := hide (hb4'.out.trans (hU.below (B := w.heap.size) (by simp) hb4'.out.size))
  have cV5 := hide (cV.out cur' w5 hC5 hs5 (fun a b ha hb => by
    have h := hF5 a b hb (.inl ha)
    rw [show 1650 + (1 + a) * 32 + 8 + b = 1650 + (1 + a) * 32 + (8 + b) by omega, h, show (8 * a + b) / 8 = a by omega, show (8 * a + b) % 8 = b by omega]))
  clear hU hC5 hF5 cF4 hb4' cV hC4
  go_wp2_with fail
  (with_reducible refine (cV5.out).mono ?_)
  rintro e w6 ⟨s, rfl, ho, hb6⟩
  replace ho := hide ho
  replace hb6 := hide hb6
  go_wp2_with fail
  go_ret
  exact ⟨s, rfl, own_down ho.out hb5.out.size, hb5.out.trans (hb6.out.mono hb5.out.size)⟩

set_option maxRecDepth 100000 in
set_option maxHeartbeats 4000000 in
theorem implPred8_any (M : Int) (F : Nat) (Aa Al : Option Addr) (ca cl B : Nat) (cv : Int) (va vl : List Int) (G : Nat → Nat → Int) (w : World) (hc1 : 0 ≤ cv) (hc2 : cv ≤ 255) (hF : HasFn8 M F) (hP : Fills8 F cv va vl G) (hla : va.length = 8) (hll : vl.length = 8) (hB : B ≤ w.heap.size) (hra : Rd .u8 w B Aa va) (hrl : Rd .u8 w B Al vl) :
    Calls Tryd.prog 8 #[.int .i64 M, .int .i64 cv, .slice Aa 8 ca, .slice Al 8 cl] w fun e w' => ∃ s, e = .returned s ∧ w'.ownsRow w.heap.size 5 1 s 64 ((rowQ8 (fun q => G (q / 8) (q % 8)) 64).map (Value.int .u8)) ∧ Below w.heap.size w w' := by
  have cD := hide (door8_any M F Aa Al ca cl B cv va vl G w hF hP hla hll hB hra hrl)
  have V : IntKind.u8.wrap cv = cv := IntWalk.u8_in _ (by omega)
  clear hF hP hra hrl
  go_enter Tryd.func8, Tryd.ntmps8
  go_wp2_with fail
  (with_reducible refine (cD.out).mono ?_)
  rintro e w6 ⟨s, rfl, ho, hb6⟩
  replace ho := hide ho
  replace hb6 := hide hb6
  go_wp2_with fail
  go_ret
  exact ⟨s, rfl, ho.out, hb6.out⟩
end Go.Proofs.YtleiehiabcgalaaDoor

/- 'DoorPredict16' and 'impl.Predict16': the walks, over any mode whose function is known. -/
import Derived.Test.YtleiehiabcgalaaDoorSq16
import Derived.Test.YtleiehiabcgalaaDoorVal16
import Derived.Test.YtleiehiabcgalaaDoorPred16
import Derived.Test.YtleiehiabcgalaaDoorTab16
import Derived.Deep.RegionWith
import Derived.Deep.RegionHeld3
namespace Go.Proofs.YtleiehiabcgalaaDoor
set_option linter.unusedSimpArgs false
set_option linter.unusedVariables false
open Go.RowKit Plain

def zq16 : Array Value := (List.replicate 256 (Value.int .u8 0)).toArray
theorem make_zero16 : ∀ W : World, (Instr.makeSlice 22 (.int .i64 256) (.int .i64 256)).run Tryd.prog W = .ok (.slice (some ⟨W.heap.size, 0, none⟩) 256 256) (W.alloc (.cells zq16 5)) := fun _ => by kernel_rfl
/-- The contract of one predicting function. -/
def Fills16 (F : Nat) (cv : Int) (va vl : List Int) (G : Nat → Nat → Int) : Prop := ∀ (g : Nat) (cur : Array Value) (w : World), Blk w g 100 cur → Sq16 cur cv va vl 16 16 → Calls Tryd.prog F #[.pointer (some ⟨g, 0, none⟩), .int .i64 1, .int .i64 8] w (Pred16 w g G)
/-- Which function a mode has. -/
def HasFn16 (M : Int) (F : Nat) : Prop := (∀ w : World, (Instr.index 48 (.agg tab16) (.int .i64 M)).run Tryd.prog w = .ok (.func (.func F) #[] #[]) w) ∧ ∀ (args : Array Value) (w : World), (callFunc F args).run Tryd.prog w = .ok (.enter F args) w

set_option maxRecDepth 100000 in
set_option maxHeartbeats 4000000 in
theorem door16_any (M : Int) (F : Nat) (Aa Al : Option Addr) (ca cl B : Nat) (cv : Int) (va vl : List Int) (G : Nat → Nat → Int) (w : World) (hF : HasFn16 M F) (hP : Fills16 F cv va vl G) (hla : va.length = 16) (hll : vl.length = 16) (hB : B ≤ w.heap.size) (hra : Rd .u8 w B Aa va) (hrl : Rd .u8 w B Al vl) :
    Calls Tryd.prog 19 #[.int .i64 M, .int .u8 cv, .slice Aa 16 ca, .slice Al 16 cl] w fun e w' => ∃ s, e = .returned s ∧ w'.ownsRow w.heap.size 5 1 s 256 ((rowQ16 (fun q => G (q / 16) (q % 16)) 256).map (Value.int .u8)) ∧ Below w.heap.size w w' := by
  obtain ⟨w2, hw2⟩ : ∃ w2, w2 = w.alloc (.cells zq16 5) := ⟨_, rfl⟩
  have hs2 : w2.heap.size = w.heap.size + 1 := by rw [hw2]; simp
  have hb2 : Below w.heap.size w w2 := by rw [hw2]; exact (Below.refl w.heap.size w).alloc (Nat.le_refl _) _
  have hL2 : Blk w2 w.heap.size 5 zq16 := by rw [hw2]; exact Blk.new w _ _
  have hlc : ∀ j, j < 256 → w2.cell? ⟨w.heap.size, j, none⟩ = some (.int .u8 0) := by
    intro j hj
    rw [hL2.cell j, zq16, List.getElem?_toArray, List.getElem?_replicate, if_pos hj]
  have cS := square16_any Aa Al ca cl B w.heap.size 16 cv va vl w2 (by decide) hla hll (by omega) (hra.keep fun p hp => hb2.cell (by omega)) (hrl.keep fun p hp => hb2.cell (by omega)) (by omega) hlc
  rw [hs2] at cS
  have cT := fun W => predFunc16_any W
  have cV := fun (cur : Array Value) (w5 : World) => values16_any (w.heap.size + 1) (fun q => G (q / 16) (q % 16)) cur w5
  have hmk := fun W => make_zero16 W
  have hIx := hF.1
  have hEn := hF.2
  replace cS := hide cS
  replace cT := hide cT
  replace cV := hide cV
  replace hb2 := hide hb2
  replace hs2 := hide hs2
  replace hP := hide hP
  clear hra hrl hL2 hlc hF
  go_enter Tryd.func19, Tryd.ntmps19
  go_wp2_with fail
  rw [← hw2]
  clear hw2
  (with_reducible refine (cS.out).mono ?_)
  rintro e w3 ⟨cur, rfl, hC, hS, hb3⟩
  have hszE := hb3.size
  have hb3' := hide (hb2.out.trans (hb3.mono (by omega)))
  replace hC := hide hC
  replace hS := hide hS
  have hg3 := hide hC.out.lt
  clear cS hb2 hb3
  go_wp2_with fail
  (with_reducible refine (cT.out _).mono ?_)
  rintro e w4 ⟨rfl, hb4⟩
  have hb4' := hide (hb3'.out.trans (hb4.mono hb3'.out.size))
  have hC4 := hide (hC.out.below hb4 (by have := hg3.out; omega))
  have cF4 := hide (hP.out _ _ _ hC4.out hS.out)
  have hsz4 := hide hb4.size
  clear hC hb4 hb3' cT hP hS
  go_wp2_with fail
  (with_reducible refine (cF4.out).mono ?_)
  rintro e w5 ⟨rfl, hU, cur', hC5, hs5, hF5⟩
  have hb5 := hide (hb4'.out.trans (hU.below (B := w.heap.size) (by simp) hb4'.out.size))
  have cV5 := hide (cV.out cur' w5 hC5 hs5 (fun a b ha hb => by
    have h := hF5 a b hb (.inl ha)
    rw [show 1650 + (1 + a) * 32 + 8 + b = 1650 + (1 + a) * 32 + (8 + b) by omega, h, show (16 * a + b) / 16 = a by omega, show (16 * a + b) % 16 = b by omega]))
  clear hU hC5 hF5 cF4 hb4' cV hC4
  go_wp2_with fail
  (with_reducible refine (cV5.out).mono ?_)
  rintro e w6 ⟨s, rfl, ho, hb6⟩
  replace ho := hide ho
  replace hb6 := hide hb6
  go_wp2_with fail
  go_ret
  exact ⟨s, rfl, own_down ho.out hb5.out.size, hb5.out.trans (hb6.out.mono hb5.out.size)⟩

set_option maxRecDepth 100000 in
set_option maxHeartbeats 4000000 in
theorem implPred16_any (M : Int) (F : Nat) (Aa Al : Option Addr) (ca cl B : Nat) (cv : Int) (va vl : List Int) (G : Nat → Nat → Int) (w : World) (hc1 : 0 ≤ cv) (hc2 : cv ≤ 255) (hF : HasFn16 M F) (hP : Fills16 F cv va vl G) (hla : va.length = 16) (hll : vl.length = 16) (hB : B ≤ w.heap.size) (hra : Rd .u8 w B Aa va) (hrl : Rd .u8 w B Al vl) :
    Calls Tryd.prog 11 #[.int .i64 M, .int .i64 cv, .slice Aa 16 ca, .slice Al 16 cl] w fun e w' => ∃ s, e = .returned s ∧ w'.ownsRow w.heap.size 5 1 s 256 ((rowQ16 (fun q => G (q / 16) (q % 16)) 256).map (Value.int .u8)) ∧ Below w.heap.size w w' := by
  have cD := hide (door16_any M F Aa Al ca cl B cv va vl G w hF hP hla hll hB hra hrl)
  have V : IntKind.u8.wrap cv = cv := IntWalk.u8_in _ (by omega)
  clear hF hP hra hrl
  go_enter Tryd.func11, Tryd.ntmps11
  go_wp2_with fail
  (with_reducible refine (cD.out).mono ?_)
  rintro e w6 ⟨s, rfl, ho, hb6⟩
  replace ho := hide ho
  replace hb6 := hide hb6
  go_wp2_with fail
  go_ret
  exact ⟨s, rfl, ho.out, hb6.out⟩
end Go.Proofs.YtleiehiabcgalaaDoor

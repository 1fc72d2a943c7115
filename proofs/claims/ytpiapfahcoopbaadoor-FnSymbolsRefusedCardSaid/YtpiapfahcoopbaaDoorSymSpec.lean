/- 'spec.Symbols' of a tree without gaps: the walk. -/
import Derived.Test.YtpiapfahcoopbaaDoorSymSome
namespace Go.Proofs.YtpiapfahcoopbaaDoor
set_option linter.unusedSimpArgs false
set_option linter.unusedVariables false
open Go.RowKit Plain

theorem setCells_sz (b : Nat) : ∀ (vs : List Value) (o : Nat) (w : World), (w.setCells b o vs).heap.size = w.heap.size
  | [], _, _ => rfl
  | v :: r, o, w => by rw [World.setCells, setCells_sz b r]; simp [World.setCell]
theorem rangeAt_alloc {w : World} {g o : Nat} {cs : List Value} (h : w.rangeAt g o cs) (ob : Obj) : (w.alloc ob).rangeAt g o cs := fun j v hj => by
  have h1 := h j v hj
  rw [World.cell?_alloc_lt w ob _ (World.block_lt_of_cell? _ _ h1)]
  exact h1
set_option maxRecDepth 100000 in
set_option maxHeartbeats 4000000 in
theorem specSyms_any (As A : Option Addr) (caps cap n : Nat) (L Bs : List Nat) (w : World) (hl : (L.length : Int) ≤ 4096) (hL : ∀ x ∈ L, x ≤ 15) (hk : kS L 15 = 32768) (hn2 : 2 ≤ nz L) (hmd : madeB L = true) (hB : Oct Bs) (hlb : (Bs.length : Int) ≤ 1048576) (hn : (n : Int) ≤ 4096)
    (hSs : Rd .i64 w w.heap.size As (ofN' L)) (hS : Rd .u8 w w.heap.size A (ofN' Bs)) :
    Calls Tryd.prog 21 #[.slice As L.length caps, .slice A Bs.length cap, .int .i64 n] w (SymsPost L Bs n w.heap.size [] w) := by
  have cM := made_any As caps w.heap.size L w hl hL hSs (Nat.le_refl _)
  unfold MadePost at cM
  rw [hmd] at cM
  replace cM := hide cM
  have cS := fun (g base : Nat) (As : Option Addr) (cs : Nat) (w1 : World) (hD : RefB w1 g A Bs.length cap 0 false false (.pointer none)) (hS : Rd .u8 w1 base A (ofN' Bs)) (hbw : base ≤ w1.heap.size) (hg : base ≤ g) (hSy : Rd .i64 w1 w1.heap.size As (ofN' (symsU L 15))) (hgs : ∀ a, As = some a → a.block ≠ g) =>
    some_any g base cap A As cs n L Bs false (.pointer none) w1 hL hk (by omega) hn2 hB (by omega) hn hD hS hbw hg hSy hgs
  replace hS := hide hS
  replace hL := hide hL
  replace cS := hide cS
  replace hk := hide hk
  replace hmd := hide hmd
  go_enter Tryd.func21, Tryd.ntmps21
  go_wp2_with fail
  (with_reducible refine (cM.out).mono ?_)
  rintro e w1 ⟨v1, rfl, ho1, hb1⟩
  obtain ⟨Ay, cs, rfl, _, _⟩ := own_len ho1
  have cS' := fun g base w1 => cS.out g base Ay cs w1
  have hsz17 : (codeRow (fun c => if 1 ≤ c then ((cnt L c : Nat) : Int) else 0) (.slice Ay (nz L) cs)).size = 17 := by simp [codeRow, rowF]
  have hone : (codeRow (fun c => if 1 ≤ c then ((cnt L c : Nat) : Int) else 0) (.slice Ay (nz L) cs)).all (·.oneCell') = true := by
    rw [Array.all_eq_true_iff_forall_mem]
    intro v hv
    unfold codeRow rowF at hv
    simp at hv
    rcases hv with ⟨_, _, rfl⟩ | rfl <;> rfl
  generalize codeRow (fun c => if 1 ≤ c then ((cnt L c : Nat) : Int) else 0) (.slice Ay (nz L) cs) = CS at *
  replace cS' := hide cS'
  replace hb1 := hide hb1
  have hT : Hid ((w1.alloc (.cells (codeRow (fun _ => 0) (.slice none 0 0)) 75)).there w1.heap.size 0 17) := hide ((Blk.new w1 75 (codeRow (fun _ => 0) (.slice none 0 0))).there 17 (by simp [codeRow, rowF]))
  have hU2 : Upd [] w ((w1.alloc (.cells (#[.int .i64 0, .int .i64 0, .int .i64 0, .int .i64 0, .int .i64 0, .int .i64 0, .int .i64 0, .int .i64 0, .int .i64 0, .int .i64 0, .int .i64 0, .int .i64 0, .int .i64 0, .int .i64 0, .int .i64 0, .int .i64 0, .slice none 0 0]) 75)).setCells w1.heap.size 0 CS.toList) := by
    have h := (Upd.ofBelow (S := []) hb1.out).alloc (.cells (#[.int .i64 0, .int .i64 0, .int .i64 0, .int .i64 0, .int .i64 0, .int .i64 0, .int .i64 0, .int .i64 0, .int .i64 0, .int .i64 0, .int .i64 0, .int .i64 0, .int .i64 0, .int .i64 0, .int .i64 0, .int .i64 0, .slice none 0 0]) 75)
    have h2 := below_setCells (B := w.heap.size) (g := w1.heap.size) hb1.out.size CS.toList 0 h.toBelow
    exact Upd.ofBelow h2
  have hSy2 : Rd .i64 ((w1.alloc (.cells (#[.int .i64 0, .int .i64 0, .int .i64 0, .int .i64 0, .int .i64 0, .int .i64 0, .int .i64 0, .int .i64 0, .int .i64 0, .int .i64 0, .int .i64 0, .int .i64 0, .int .i64 0, .int .i64 0, .int .i64 0, .int .i64 0, .slice none 0 0]) 75)).setCells w1.heap.size 0 CS.toList) w1.heap.size Ay (ofN' (symsU L 15)) := by
    have h := Rd.ofOwn ho1
    have u1 := (Upd.refl [w1.heap.size] w1).alloc (.cells (#[.int .i64 0, .int .i64 0, .int .i64 0, .int .i64 0, .int .i64 0, .int .i64 0, .int .i64 0, .int .i64 0, .int .i64 0, .int .i64 0, .int .i64 0, .int .i64 0, .int .i64 0, .int .i64 0, .int .i64 0, .int .i64 0, .slice none 0 0]) 75)
    have u2 := upd_setCells (S := [w1.heap.size]) (g := w1.heap.size) (by simp) CS.toList 0 u1
    exact h.updNe u2 (Nat.le_refl _) (fun a ha => by
      obtain ⟨b, off, hab, hb, _⟩ := h.at_ (j := 0) (by rw [ofN'_len, symsU_len, cntS_all L hL.out]; omega)
      rw [hab] at ha
      cases ha
      simp
      omega)
  have hr2 := World.rangeAt_setCells_same (w1.alloc (.cells (#[.int .i64 0, .int .i64 0, .int .i64 0, .int .i64 0, .int .i64 0, .int .i64 0, .int .i64 0, .int .i64 0, .int .i64 0, .int .i64 0, .int .i64 0, .int .i64 0, .int .i64 0, .int .i64 0, .int .i64 0, .int .i64 0, .slice none 0 0]) 75)) w1.heap.size 0 CS.toList (by rw [Array.length_toList, hsz17]; exact hT.out)
  have hzz : ((w1.alloc (.cells (#[.int .i64 0, .int .i64 0, .int .i64 0, .int .i64 0, .int .i64 0, .int .i64 0, .int .i64 0, .int .i64 0, .int .i64 0, .int .i64 0, .int .i64 0, .int .i64 0, .int .i64 0, .int .i64 0, .int .i64 0, .int .i64 0, .slice none 0 0]) 75)).setCells w1.heap.size 0 CS.toList).heap.size = w1.heap.size + 1 := by rw [setCells_sz]; simp
  clear cS cM
  replace ho1 := hide ho1
  replace hU2 := hide hU2
  replace hSy2 := hide hSy2
  replace hr2 := hide hr2
  replace hzz := hide hzz
  go_wp2_with (first | (refine wpList_store_mid rfl 75 (.tmp 8) (.tmp 13) rfl w1.heap.size 0 CS rfl rfl (by rw [hsz17]; exact hT.out) (by rw [hsz17]; exact size_code) hone ?_) | (refine wpList_load_mid rfl 75 (.tmp 8) rfl w1.heap.size 0 rfl CS.toList _ ?hrr Tryd.underlying75 rfl (by rw [Array.length_toList, hsz17]; exact size_code) ?_) | fail)
  case hrr => exact rangeAt_alloc hr2.out _
  generalize (w1.alloc (.cells #[.int .i64 0, .int .i64 0, .int .i64 0, .int .i64 0, .int .i64 0, .int .i64 0, .int .i64 0, .int .i64 0, .int .i64 0, .int .i64 0, .int .i64 0, .int .i64 0, .int .i64 0, .int .i64 0, .int .i64 0, .int .i64 0, .slice none 0 0] 75)).setCells w1.heap.size 0 CS.toList = W2 at *
  rw [hzz.out]
  have hW3 : (W2.alloc (.cells #[.slice A Bs.length cap, .int .i64 0, .bool false, .bool false, .pointer none] 67)).heap.size = w1.heap.size + 2 := by rw [World.size_alloc, hzz.out]
  have hU3 := hide (hU2.out.alloc (.cells #[.slice A Bs.length cap, .int .i64 0, .bool false, .bool false, .pointer none] 67))
  have hR3 : RefB (W2.alloc (.cells #[.slice A Bs.length cap, .int .i64 0, .bool false, .bool false, .pointer none] 67)) (w1.heap.size + 1) A Bs.length cap 0 false false (.pointer none) := by
    have h := Blk.new W2 67 #[.slice A Bs.length cap, .int .i64 0, .bool false, .bool false, .pointer none]
    rw [hzz.out] at h
    exact h
  have hSy3 := (hSy2.out.alloc (by rw [hzz.out]; omega) (.cells #[.slice A Bs.length cap, .int .i64 0, .bool false, .bool false, .pointer none] 67))
  have hS3 := hide (hS.out.upd hU3.out (Nat.le_refl _) (by simp))
  replace hW3 := hide hW3
  replace hR3 := hide hR3
  replace hSy3 := hide hSy3
  generalize W2.alloc (.cells #[.slice A Bs.length cap, .int .i64 0, .bool false, .bool false, .pointer none] 67) = W3 at *
  have hb1s := hb1.out.size
  have hnS : ∀ a, Ay = some a → a.block ≠ w1.heap.size + 1 := by
    intro a ha
    obtain ⟨b, off, hab, hb, _⟩ := hSy3.out.at_ (j := 0) (by rw [ofN'_len, symsU_len, cntS_all L hL.out]; omega)
    rw [hab] at ha
    cases ha
    show b ≠ w1.heap.size + 1
    omega
  have cF := cS'.out (w1.heap.size + 1) w.heap.size W3 hR3.out hS3.out hU3.out.size (by omega) (hSy3.out.more (by rw [hW3.out]; omega)) hnS
  replace cF := hide cF
  (with_reducible refine (cF.out).mono ?_)
  rintro e w4 ⟨m, v, hst, rfl, ho4, hU4⟩
  have hU5 := hide (hU3.out.step hU4 (by simp; omega))
  rw [hW3.out] at ho4
  have ho5 := hide (own_down ho4 (base' := w.heap.size) (by omega))
  replace hst := hide hst
  clear ho4 hU4 hSy3 hR3 hS3 hU3 hSy2 hr2 hU2 hT
  go_wp2
  go_ret2
  exact ⟨m, v, hst.out, rfl, ho5.out, hU5.out⟩
end Go.Proofs.YtpiapfahcoopbaaDoor

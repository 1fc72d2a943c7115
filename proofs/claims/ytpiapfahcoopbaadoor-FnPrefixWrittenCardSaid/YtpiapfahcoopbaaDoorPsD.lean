/- Trees of lengths, of one symbol and of two as well; the reader as one state. -/
import Derived.Test.YtpiapfahcoopbaaDoorNext
import Derived.Test.YtpiapfahcoopbaaDoorBuild
import Derived.Test.YtpiapfahcoopbaaDoorNextC
import Derived.Test.YtpiapfahcoopbaaDoorPsB
import Derived.Test.YtpiapfahcoopbaaDoorSymTop
import Derived.Test.YtpiapfahcoopbaaDoorReadImpl
namespace Go.Proofs.YtpiapfahcoopbaaDoor
set_option linter.unusedSimpArgs false
set_option linter.unusedVariables false
open Go.RowKit Plain

/-- A tree of the symbol s alone in memory. -/
structure One (s : Nat) (w : World) (g nt : Nat) (lt : Nat → Nat) : Prop where
  mem : TreeM w g nt 1 [⟨0, 0, -1, s⟩] lt
  lut : ∀ x, x < 128 → lt x = s * 256 + 1
theorem One.upd {s : Nat} {w w' : World} {S : List Nat} {g nt : Nat} {lt : Nat → Nat} (h : One s w g nt lt) (u : Upd S w w') (h1 : g ∉ S) (h2 : nt ∉ S) : One s w' g nt lt := ⟨h.mem.upd u h1 h2, h.lut⟩
def OnePost (g nb k : Nat) (w : World) (e : Ending) (w' : World) : Prop := e = .returned .nilIface ∧ (∃ lt, One k w' g nb lt) ∧ Upd [g, nb] w w'
set_option maxRecDepth 100000 in
set_option maxHeartbeats 8000000 in
theorem insert0_any (g nb k : Nat) (ae : Addr) (w : World) (hk4 : k < 4096) (hM : TreeM w g nb 1 [⟨0, 0, 0, 0⟩] (fun _ => 0)) (hTab : TabH w ae) :
    Calls Tryd.prog 67 #[.pointer (some ⟨g, 0, none⟩), .int .u32 k, .int .u32 0, .int .u32 0] w (OnePost g nb k w) := by
  have hk4I : (k : Int) < 4096 := by omega
  have hk65 : ¬ (65535 : Int) < (k : Int) := by omega
  have hm255 := and255
  have hm1 := and1
  have hgn := hM.ne
  have hgn' : ¬ nb = g := fun e => hgn e.symm
  have hx := hTab.rev 0 (by decide)
  rw [show revN 0 8 = 0 from rfl] at hx
  replace hM := hide hM
  replace hTab := hide hTab
  have hor : bits .or .u32 ((k : Int) * 256) 1 = ((k * 256 + 1 : Nat) : Int) := or_val k 0 hk4 (by decide)
  go_enter Tryd.func67, Tryd.ntmps67
  go_wp2_with fail
  go_loopg [10] 128 (fun n ui wr => ∃ i : Nat, n + i = 128 ∧ ui = .int .i64 i ∧ TreeM wr g nb 1 [⟨0, 0, 0, 0⟩] (fillL k 0 0 i (fun _ => 0)) ∧ Upd [g, nb] w wr)
  case atStart => exact ⟨0, by simp, rfl, by rw [fillL_zero]; exact hM.out, Upd.refl _ _⟩
  case round =>
    obtain ⟨i, hi, rfl, hM2, hUp⟩ := hrel
    clear hM
    cases gk with
    | succ n =>
      have hiI : (i : Int) < 128 := by omega
      have hj : bits .or .u32 0 (i : Int) = (i : Int) := by
        have := join_bits 0 i 0 (by decide) (by decide) (by omega)
        simpa using this
      have hc1 := hM2.lut i (by omega)
      have hf1 := hM2.fsl (1 + i)
      have hstep := fillL_succ k 0 0 i (fun _ => 0) (by decide)
      rw [show 0 + i * 2 ^ 0 = i from by simp] at hstep
      replace hM2 := hide hM2
      replace hUp := hide hUp
      replace hstep := hide hstep
      replace hi := hide hi
      go_wp2_with fail
      go_roundg n
      case measure => omega
      case rel => exact ⟨i + 1, by have := hi.out; omega, by go_num, by rw [← hstep.out]; exact hM2.out.setLut i (by omega) _, hUp.out.setCell (p := ⟨g, 1 + i, none⟩) (.inl (by simp)) _⟩
    | zero =>
      obtain rfl : i = 128 := by omega
      have kSl := hM2.sl
      have kCh := hM2.ch (i := 0) (nd := ⟨0, 0, 0, 0⟩) rfl
      have kSy := hM2.sym (i := 0) (nd := ⟨0, 0, 0, 0⟩) rfl
      have hf1 := hM2.fnd 1
      have hf0 := hM2.fnd 0
      have hM3 := hM2.grow (i := 0) (nd := ⟨0, 0, 0, 0⟩) rfl k
      have hU2 := (hUp.setCell (p := ⟨nb, 1, none⟩) (.inl (by simp)) (.int .i32 (-1))).setCell (p := ⟨nb, 0, none⟩) (.inl (by simp)) (.int .u32 k)
      have hfin : One k ((wr.setCell ⟨nb, 1, none⟩ (.int .i32 (-1))).setCell ⟨nb, 0, none⟩ (.int .u32 (k : Nat))) g nb (fillL k 0 0 128 (fun _ => 0)) := ⟨hM3, fun x hx => by unfold fillL; rw [if_pos ⟨by simp [Nat.mod_one], by simpa using hx⟩]⟩
      replace hfin := hide hfin
      replace hU2 := hide hU2
      clear hM2 hUp hM3 hor hx hi
      simp only [Nat.zero_mul, Nat.zero_add] at kCh kSy
      go_wp2_with fail
      go_loopg [3, 11, 12] 0 (fun r u3 u11 u12 w2 => u3 = .int .u32 0 ∧ u11 = .int .u32 0 ∧ u12 = .int .i64 7 ∧ wr = w2)
      case atStart => exact ⟨rfl, rfl, rfl, rfl⟩
      case round =>
        obtain ⟨rfl, rfl, rfl, rfl⟩ := hrel
        go_wp2_with fail
        go_ret
        exact ⟨rfl, ⟨_, hfin.out⟩, hU2.out⟩
end Go.Proofs.YtpiapfahcoopbaaDoor
namespace Go.Proofs.YtpiapfahcoopbaaDoor
set_option linter.unusedSimpArgs false
set_option linter.unusedVariables false
open Go.RowKit Plain

/-- What 'next' answers where the symbol is known. -/
def SymPost (Bs : List Nat) (q s gd r cap : Nat) (A : Option Addr) (w : World) (e : Ending) (w' : World) : Prop :=
  ∃ i' nb' bt', e = .returned (.tuple #[.int .u32 (s : Nat), .nilIface]) ∧ Kept Bs i' q nb' bt' ∧ nb' ≤ 31 ∧ Dec w' gd r A Bs.length cap i' nb' bt' ∧ Upd [gd, r] w w'
set_option maxRecDepth 100000 in
set_option maxHeartbeats 8000000 in
theorem next1_a (g nt gd r cap i pos nb bt s : Nat) (A : Option Addr) (Bs : List Nat) (lt : Nat → Nat) (w : World) (hs : s < 4096) (hO : One s w g nt lt) (hB : Oct Bs) (hK : Kept Bs i pos nb bt) (hnb : nb ≤ 31) (hD : Dec w gd r A Bs.length cap i nb bt) (hgr : gd ≠ r) (hd1 : g ≠ gd ∧ g ≠ r ∧ nt ≠ gd ∧ nt ≠ r) (hn7 : 7 ≤ nb) :
    Calls Tryd.prog 68 #[.pointer (some ⟨g, 0, none⟩), .pointer (some ⟨gd, 0, none⟩)] w (SymPost Bs pos s gd r cap A w) := by
  have hm1 := and1
  have hm255 := and255
  have hm127 := and127
  obtain ⟨e1, e2, e3, e4⟩ := hd1
  have e1' : ¬ gd = g := fun h => e1 h.symm
  have e3' : ¬ gd = nt := fun h => e3 h.symm
  have c0 := hD.d.cell 0
  have c2 := hD.d.cell 1
  have c3 := hD.d.cell 2
  have fr1 := hD.d.frozen 1
  have fr2 := hD.d.frozen 2
  simp at c0 c2 c3
  have hDl := hide hD.d
  obtain ⟨prl, hRl⟩ := hD.r
  replace hRl := hide hRl
  have hUl := hide (Upd.refl [gd, r] w)
  have hx128 : bt % 128 < 128 := Nat.mod_lt _ (by decide)
  have eX : ((bt : Int) % 128).toNat = bt % 128 := by omega
  have kLt := hO.mem.lut (bt % 128) hx128
  rw [hO.lut _ hx128] at kLt
  have hbb4 : bt < 4294967296 := Nat.lt_of_lt_of_le (hK.lt hB) (Nat.le_trans (Nat.pow_le_pow_right (by decide) hnb) (by decide))
  have hbI4 : ((bt : Nat) : Int) ≤ 4294967295 := by omega
  have hn7I : ¬ ((nb : Nat) : Int) < 7 := by omega
  have hn7J : (7 : Int) ≤ ((nb : Nat) : Int) := by omega
  have hn31 : ((nb : Nat) : Int) ≤ 31 := by omega
  have hm : ((s * 256 + 1 : Nat) : Int) % 256 = 1 := by omega
  have hd : ((s * 256 + 1 : Nat) : Int) / 256 = (s : Int) := by omega
  have hvb : ((s * 256 + 1 : Nat) : Int) ≤ 1048832 := by omega
  have hv0 : (0 : Int) ≤ ((s * 256 + 1 : Nat) : Int) := by omega
  generalize s * 256 + 1 = V at *
  replace hK := hide hK
  replace hO := hide hO
  replace hB := hide hB
  replace hD := hide hD
  go_enter Tryd.func68, Tryd.ntmps68
  go_wp2_with fail
  go_step3
  go_wp2_with fail
  go_quiet (fail)
  go_wp2_with fail
  try rw [Exit.noGoto_ret]
  go_ret2
  refine ⟨i, nb, bt, rfl, hK.out, hnb, ⟨?_, prl, ?_⟩, ?_⟩
  · exact Blk.dec ((hDl.out.set_ 1 _).set_ 2 _) rfl (by simp) (by simp)
  · exact Blk.to (Blk.far (Blk.far hRl.out (p := ⟨gd, 1, none⟩) (by simp; omega) (.int .u32 (bt : Int))) (p := ⟨gd, 2, none⟩) (by simp; omega) (.int .u32 (nb : Int))) rfl rfl
  · exact (((hUl.out.setCell (p := ⟨gd, 1, none⟩) (by simp) (.int .u32 (bt : Int))).setCell (p := ⟨gd, 2, none⟩) (by simp) (.int .u32 (nb : Int))).drewN nq)
set_option maxRecDepth 100000 in
set_option maxHeartbeats 8000000 in
theorem next1_b (g nt gd r base cap i pos nb bt s : Nat) (A : Option Addr) (Bs : List Nat) (lt : Nat → Nat) (ae au : Addr) (w : World) (hs : s < 4096) (hO : One s w g nt lt) (hB : Oct Bs) (hlen : (Bs.length : Int) ≤ 1073741824) (hK : Kept Bs i pos nb bt) (hnb : nb ≤ 31) (hD : Dec w gd r A Bs.length cap i nb bt) (hS : Rd .u8 w base A (ofN' Bs)) (hbw : base ≤ w.heap.size) (hE : Ends w ae au)
    (hg : base ≤ gd) (hr : base ≤ r) (hgr : gd ≠ r) (hge : gd ≠ 0 ∧ gd ≠ 1 ∧ r ≠ 0 ∧ r ≠ 1) (hd1 : g ≠ gd ∧ g ≠ r ∧ nt ≠ gd ∧ nt ≠ r) (h7 : nb < 7) (hi : i < Bs.length) :
    Calls Tryd.prog 68 #[.pointer (some ⟨g, 0, none⟩), .pointer (some ⟨gd, 0, none⟩)] w (SymPost Bs pos s gd r cap A w) := by
  obtain ⟨ic, hi9, hcmp⟩ := Option.map_eq_some_iff.1 comp_es
  obtain ⟨jc, hj9, _⟩ := Option.map_eq_some_iff.1 size_es
  have qE : ∀ w, (binOp .eql 61 (.iface 127 (.pointer (some ae))) (.iface 127 (.pointer (some ae)))).run Tryd.prog w = .ok (.bool true) w :=
    fun w => run_eql_iface_ptr_same w ae Tryd.underlying61 Tryd.underlying127 hi9 hcmp hj9
  clear hi9 hj9 hcmp
  have NA := nil_ahead
  have MR := method_rb
  have hm1 := and1
  have hm255 := and255
  have hm127 := and127
  obtain ⟨e1, e2, e3, e4⟩ := hd1
  obtain ⟨f1, f2, f3, f4⟩ := hge
  have e1' : ¬ gd = g := fun h => e1 h.symm
  have e3' : ¬ gd = nt := fun h => e3 h.symm
  have h7I : (nb : Int) < 7 := by omega
  replace hO := hide hO
  replace hB := hide hB
  replace hK := hide hK
  replace hD := hide hD
  replace hS := hide hS
  replace hE := hide hE
  have c0 := hD.out.d.cell 0
  have c2 := hD.out.d.cell 1
  have c3 := hD.out.d.cell 2
  have fr1 := hD.out.d.frozen 1
  have fr2 := hD.out.d.frozen 2
  simp at c0 c2 c3
  have hDd := hide hD.out.d
  obtain ⟨pr, hR⟩ := hD.out.r
  obtain ⟨bb, off, rfl, hbb, hcc⟩ := hS.out.at_ (j := i) (by simp [ofN']; omega)
  have hx := hcc i (by simp [ofN']; omega)
  have ex : (ofN' Bs).getD i 0 = ((Bs.getD i 0 : Nat) : Int) := by simp [ofN', hi]
  rw [ex] at hx
  have hK2 := hK.out.load hi
  have hxb : Bs.getD i 0 ≤ 255 := hB.out _ (by simp [hi])
  have hbt : bt < 2 ^ nb := hK.out.lt hB.out
  generalize Bs.getD i 0 = x at *
  have cb := readByte_more r bb off Bs.length cap i pr _ w hR hi hlen hx (by omega)
  have hor := join_bits bt x nb (by omega) hbt hxb
  have hmu := shl_bd x nb (by omega) hxb
  have hnt : ((nb : Nat) : Int).toNat = nb := by omega
  have hnb24 : (nb : Int) ≤ 23 := by omega
  obtain ⟨hmu0, hmu1⟩ := hmu
  have hbt2 : bt + x * 2 ^ nb < 4294967296 := Nat.lt_of_lt_of_le (hK2.lt hB.out) (Nat.le_trans (Nat.pow_le_pow_right (by decide) (show nb + 8 ≤ 32 by omega)) (by decide))
  replace cb := hide cb
  replace hK2 := hide hK2
  replace hor := hide hor
  clear hbt hR hcc ex
  go_enter Tryd.func68, Tryd.ntmps68
  go_wp2_with fail
  go_step3
  go_wp2_with fail
  (with_reducible refine (cb.out).mono ?_)
  rintro e w1 ⟨rfl, hR1, hU1⟩
  replace hR1 := hide hR1
  have c0' := (hU1.cell (p := ⟨gd, 0, none⟩) (World.block_lt_of_cell? _ _ c0) (by simp; omega)).trans c0
  have c2' := (hU1.cell (p := ⟨gd, 1, none⟩) (World.block_lt_of_cell? _ _ c2) (by simp; omega)).trans c2
  have c3' := (hU1.cell (p := ⟨gd, 2, none⟩) (World.block_lt_of_cell? _ _ c3) (by simp; omega)).trans c3
  have fr1' := (hU1.frozen (p := ⟨gd, 1, none⟩) (World.block_lt_of_cell? _ _ c2) (by simp; omega)).trans fr1
  have fr2' := (hU1.frozen (p := ⟨gd, 2, none⟩) (World.block_lt_of_cell? _ _ c3) (by simp; omega)).trans fr2
  have hD2 := hide (hDd.out.upd hU1 (by simp; omega))
  have hU2 := hide ((Upd.refl [gd, r] w).trans (hU1.wide (by simp)))
  clear c0 c2 c3 fr1 fr2 cb hDd hU1 hx hD
  replace hor := hor.out
  go_wp2_with fail
  go_region
  go_wp2_with fail
  have hcast : (bt : Int) + (x : Int) * 2 ^ nb = ((bt + x * 2 ^ nb : Nat) : Int) := by simp
  have hcast8 : (nb : Int) + 8 = ((nb + 8 : Nat) : Int) := by omega
  rw [hcast, hcast8]
  have hn7 : 7 ≤ nb + 8 := by omega
  have hnb2 : nb + 8 ≤ 31 := by omega
  clear hcast hcast8 hmu0 hmu1 hor hnt hnb24 hbt2 hK h7I
  generalize bt + x * 2 ^ nb = b2 at *
  generalize nb + 8 = n2 at *
  generalize i + 1 = i2 at *
  obtain ⟨wl, hwl⟩ : ∃ wl, wl = ((w1.setCell ⟨gd, 1, none⟩ (.int .u32 (b2 : Nat))).setCell ⟨gd, 2, none⟩ (.int .u32 (n2 : Nat))).drew := ⟨_, rfl⟩
  rw [← hwl]
  have hDl : Hid (Blk wl gd 99 #[.iface 57 (.pointer (some ⟨r, 0, none⟩)), .int .u32 (b2 : Nat), .int .u32 (n2 : Nat)]) := hide (by rw [hwl]; exact Blk.to ((hD2.out.set_ 1 _).set_ 2 _) rfl rfl)
  have hRl : Hid (RdrB wl r (some ⟨bb, off, none⟩) Bs.length cap i2 (-1)) := hide (by rw [hwl]; exact Blk.to (Blk.far (Blk.far hR1.out (p := ⟨gd, 1, none⟩) (by simp; omega) (.int .u32 (b2 : Nat))) (p := ⟨gd, 2, none⟩) (by simp; omega) (.int .u32 (n2 : Nat))) rfl rfl)
  obtain ⟨prl, hprl⟩ : ∃ p : Int, p = -1 := ⟨_, rfl⟩
  rw [← hprl] at hRl
  have hUl : Hid (Upd [gd, r] w wl) := hide (by rw [hwl]; exact ((hU2.out.setCell (p := ⟨gd, 1, none⟩) (by simp) _).setCell (p := ⟨gd, 2, none⟩) (by simp) _).drew)
  clear hprl hwl hD2 hR1 hU2 c0' c2' c3' fr1' fr2'
  have c0 := hDl.out.cell 0
  have c2 := hDl.out.cell 1
  have c3 := hDl.out.cell 2
  have fr1 := hDl.out.frozen 1
  have fr2 := hDl.out.frozen 2
  simp at c0 c2 c3
  have hOl := hO.out.upd hUl.out (by simp; omega) (by simp; omega)
  have hx128 : b2 % 128 < 128 := Nat.mod_lt _ (by decide)
  have eX : ((b2 : Int) % 128).toNat = b2 % 128 := by omega
  have kLt := hOl.mem.lut (b2 % 128) hx128
  rw [hOl.lut _ hx128] at kLt
  have hbb4 : b2 < 4294967296 := Nat.lt_of_lt_of_le (hK2.out.lt hB.out) (Nat.le_trans (Nat.pow_le_pow_right (by decide) hnb2) (by decide))
  have hbI4 : ((b2 : Nat) : Int) ≤ 4294967295 := by omega
  have hn7J : (7 : Int) ≤ ((n2 : Nat) : Int) := by omega
  have hn31 : ((n2 : Nat) : Int) ≤ 31 := by omega
  have hm : ((s * 256 + 1 : Nat) : Int) % 256 = 1 := by omega
  have hd : ((s * 256 + 1 : Nat) : Int) / 256 = (s : Int) := by omega
  have hvb : ((s * 256 + 1 : Nat) : Int) ≤ 1048832 := by omega
  have hv0 : (0 : Int) ≤ ((s * 256 + 1 : Nat) : Int) := by omega
  generalize s * 256 + 1 = V at *
  clear hOl hO
  go_quiet (fail)
  go_wp2_with fail
  try rw [Exit.noGoto_ret]
  go_ret2
  refine ⟨i2, n2, b2, rfl, hK2.out, hnb2, ⟨?_, prl, ?_⟩, ?_⟩
  · exact Blk.dec ((hDl.out.set_ 1 _).set_ 2 _) rfl (by simp) (by simp)
  · exact Blk.to (Blk.far (Blk.far hRl.out (p := ⟨gd, 1, none⟩) (by simp; omega) (.int .u32 (b2 : Int))) (p := ⟨gd, 2, none⟩) (by simp; omega) (.int .u32 (n2 : Int))) rfl rfl
  · exact (((hUl.out.setCell (p := ⟨gd, 1, none⟩) (by simp) (.int .u32 (b2 : Int))).setCell (p := ⟨gd, 2, none⟩) (by simp) (.int .u32 (n2 : Int))).drewN nq)
set_option maxRecDepth 100000 in
set_option maxHeartbeats 8000000 in
theorem next1_c (g nt gd r base cap i pos nb bt s : Nat) (A : Option Addr) (Bs : List Nat) (lt : Nat → Nat) (ae au : Addr) (w : World) (hs : s < 4096) (hO : One s w g nt lt) (hB : Oct Bs) (hlen : (Bs.length : Int) ≤ 1073741824) (hK : Kept Bs i pos nb bt) (hnb : nb ≤ 31) (hD : Dec w gd r A Bs.length cap i nb bt) (hS : Rd .u8 w base A (ofN' Bs)) (hbw : base ≤ w.heap.size) (hE : Ends w ae au)
    (hg : base ≤ gd) (hr : base ≤ r) (hgr : gd ≠ r) (hge : gd ≠ 0 ∧ gd ≠ 1 ∧ r ≠ 0 ∧ r ≠ 1) (hd1 : g ≠ gd ∧ g ≠ r ∧ nt ≠ gd ∧ nt ≠ r) (h7 : nb < 7) (hi : ¬ i < Bs.length) :
    Calls Tryd.prog 68 #[.pointer (some ⟨g, 0, none⟩), .pointer (some ⟨gd, 0, none⟩)] w (SymPost Bs pos s gd r cap A w) := by
  obtain ⟨ic, hi9, hcmp⟩ := Option.map_eq_some_iff.1 comp_es
  obtain ⟨jc, hj9, _⟩ := Option.map_eq_some_iff.1 size_es
  have qE : ∀ w, (binOp .eql 61 (.iface 127 (.pointer (some ae))) (.iface 127 (.pointer (some ae)))).run Tryd.prog w = .ok (.bool true) w :=
    fun w => run_eql_iface_ptr_same w ae Tryd.underlying61 Tryd.underlying127 hi9 hcmp hj9
  clear hi9 hj9 hcmp
  have NA := nil_ahead
  have MR := method_rb
  have hm1 := and1
  have hm255 := and255
  have hm127 := and127
  obtain ⟨e1, e2, e3, e4⟩ := hd1
  obtain ⟨f1, f2, f3, f4⟩ := hge
  have e1' : ¬ gd = g := fun h => e1 h.symm
  have e3' : ¬ gd = nt := fun h => e3 h.symm
  have h7I : (nb : Int) < 7 := by omega
  replace hO := hide hO
  replace hB := hide hB
  replace hK := hide hK
  replace hD := hide hD
  replace hS := hide hS
  replace hE := hide hE
  have c0 := hD.out.d.cell 0
  have c2 := hD.out.d.cell 1
  have c3 := hD.out.d.cell 2
  simp at c0 c2 c3
  obtain ⟨pr, hR⟩ := hD.out.r
  have cb := readByte_end r A Bs.length cap i pr ae au w hR (by omega) hlen hE.out (by omega)
  have ce := hE.out.eof
  have hDd := hide hD.out.d
  replace cb := hide cb
  clear hR
  go_enter Tryd.func68, Tryd.ntmps68
  go_wp2_with fail
  refine wp_scope_jumps 0 (fun a' w' => a' = ⟨frameJ g gd r nb ae, []⟩ ∧ Dec w' gd r A Bs.length cap i nb bt ∧ Upd [gd, r] w w') (fun _ _ => 0) rfl ?_ ?_
  · clear hO hS hK hB
    go_wp2_with fail
    (with_reducible refine (cb.out).mono ?_)
    rintro e w1 ⟨rfl, hR1, hU1⟩
    have ce1 := (hU1.cell (p := ⟨0, 0, none⟩) (World.block_lt_of_cell? _ _ ce) (by simp; omega)).trans ce
    have hDf : Hid (Dec w1 gd r A Bs.length cap i nb bt ∧ Upd [gd, r] w w1) := hide ⟨⟨hDd.out.upd hU1 (by simp; omega), _, hR1⟩, hU1.wide (by simp)⟩
    clear hU1 hR1 cb ce
    go_wp2_with fail
    go_step3
    exact And.intro rfl ⟨rfl, hDf.out.1, hDf.out.2⟩
  · rintro a' w1 ⟨rfl, hDs, hUs⟩
    clear c0 c2 c3 cb ce hDd
    have hOl := hO.out.upd hUs (by simp; omega) (by simp; omega)
    have kSl := hOl.mem.sl
    have kCh := hOl.mem.ch (i := 0) (nd := ⟨0, 0, -1, s⟩) rfl
    have kSy := hOl.mem.sym (i := 0) (nd := ⟨0, 0, -1, s⟩) rfl
    simp only [Nat.zero_mul, Nat.zero_add] at kCh kSy
    replace hDs := hide hDs
    replace hUs := hide hUs
    clear hOl
    unfold frameJ
    go_wp2_with fail
    go_loopg [6] 0 (fun k u6 wr => u6 = .int .u32 0 ∧ w1 = wr)
    case atStart => exact ⟨rfl, rfl⟩
    case round =>
      obtain ⟨rfl, rfl⟩ := hrel
      go_wp2_with fail
      try rw [exit_jump_ret]
      go_ret2
      exact ⟨i, nb, bt, rfl, hK.out, hnb, hDs.out, hUs.out⟩
theorem next1_any (g nt gd r base cap i pos nb bt s : Nat) (A : Option Addr) (Bs : List Nat) (lt : Nat → Nat) (ae au : Addr) (w : World) (hs : s < 4096) (hO : One s w g nt lt) (hB : Oct Bs) (hlen : (Bs.length : Int) ≤ 1073741824) (hK : Kept Bs i pos nb bt) (hnb : nb ≤ 31) (hD : Dec w gd r A Bs.length cap i nb bt) (hS : Rd .u8 w base A (ofN' Bs)) (hbw : base ≤ w.heap.size) (hE : Ends w ae au)
    (hg : base ≤ gd) (hr : base ≤ r) (hgr : gd ≠ r) (hge : gd ≠ 0 ∧ gd ≠ 1 ∧ r ≠ 0 ∧ r ≠ 1) (hd1 : g ≠ gd ∧ g ≠ r ∧ nt ≠ gd ∧ nt ≠ r) :
    Calls Tryd.prog 68 #[.pointer (some ⟨g, 0, none⟩), .pointer (some ⟨gd, 0, none⟩)] w (SymPost Bs pos s gd r cap A w) := by
  by_cases h7 : nb < 7
  · by_cases hi : i < Bs.length
    · exact next1_b g nt gd r base cap i pos nb bt s A Bs lt ae au w hs hO hB hlen hK hnb hD hS hbw hE hg hr hgr hge hd1 h7 hi
    · exact next1_c g nt gd r base cap i pos nb bt s A Bs lt ae au w hs hO hB hlen hK hnb hD hS hbw hE hg hr hgr hge hd1 h7 hi
  · exact next1_a g nt gd r cap i pos nb bt s A Bs lt w hs hO hB hK hnb hD hgr hd1 (by omega)
end Go.Proofs.YtpiapfahcoopbaaDoor
namespace Go.Proofs.YtpiapfahcoopbaaDoor
set_option linter.unusedSimpArgs false
set_option linter.unusedVariables false
set_option linter.unnecessarySimpa false
open Go.RowKit Plain

/-- A tree in memory, by the lengths K. -/
structure RdT (K : List Nat) (w : World) (g nt : Nat) : Prop where
  h : (nz K = 1 ∧ ∃ s lt, s < K.length ∧ K.getD s 0 ≠ 0 ∧ One s w g nt lt) ∨ (nz K ≠ 1 ∧ ∃ ct ns lt, Done K w g nt ct ns lt)
theorem RdT.upd {K : List Nat} {w w' : World} {S : List Nat} {g nt : Nat} (h : RdT K w g nt) (u : Upd S w w') (h1 : g ∉ S) (h2 : nt ∉ S) : RdT K w' g nt := by
  rcases h.h with ⟨a, s, lt, b, d, e⟩ | ⟨a, ct, ns, lt, e⟩
  · exact ⟨.inl ⟨a, s, lt, b, d, e.upd u h1 h2⟩⟩
  · exact ⟨.inr ⟨a, ct, ns, lt, e.upd u h1 h2⟩⟩
theorem RdT.lt {K : List Nat} {w : World} {g nt : Nat} (h : RdT K w g nt) : g < w.heap.size ∧ nt < w.heap.size := by
  rcases h.h with ⟨_, s, lt, _, _, e⟩ | ⟨_, ct, ns, lt, e⟩
  · exact e.mem.lt_
  · exact e.mem.lt_
theorem mk_hnode1 (W : World) : (Instr.makeSlice 79 (.int .i64 1) (.int .u32 1)).run Tryd.prog W = .ok (.slice (some ⟨W.heap.size, 0, none⟩) 1 1) (W.alloc (.cells (mkN 1) 125)) := mk_hnode 1 (by decide) (by decide) W
/-- The post of whatever builds a tree. -/
def TreePost (g : Nat) (L : List Nat) (w : World) (e : Ending) (w' : World) : Prop := e = .returned .nilIface ∧ ∃ nt, w.heap.size ≤ nt ∧ RdT L w' g nt ∧ Upd [g] w w'
set_option maxRecDepth 100000 in
set_option maxHeartbeats 4000000 in
theorem build1_any (g : Nat) (A : Option Addr) (cap B : Nat) (L : List Nat) (ae : Addr) (w : World) (hl : (L.length : Int) ≤ 4096) (hn1 : nz L = 1) (hS : Rd .u32 w B A (ofN' L)) (hB : B ≤ w.heap.size) (h0 : Tree0 w g) (hTab : TabH w ae) (hg1 : g ≠ 4) (hg2 : g ≠ 2) :
    Calls Tryd.prog 55 #[.pointer (some ⟨g, 0, none⟩), .slice A L.length cap] w (TreePost g L w) := by
  have hmk := mk_hnode1
  have hfst := h0.first (cap := 1) (by omega)
  have hglt : g < w.heap.size := by obtain ⟨cs, a1, _⟩ := h0.h; exact a1.lt
  obtain ⟨cs0, c01, c02, ⟨v0, c03⟩, _⟩ := h0.h
  have k0 := (c01.cell 0).trans c03
  have f0 := c01.frozen 0
  replace hTab := hide hTab
  replace hS := hide hS
  replace hfst := hide hfst
  replace hn1 := hide hn1
  clear h0 c01 c02 c03
  go_enter Tryd.func55, Tryd.ntmps55
  go_wp2_with fail
  go_loopg [5, 6, 16] L.length (fun k u5 u6 u16 wr => ∃ m last : Nat, k + m = L.length ∧ u16 = .int .i64 m ∧ u5 = .int .u32 (nzT L m) ∧ u6 = .int .u32 (last : Nat) ∧ (nzT L m ≠ 0 → last < L.length ∧ L.getD last 0 ≠ 0) ∧ w = wr)
  case atStart => exact ⟨0, 0, rfl, rfl, by simp [nzT], rfl, fun h => absurd (by simp [nzT]) h, rfl⟩
  case round =>
    obtain ⟨m, last, hm, rfl, rfl, rfl, hlast, rfl⟩ := hrel
    cases gk with
    | succ k =>
      have hmn : m < L.length := by omega
      have hmi : (m : Int) < (L.length : Int) := by omega
      have hm0 : (0 : Int) ≤ (m : Int) := by omega
      obtain ⟨b, off, rfl, hbb, hc⟩ := hS.out.at_ (j := m) (by rw [ofN'_len]; omega)
      have hx := hc m (by rw [ofN'_len]; omega)
      rw [ofN'_get] at hx
      have hnz := nzT_succ L m hmn
      have hnb := nzT_le L m
      have hnbI : ((nzT L m : Nat) : Int) ≤ 4096 := by omega
      obtain ⟨x, hqx⟩ : ∃ x, x = L.getD m 0 := ⟨_, rfl⟩
      rw [← hqx] at hx hnz
      obtain ⟨z, hqz⟩ : ∃ z, z = nzT L m := ⟨_, rfl⟩
      rw [← hqz] at hnz hnb hnbI hlast ⊢
      replace hqx := hide hqx
      replace hqz := hide hqz
      replace hnz := hide hnz
      replace hlast := hide hlast
      clear hc hfst hmk
      by_cases hx0 : x = 0
      · subst hx0
        go_wp2_with fail
        go_roundg k
        case measure => omega
        case rel => exact ⟨m + 1, last, by omega, by go_num, by rw [hnz.out]; simp, rfl, fun h => hlast.out (by rw [hnz.out] at h; simpa using h), rfl⟩
      · have hxI : ¬ (x : Int) = 0 := by omega
        have hxq : ((x : Int) == 0) = false := by simp <;> omega
        have hxq2 : ((x : Int) != 0) = true := by simp <;> omega
        go_wp2_with fail
        go_roundg k
        case measure => omega
        case rel => exact ⟨m + 1, m, by omega, by go_num, by rw [hnz.out, if_neg hx0]; go_num, rfl, fun h => ⟨hmn, by rw [← hqx.out]; exact hx0⟩, rfl⟩
    | zero =>
      have hmL : m = L.length := by omega
      subst hmL
      rw [nzT_all, hn1.out] at hlast ⊢
      obtain ⟨hl1, hl2⟩ := hlast (by decide)
      have hlI : ¬ (L.length : Int) ≤ (last : Int) := by omega
      have hlb : (last : Int) ≤ 4096 := by omega
      have hU1 := ((Upd.refl [g] w).setCell (p := ⟨g, 0, none⟩) (.inl (by simp)) (.slice (some ⟨w.heap.size, 0, none⟩) 1 1)).alloc (.cells (mkN 1) 125)
      have cI := insert0_any g w.heap.size last ae _ (by omega) hfst.out (hTab.out.upd hU1 (by simp; omega) (by simp; omega))
      replace hU1 := hide hU1
      replace cI := hide cI
      replace hl2 := hide hl2
      clear hlast
      go_wp2_with fail
      (with_reducible refine (cI.out).mono ?_)
      rintro e w2 ⟨rfl, ⟨lt, hO⟩, hu2⟩
      have hfin : TreePost g L w (.returned .nilIface) w2 := ⟨rfl, w.heap.size, Nat.le_refl _, ⟨.inl ⟨hn1.out, last, lt, hl1, hl2.out, hO⟩⟩, hU1.out.step hu2 (by simp <;> omega)⟩
      replace hfin := hide hfin
      clear hO hu2 cI
      go_wp2_with fail
      go_ret
      exact hfin.out
theorem buildRd_any (g : Nat) (A : Option Addr) (cap B n most : Nat) (L : List Nat) (ae : Addr) (w : World) (hL : LenOk most n L) (hm : most ≤ 15) (hl : (n : Int) ≤ 4096) (hS : Rd .u32 w B A (ofN' L)) (hB : B ≤ w.heap.size) (hgA : ∀ a, A = some a → a.block ≠ g) (h0 : Tree0 w g) (hTab : TabH w ae) (hg1 : g ≠ 4) (hg2 : g ≠ 2) :
    Calls Tryd.prog 55 #[.pointer (some ⟨g, 0, none⟩), .slice A n cap] w (TreePost g L w) := by
  have hn := hL.len
  subst hn
  by_cases h1 : nz L = 1
  · exact build1_any g A cap B L ae w hl h1 hS hB h0 hTab hg1 hg2
  · obtain ⟨hk, h2⟩ := hL.kS hm h1
    have hL15 := hL.le15 hm
    refine (build_any g A cap B L ae w hl hL15 (by omega) h2 hS hB hgA h0 hTab hg1 hg2).mono ?_
    rintro e w' ⟨hu, ⟨rfl, nt, ns, lt, hnt, hT, hLu, hM⟩ | ⟨_, hbad⟩⟩
    · have hnL : nz L ≤ L.length := List.countP_le_length
      exact ⟨rfl, nt, hnt, ⟨.inr ⟨h1, _, ns, lt, hT, hLu, hM, hT.full hM.le (by omega), by omega⟩⟩, hu⟩
    · exact absurd hk hbad
/-- 'next' where the symbol was written. -/
theorem next_gen (g nt gd r base cap i pos nb bt s most n : Nat) (A : Option Addr) (K Bs : List Nat) (ae au : Addr) (w : World) (hT : RdT K w g nt) (hK : LenOk most n K) (hm : most ≤ 15) (hn : n ≤ 4096) (hs : s < n) (hs1 : 1 ≤ K.getD s 0) (ht : SymTold (leN Bs) K pos s) (hfit : pos + symN K s ≤ 8 * Bs.length) (hB : Oct Bs) (hlen : (Bs.length : Int) ≤ 1073741824) (hKp : Kept Bs i pos nb bt) (hnb : nb ≤ 31) (hD : Dec w gd r A Bs.length cap i nb bt) (hS : Rd .u8 w base A (ofN' Bs)) (hbw : base ≤ w.heap.size) (hE : Ends w ae au)
    (hg : base ≤ gd) (hr : base ≤ r) (hgr : gd ≠ r) (hge : gd ≠ 0 ∧ gd ≠ 1 ∧ r ≠ 0 ∧ r ≠ 1) (hd1 : g ≠ gd ∧ g ≠ r ∧ nt ≠ gd ∧ nt ≠ r) :
    Calls Tryd.prog 68 #[.pointer (some ⟨g, 0, none⟩), .pointer (some ⟨gd, 0, none⟩)] w (SymPost Bs (pos + symN K s) s gd r cap A w) := by
  have hKl := hK.len
  rcases hT.h with ⟨h1, s', lt, hs', hz', hO⟩ | ⟨h1, ct, ns, lt, hDn⟩
  · obtain rfl : s = s' := nz_one h1 (by omega) hz'
    have e : symN K s = 0 := if_pos h1
    rw [e, Nat.add_zero]
    exact next1_any g nt gd r base cap i pos nb bt s A Bs lt ae au w (by omega) hO hB hlen hKp hnb hD hS hbw hE hg hr hgr hge hd1
  · obtain ⟨hk, h2⟩ := hK.kS hm h1
    have hL15 := hK.le15 hm
    have hU : Used K s := ⟨by omega, by omega⟩
    have hd : dec K Bs pos = s := dec_eq hL15 hk (hit_told hL15 (by omega) h1 hU ht)
    have e : symN K s = K.getD s 0 := if_neg h1
    rw [e] at hfit ⊢
    refine (next_any g nt ct gd r base cap i pos nb bt A K Bs ns lt ae au w hL15 hk (by omega) hDn hB hlen hKp hnb hD hS hbw hE hg hr hgr hge hd1).mono ?_
    rintro e w' ⟨hyes, _, hu⟩
    rw [hd] at hyes
    obtain ⟨i', nb', bt', h1, h2, h3, h4⟩ := hyes hfit
    exact ⟨i', nb', bt', h1, h2, h3, h4, hu⟩
end Go.Proofs.YtpiapfahcoopbaaDoor
namespace Go.Proofs.YtpiapfahcoopbaaDoor
set_option linter.unusedSimpArgs false
set_option linter.unusedVariables false
set_option linter.unnecessarySimpa false
open Go.RowKit Plain

def oneL (size a : Nat) : List Nat := (List.replicate size 0).set a 1
def pairL (size a b : Nat) : List Nat := ((List.replicate size 0).set a 1).set b 1
theorem one_get (size a j : Nat) (ha : a < size) : (oneL size a).getD j 0 = if j = a then 1 else 0 := by
  unfold oneL
  by_cases h : j = a
  · subst h
    rw [if_pos rfl, List.getD_eq_getElem?_getD, List.getElem?_set_self (by simpa using ha)]
    rfl
  · rw [if_neg h, List.getD_eq_getElem?_getD, List.getElem?_set_ne (fun e => h e.symm), ← List.getD_eq_getElem?_getD]
    exact getD_zeros _ _
theorem pair_get (size a b j : Nat) (ha : a < size) (hb : b < size) : (pairL size a b).getD j 0 = if j = b then 1 else if j = a then 1 else 0 := by
  unfold pairL
  by_cases h : j = b
  · subst h
    rw [if_pos rfl, List.getD_eq_getElem?_getD, List.getElem?_set_self (by simpa using hb)]
    rfl
  · rw [if_neg h, List.getD_eq_getElem?_getD, List.getElem?_set_ne (fun e => h e.symm), ← List.getD_eq_getElem?_getD]
    exact one_get size a j ha
theorem pair_cnt (size a b : Nat) (hab : a < b) (hb : b < size) : ∀ m, m ≤ size → cntT (pairL size a b) 1 m = (if a < m then 1 else 0) + if b < m then 1 else 0
  | 0, _ => by rw [cntT_zero]; simp
  | m + 1, h => by
    have ih := pair_cnt size a b hab hb m (by omega)
    have hl : (pairL size a b).length = size := by simp [pairL]
    rw [cntT_succ _ _ _ (by omega), ih, pair_get size a b m (by omega) hb]
    repeat' split
    all_goals omega
theorem pair_code (size a b : Nat) (hab : a < b) (hb : b < size) : codeG (pairL size a b) a = 0 ∧ codeG (pairL size a b) b = 1 := by
  have h1 := pair_get size a b a (by omega) hb
  have h2 := pair_get size a b b (by omega) hb
  rw [if_neg (by omega), if_pos rfl] at h1
  rw [if_pos rfl] at h2
  have c1 := pair_cnt size a b hab hb a (by omega)
  have c2 := pair_cnt size a b hab hb b (by omega)
  rw [if_neg (by omega), if_neg (by omega)] at c1
  rw [if_pos hab, if_neg (by omega)] at c2
  have hg : gN (pairL size a b) 1 = 0 := rfl
  unfold codeG
  rw [h1, h2, c1, c2, hg]
  exact ⟨rfl, rfl⟩
theorem tree_skip {L : List Nat} {m n : Nat} {ns : List Nd} {lt : Nat → Nat} (hT : Tree L m ns) (hLu : LutK L m ns lt) (hmn : m ≤ n) (hn : n ≤ L.length) (hz : ∀ j, m ≤ j → j < n → L.getD j 0 = 0) : Tree L n ns ∧ LutK L n ns lt := by
  induction n with
  | zero =>
    obtain rfl : m = 0 := by omega
    exact ⟨hT, hLu⟩
  | succ n ih =>
    rcases Nat.lt_or_ge n m with h | h
    · obtain rfl : m = n + 1 := by omega
      exact ⟨hT, hLu⟩
    · obtain ⟨h1, h2⟩ := ih h (by omega) (fun j h3 h4 => hz j h3 (by omega))
      exact ⟨h1.skip (by omega) (hz n h (by omega)), h2.skip (hz n h (by omega))⟩
theorem mk_hnode3 (W : World) : (Instr.makeSlice 79 (.int .i64 1) (.int .u32 3)).run Tryd.prog W = .ok (.slice (some ⟨W.heap.size, 0, none⟩) 1 3) (W.alloc (.cells (mkN 3) 125)) := mk_hnode 3 (by decide) (by decide) W
set_option maxRecDepth 100000 in
set_option maxHeartbeats 4000000 in
theorem buildS1_any (g size a : Nat) (z : Int) (ae : Addr) (w : World) (ha : a < size) (hsz : (size : Int) ≤ 4096) (h0 : Tree0 w g) (hTab : TabH w ae) (hg1 : g ≠ 4) (hg2 : g ≠ 2) :
    Calls Tryd.prog 71 #[.pointer (some ⟨g, 0, none⟩), .int .u32 1, .agg #[.int .u32 (a : Nat), .int .u32 z], .int .u32 (size : Nat)] w (TreePost g (oneL size a) w) := by
  have hmk := mk_hnode1
  have hglt : g < w.heap.size := by obtain ⟨cs, a1, _⟩ := h0.h; exact a1.lt
  have haI : (a : Int) < (size : Int) := by omega
  have u0 := (Upd.refl [g] w).alloc (.cells #[.int .u32 (a : Nat), .int .u32 z] 118)
  have hb0 := Blk.new w 118 #[.int .u32 (a : Nat), .int .u32 z]
  have h0b := h0.upd ((Upd.refl [] w).alloc (.cells #[.int .u32 (a : Nat), .int .u32 z] 118)) (by simp)
  have hfst := h0b.first (cap := 1) (by omega)
  have hzb : (w.alloc (.cells #[.int .u32 (a : Nat), .int .u32 z] 118)).heap.size = w.heap.size + 1 := by simp
  obtain ⟨cs0, c01, c02, ⟨v0, c03⟩, _⟩ := h0b.h
  have k0 := (c01.cell 0).trans c03
  have f0 := c01.frozen 0
  rw [hzb] at hfst
  have u1 := (u0.setCell (p := ⟨g, 0, none⟩) (.inl (by simp)) (.slice (some ⟨w.heap.size + 1, 0, none⟩) 1 1)).alloc (.cells (mkN 1) 125)
  have hTl := hTab.lt
  have cI := insert0_any g (w.heap.size + 1) a ae _ (by omega) hfst (hTab.upd u1 (by simp; omega) (by simp; omega))
  have hb1 := (Blk.far hb0 (p := ⟨g, 0, none⟩) (by simp; omega) (.slice (some ⟨w.heap.size + 1, 0, none⟩) 1 1)).alloc (.cells (mkN 1) 125)
  have k1 := hb1.cell 0
  replace k1 : _ = some (Value.int .u32 (a : Nat)) := k1
  replace hfst := hide hfst
  replace u1 := hide u1
  replace cI := hide cI
  replace hb1 := hide hb1
  replace hTab := hide hTab
  clear h0 h0b c01 c02 c03 u0 hb0
  go_enter Tryd.func71, Tryd.ntmps71
  go_upto_region 1 with fail
  generalize w.alloc (.cells #[.int .u32 (a : Nat), .int .u32 z] 118) = wb at *
  go_wp2_with fail
  rw [hzb] at *
  generalize (wb.setCell ⟨g, 0, none⟩ (.slice (some ⟨w.heap.size + 1, 0, none⟩) 1 1)).alloc (.cells (mkN 1) 125) = w2 at *
  clear hmk k0 f0
  replace hzb := hide hzb
  go_loopg [9] 1 (fun k u9 wr => (k = 1 ∧ u9 = .int .u32 0 ∧ w2 = wr) ∨ (k = 0 ∧ u9 = .int .u32 1 ∧ OnePost g (w.heap.size + 1) a w2 (.returned .nilIface) wr))
  case atStart => exact .inl ⟨rfl, rfl, rfl⟩
  case round =>
    rcases hrel with ⟨rfl, rfl, rfl⟩ | ⟨rfl, rfl, hP⟩
    · go_wp2_with fail
      (with_reducible refine (cI.out).mono ?_)
      rintro e w3 ⟨rfl, hO, hu⟩
      have hP : OnePost g (w.heap.size + 1) a w2 (.returned .nilIface) w3 := ⟨rfl, hO, hu⟩
      replace hP := hide hP
      clear hO hu cI
      go_wp2_with fail
      go_roundg 0
      case measure => omega
      case rel => exact .inr ⟨rfl, by go_num, hP.out⟩
    · replace hP := hide hP
      clear cI k1
      go_wp2_with fail
      go_ret
      obtain ⟨_, ⟨lt, hO⟩, hu⟩ := hP.out
      refine ⟨rfl, w.heap.size + 1, by omega, ⟨.inl ⟨(len_one size a ha).2, a, lt, by simp [oneL]; omega, by rw [one_get size a a ha, if_pos rfl]; decide, hO⟩⟩, u1.out.step hu (by simp <;> omega)⟩
/-- A tree of two symbols, half made or made. -/
def PairSt (g nb m : Nat) (L : List Nat) (w w' : World) : Prop := ∃ ns lt, Tree L m ns ∧ LutK L m ns lt ∧ TreeM w' g nb 3 ns lt ∧ Upd [g, nb] w w'
set_option maxRecDepth 100000 in
set_option maxHeartbeats 4000000 in
theorem buildS2_any (g size a b : Nat) (ae : Addr) (w : World) (hab : a < b) (hb : b < size) (hsz : (size : Int) ≤ 4096) (h0 : Tree0 w g) (hTab : TabH w ae) (hg1 : g ≠ 4) (hg2 : g ≠ 2) :
    Calls Tryd.prog 71 #[.pointer (some ⟨g, 0, none⟩), .int .u32 2, .agg #[.int .u32 (a : Nat), .int .u32 (b : Nat)], .int .u32 (size : Nat)] w (TreePost g (pairL size a b) w) := by
  have hmk := mk_hnode3
  have hglt : g < w.heap.size := by obtain ⟨cs, a1, _⟩ := h0.h; exact a1.lt
  have haI : (a : Int) < (size : Int) := by omega
  have hbI : (b : Int) < (size : Int) := by omega
  obtain ⟨hok, hn2⟩ := len_two size a b hab hb
  have hL15 : ∀ x ∈ pairL size a b, x ≤ 15 := hok.le
  have hnz : nz (pairL size a b) = 2 := hn2
  obtain ⟨hk, _⟩ := LenOk.kS (L := pairL size a b) hok (by decide) (by rw [hnz]; decide)
  have hll : (pairL size a b).length = size := by simp [pairL]
  have hga : (pairL size a b).getD a 0 = 1 := by rw [pair_get size a b a (by omega) hb, if_neg (by omega), if_pos rfl]
  have hgb : (pairL size a b).getD b 0 = 1 := by rw [pair_get size a b b (by omega) hb, if_pos rfl]
  have hg0 : ∀ j, j ≠ a → j ≠ b → (pairL size a b).getD j 0 = 0 := fun j h1 h2 => by rw [pair_get size a b j (by omega) hb, if_neg h2, if_neg h1]
  obtain ⟨hca, hcb⟩ := pair_code size a b hab hb
  obtain ⟨t0, l0⟩ := tree_skip (Tree.start hL15 (by omega)) (LutK.start (pairL size a b) [⟨0, 0, 0, 0⟩]) (Nat.zero_le a) (by omega) (fun j _ h2 => hg0 j (by omega) (by omega))
  have u0 := (Upd.refl [g] w).alloc (.cells #[.int .u32 (a : Nat), .int .u32 (b : Nat)] 118)
  have hb0 := Blk.new w 118 #[.int .u32 (a : Nat), .int .u32 (b : Nat)]
  have h0b := h0.upd ((Upd.refl [] w).alloc (.cells #[.int .u32 (a : Nat), .int .u32 (b : Nat)] 118)) (by simp)
  have hfst := h0b.first (cap := 3) (by omega)
  have hzb : (w.alloc (.cells #[.int .u32 (a : Nat), .int .u32 (b : Nat)] 118)).heap.size = w.heap.size + 1 := by simp
  obtain ⟨cs0, c01, c02, ⟨v0, c03⟩, _⟩ := h0b.h
  have k0 := (c01.cell 0).trans c03
  have f0 := c01.frozen 0
  rw [hzb] at hfst
  have u1 := (u0.setCell (p := ⟨g, 0, none⟩) (.inl (by simp)) (.slice (some ⟨w.heap.size + 1, 0, none⟩) 1 3)).alloc (.cells (mkN 3) 125)
  have hTl := hTab.lt
  have hTab2 := hTab.upd u1 (by simp; omega) (by simp; omega)
  have hb1 := (Blk.far hb0 (p := ⟨g, 0, none⟩) (by simp; omega) (.slice (some ⟨w.heap.size + 1, 0, none⟩) 1 3)).alloc (.cells (mkN 3) 125)
  generalize hLd : pairL size a b = L at *
  replace hfst := hide hfst
  replace u1 := hide u1
  replace hb1 := hide hb1
  replace hTab2 := hide hTab2
  replace hok := hide hok
  replace hn2 := hide hn2
  replace hnz := hide hnz
  replace hL15 := hide hL15
  replace hk := hide hk
  replace hll := hide hll
  replace hga := hide hga
  replace hgb := hide hgb
  replace hg0 := hide hg0
  replace hca := hide hca
  replace hcb := hide hcb
  replace t0 := hide t0
  replace l0 := hide l0
  replace hLd := hide hLd
  clear h0 h0b c01 c02 c03 u0 hb0 hTab
  go_enter Tryd.func71, Tryd.ntmps71
  go_upto_region 1 with fail
  generalize w.alloc (.cells #[.int .u32 (a : Nat), .int .u32 (b : Nat)] 118) = wb at *
  go_wp2_with fail
  rw [hzb] at *
  generalize (wb.setCell ⟨g, 0, none⟩ (.slice (some ⟨w.heap.size + 1, 0, none⟩) 1 3)).alloc (.cells (mkN 3) 125) = w2 at *
  clear hmk k0 f0
  replace hzb := hide hzb
  go_loopg [9] 2 (fun k u9 wr => (k = 2 ∧ u9 = .int .u32 0 ∧ w2 = wr) ∨ (k = 1 ∧ u9 = .int .u32 1 ∧ PairSt g (w.heap.size + 1) b L w2 wr) ∨ (k = 0 ∧ u9 = .int .u32 2 ∧ PairSt g (w.heap.size + 1) size L w2 wr))
  case atStart => exact .inl ⟨rfl, rfl, rfl⟩
  case round =>
    rcases hrel with ⟨rfl, rfl, rfl⟩ | ⟨rfl, rfl, hP⟩ | ⟨rfl, rfl, hP⟩
    · have k1 := hb1.out.cell 0
      replace k1 : _ = some (Value.int .u32 (a : Nat)) := k1
      have hUa : Used L a := ⟨by rw [hll.out]; omega, by rw [hga.out]; decide⟩
      have cI : Calls Tryd.prog 67 #[.pointer (some ⟨g, 0, none⟩), .int .u32 (a : Nat), .int .u32 0, .int .u32 1] w2 (InsPost g (w.heap.size + 1) 3 a L ae w2) :=
        insert_any g (w.heap.size + 1) 3 a 1 0 L _ _ ae w2 hL15.out (by have := hk.out; omega) hUa (by omega) hga.out (by rw [hca.out]) (by decide) t0.out l0.out hfst.out (by decide) (by rw [hnz.out]) hTab2.out hg1 hg2 (by omega) (by omega)
      replace cI := hide cI
      go_wp2_with fail
      (with_reducible refine (cI.out).mono ?_)
      rintro e w3 ⟨hu, ⟨rfl, ns, lt, hT, hLu, hM⟩ | ⟨_, hbad⟩⟩
      · have hsk := tree_skip hT hLu (show a + 1 ≤ b by omega) (by rw [hll.out]; omega) (fun j h1 h2 => hg0.out j (by omega) (by omega))
        have hP : PairSt g (w.heap.size + 1) b L w2 w3 := ⟨ns, lt, hsk.1, hsk.2, hM, hu⟩
        replace hP := hide hP
        clear hu hT hLu hM hsk cI
        go_wp2_with fail
        go_roundg 1
        case measure => omega
        case rel => exact .inr (.inl ⟨rfl, by go_num, hP.out⟩)
      · exact absurd hk.out hbad
    · obtain ⟨ns, lt, hT, hLu, hM, hu⟩ := hP
      have k1 := (hb1.out.upd hu (by simp; omega)).cell 1
      replace k1 : _ = some (Value.int .u32 (b : Nat)) := k1
      have hUb : Used L b := ⟨by rw [hll.out]; omega, by rw [hgb.out]; decide⟩
      have cI : Calls Tryd.prog 67 #[.pointer (some ⟨g, 0, none⟩), .int .u32 (b : Nat), .int .u32 1, .int .u32 1] wr (InsPost g (w.heap.size + 1) 3 b L ae wr) :=
        insert_any g (w.heap.size + 1) 3 b 1 1 L ns lt ae wr hL15.out (by have := hk.out; omega) hUb (by omega) hgb.out (by rw [hcb.out]) (by decide) hT hLu hM (by decide) (by rw [hnz.out]) (hTab2.out.upd hu (by simp; omega) (by simp; omega)) hg1 hg2 (by omega) (by omega)
      replace cI := hide cI
      replace hu := hide hu
      clear hT hLu hM
      go_wp2_with fail
      (with_reducible refine (cI.out).mono ?_)
      rintro e w3 ⟨hu3, ⟨rfl, ns3, lt3, hT, hLu, hM⟩ | ⟨_, hbad⟩⟩
      · have hsk := tree_skip hT hLu (show b + 1 ≤ size by omega) (by rw [hll.out]; omega) (fun j h1 h2 => hg0.out j (by omega) (by omega))
        have hP : PairSt g (w.heap.size + 1) size L w2 w3 := ⟨ns3, lt3, hsk.1, hsk.2, hM, hu.out.trans hu3⟩
        replace hP := hide hP
        clear hu hu3 hT hLu hM hsk cI
        go_wp2_with fail
        go_roundg 0
        case measure => omega
        case rel => exact .inr (.inr ⟨rfl, by go_num, hP.out⟩)
      · exact absurd hk.out hbad
    · replace hP := hide hP
      go_wp2_with fail
      go_ret
      obtain ⟨ns, lt, hT, hLu, hM, hu⟩ := hP.out
      rw [← hll.out] at hT hLu
      have hfull := hT.full (by rw [hnz.out]; exact hM.le) (by rw [hnz.out]; decide)
      exact ⟨rfl, w.heap.size + 1, by omega, ⟨.inr ⟨by rw [hnz.out]; decide, 3, ns, lt, hT, hLu, hM, hfull, by decide⟩⟩, u1.out.step hu (by simp <;> omega)⟩
end Go.Proofs.YtpiapfahcoopbaaDoor
namespace Go.Proofs.YtpiapfahcoopbaaDoor
set_option linter.unusedSimpArgs false
set_option linter.unusedVariables false
set_option linter.unnecessarySimpa false
open Go.RowKit Plain

/-- The tables of the long form. -/
structure RepH (w : World) : Prop where
  bits : ∀ j, j < 3 → w.cell? ⟨6, j, none⟩ = some (.int .u8 (([2, 3, 7].getD j 0 : Nat) : Int))
  offs : ∀ j, j < 3 → w.cell? ⟨7, j, none⟩ = some (.int .u8 (([3, 3, 11].getD j 0 : Nat) : Int))
  ordr : ∀ j, j < 19 → w.cell? ⟨3, j, none⟩ = some (.int .u8 ((ord.getD j 0 : Nat) : Int))
theorem RepH.lt {w : World} (h : RepH w) : 6 < w.heap.size ∧ 7 < w.heap.size ∧ 3 < w.heap.size := ⟨World.block_lt_of_cell? _ _ (h.bits 0 (by decide)), World.block_lt_of_cell? _ _ (h.offs 0 (by decide)), World.block_lt_of_cell? _ _ (h.ordr 0 (by decide))⟩
theorem RepH.upd {S : List Nat} {w w' : World} {B : Nat} (h : RepH w) (u : Upd S w w') (hB : 6 < B ∧ 7 < B ∧ 3 < B) (hS : ∀ k ∈ S, B ≤ k) : RepH w' := by
  have hl := h.lt
  refine ⟨fun j hj => (u.cell hl.1 (fun hm => ?_)).trans (h.bits j hj), fun j hj => (u.cell hl.2.1 (fun hm => ?_)).trans (h.offs j hj), fun j hj => (u.cell hl.2.2 (fun hm => ?_)).trans (h.ordr j hj)⟩
  · have h1 := hS _ hm
    exact absurd (Nat.lt_of_lt_of_le hB.1 h1) (Nat.lt_irrefl _)
  · have h1 := hS _ hm
    exact absurd (Nat.lt_of_lt_of_le hB.2.1 h1) (Nat.lt_irrefl _)
  · have h1 := hS _ hm
    exact absurd (Nat.lt_of_lt_of_le hB.2.2 h1) (Nat.lt_irrefl _)
/-- The reader has read up to the bit pos. -/
structure RC (Bs : List Nat) (gd r base cap : Nat) (A : Option Addr) (ae au ar : Addr) (pos : Nat) (w : World) : Prop where
  oct : Oct Bs
  len : (Bs.length : Int) ≤ 1073741824
  dec : ∃ i nb bt, Kept Bs i pos nb bt ∧ nb ≤ 31 ∧ Dec w gd r A Bs.length cap i nb bt
  rd : Rd .u8 w base A (ofN' Bs)
  ends : Ends w ae au
  tab : TabH w ar
  rep : RepH w
  base_ : base ≤ w.heap.size
  gd_ : base ≤ gd
  r_ : base ≤ r
  ne : gd ≠ r
  e1 : 0 < base ∧ 1 < base
  e2 : 4 < base ∧ 2 < base
  e3 : 6 < base ∧ 7 < base ∧ 3 < base
namespace RC
variable {Bs : List Nat} {gd r base cap pos : Nat} {A : Option Addr} {ae au ar : Addr} {w w' : World}
theorem move {S : List Nat} (h : RC Bs gd r base cap A ae au ar pos w) (u : Upd S w w') (hS : ∀ k ∈ S, base ≤ k) (h1 : gd ∉ S) (h2 : r ∉ S) : RC Bs gd r base cap A ae au ar pos w' := by
  obtain ⟨i, nb, bt, a, b, d⟩ := h.dec
  have hE := h.ends.lt
  have hT := h.tab.lt
  exact ⟨h.oct, h.len, ⟨i, nb, bt, a, b, d.upd u h1 h2⟩, h.rd.upd u h.base_ hS, h.ends.keep fun p hp => u.cell (by rcases hp with e | e <;> omega) (fun hm => by have := hS _ hm; have := h.e1; rcases hp with e | e <;> omega), h.tab.upd u (fun hm => by have := hS _ hm; have := h.e2; omega) (fun hm => by have := hS _ hm; have := h.e2; omega), h.rep.upd u h.e3 hS, Nat.le_trans h.base_ u.size, h.gd_, h.r_, h.ne, h.e1, h.e2, h.e3⟩
theorem made (h : RC Bs gd r base cap A ae au ar pos w) (u : Upd [] w w') : RC Bs gd r base cap A ae au ar pos w' := h.move u (by simp) (by simp) (by simp)
theorem alloc (h : RC Bs gd r base cap A ae au ar pos w) (o : Obj) : RC Bs gd r base cap A ae au ar pos (w.alloc o) := h.made ((Upd.refl [] w).alloc o)
theorem lt (h : RC Bs gd r base cap A ae au ar pos w) : gd < w.heap.size ∧ r < w.heap.size := by
  obtain ⟨i, nb, bt, a, b, d⟩ := h.dec
  obtain ⟨pr, hr⟩ := d.r
  exact ⟨d.d.lt, Blk.lt hr⟩
theorem drewN (h : RC Bs gd r base cap A ae au ar pos w) (n : Nat) : RC Bs gd r base cap A ae au ar pos (w.drewN n) := h.made ((Upd.refl [] w).drewN n)
theorem drew (h : RC Bs gd r base cap A ae au ar pos w) : RC Bs gd r base cap A ae au ar pos w.drew := h.drewN 1
/-- The reader itself went on. -/
theorem went {pos' i nb bt : Nat} (h : RC Bs gd r base cap A ae au ar pos w) (u : Upd [gd, r] w w') (hK : Kept Bs i pos' nb bt) (hn : nb ≤ 31) (hD : Dec w' gd r A Bs.length cap i nb bt) : RC Bs gd r base cap A ae au ar pos' w' := by
  have hS : ∀ k ∈ [gd, r], base ≤ k := fun k hk => by
    have h1 := h.gd_
    have h2 := h.r_
    simp at hk
    rcases hk with e | e <;> omega
  have hE := h.ends.lt
  exact ⟨h.oct, h.len, ⟨i, nb, bt, hK, hn, hD⟩, h.rd.upd u h.base_ hS, h.ends.keep fun p hp => u.cell (by rcases hp with e | e <;> omega) (fun hm => by have := hS _ hm; have := h.e1; rcases hp with e | e <;> omega), h.tab.upd u (fun hm => by have := hS _ hm; have := h.e2; omega) (fun hm => by have := hS _ hm; have := h.e2; omega), h.rep.upd u h.e3 hS, Nat.le_trans h.base_ u.size, h.gd_, h.r_, h.ne, h.e1, h.e2, h.e3⟩
end RC
def ReadRc (Bs : List Nat) (gd r base cap : Nat) (A : Option Addr) (ae au ar : Addr) (pos v : Nat) (w : World) (e : Ending) (w' : World) : Prop := e = .returned (.tuple #[.int .u32 (v : Nat), .nilIface]) ∧ RC Bs gd r base cap A ae au ar pos w' ∧ Upd [gd, r] w w'
theorem read_rc {Bs : List Nat} {gd r base cap pos : Nat} {A : Option Addr} {ae au ar : Addr} {w : World} (h : RC Bs gd r base cap A ae au ar pos w) (n v : Nat) (nI : Int) (hnI : nI = (n : Int)) (hn : n ≤ 24) (hfit : pos + n ≤ 8 * Bs.length) (ht : Told (leN Bs) pos n v) :
    Calls Tryd.prog 52 #[.pointer (some ⟨gd, 0, none⟩), .int .u32 nI] w (ReadRc Bs gd r base cap A ae au ar (pos + n) v w) := by
  subst hnI
  obtain ⟨i, nb, bt, hK, hnb, hD⟩ := h.dec
  have h1 := h.e1
  have h2 := h.gd_
  have h3 := h.r_
  refine (read_any gd r base A cap Bs i pos nb bt n ae au w h.oct h.len hK hnb hn hD h.rd h.base_ h.ends h.gd_ h.r_ h.ne (by omega)).mono ?_
  rintro e w' ⟨hyes, _, hu⟩
  obtain ⟨i', nb', bt', rfl, q1, q2, q3⟩ := hyes hfit
  have hb : bitsAt Bs pos n = v := ht
  rw [hb]
  exact ⟨rfl, h.went hu q1 q2 q3, hu⟩
theorem next_rc {Bs : List Nat} {gd r base cap pos : Nat} {A : Option Addr} {ae au ar : Addr} {w : World} (h : RC Bs gd r base cap A ae au ar pos w) (g nt s most n : Nat) (K : List Nat) (hT : RdT K w g nt) (hK : LenOk most n K) (hm : most ≤ 15) (hn : n ≤ 4096) (hs : s < n) (hs1 : 1 ≤ K.getD s 0) (ht : SymTold (leN Bs) K pos s) (hfit : pos + symN K s ≤ 8 * Bs.length) (hd1 : g ≠ gd ∧ g ≠ r ∧ nt ≠ gd ∧ nt ≠ r) :
    Calls Tryd.prog 68 #[.pointer (some ⟨g, 0, none⟩), .pointer (some ⟨gd, 0, none⟩)] w (ReadRc Bs gd r base cap A ae au ar (pos + symN K s) s w) := by
  obtain ⟨i, nb, bt, hKp, hnb, hD⟩ := h.dec
  have h1 := h.e1
  have h2 := h.gd_
  have h3 := h.r_
  refine (next_gen g nt gd r base cap i pos nb bt s most n A K Bs ae au w hT hK hm hn hs hs1 ht hfit h.oct h.len hKp hnb hD h.rd h.base_ h.ends h.gd_ h.r_ h.ne (by omega) hd1).mono ?_
  rintro e w' ⟨i', nb', bt', rfl, q1, q2, q3, hu⟩
  exact ⟨rfl, h.went hu q1 q2 q3, hu⟩
end Go.Proofs.YtpiapfahcoopbaaDoor

/- 'hTree.next', where the bytes end at once: the walk. -/
import Derived.Test.YtpiapfahcoopbaaDoorNextDef
namespace Go.Proofs.YtpiapfahcoopbaaDoor
set_option linter.unusedSimpArgs false
set_option linter.unusedVariables false
open Go.RowKit Plain

set_option maxRecDepth 100000 in
def frameJ (g gd r nb : Nat) (ae : Addr) : Array Value := ((.pointer (some ⟨g, 0, none⟩)) :: (.pointer (some ⟨gd, 0, none⟩)) :: undef :: undef :: (.int .u32 0) :: (.nilIface) :: (.int .u32 0) :: (.int .u8 0) :: (.iface 127 (.pointer (some ae))) :: undef :: undef :: undef :: (.pointer (some ⟨gd, 0, none⟩)) :: (.pointer (some ⟨gd, 0, none⟩)) :: (.pointer (some ⟨gd, 2, none⟩)) :: (.int .u32 (nb : Nat)) :: (.bool true) :: (.tuple #[.int .u8 0, .iface 127 (.pointer (some ae))]) :: (.pointer (some ⟨gd, 0, none⟩)) :: (.pointer (some ⟨gd, 0, none⟩)) :: (.pointer (some ⟨gd, 0, none⟩)) :: (.iface 57 (.pointer (some ⟨r, 0, none⟩))) :: (.tuple #[.int .u8 0, .iface 127 (.pointer (some ae))]) :: (.int .u8 0) :: (.iface 127 (.pointer (some ae))) :: (.iface 127 (.pointer (some ae))) :: (.bool true) :: (.iface 127 (.pointer (some ae))) :: (.iface 127 (.pointer (some ae))) :: (.bool true) :: undef :: undef :: undef :: undef :: undef :: undef :: undef :: undef :: undef :: undef :: undef :: undef :: undef :: undef :: undef :: undef :: undef :: undef :: undef :: undef :: undef :: undef :: undef :: undef :: undef :: undef :: undef :: undef :: undef :: undef :: undef :: undef :: undef :: undef :: undef :: undef :: undef :: undef :: undef :: undef :: undef :: undef :: undef :: undef :: undef :: undef :: undef :: undef :: undef :: undef :: undef :: undef :: undef :: undef :: undef :: undef :: undef :: undef :: undef :: undef :: undef :: undef :: undef :: undef :: undef :: undef :: undef :: undef :: undef :: undef :: undef :: undef :: undef :: undef :: undef :: undef :: undef :: undef :: undef :: undef :: undef :: undef :: undef :: undef :: undef :: undef :: undef :: undef :: undef :: undef :: undef :: undef :: undef :: undef :: undef :: undef :: undef :: undef :: undef :: undef :: undef :: undef :: undef :: undef :: undef :: undef :: undef :: undef :: undef :: undef :: undef :: undef :: undef :: undef :: undef :: undef :: undef :: undef :: undef :: undef :: undef :: undef :: undef :: undef :: undef :: undef :: undef :: undef :: undef :: undef :: undef :: undef :: undef :: undef :: undef :: undef :: undef :: undef :: undef :: undef :: undef :: undef :: undef :: undef :: undef :: undef :: ([] : List Value)).toArray

set_option maxRecDepth 100000 in
set_option maxHeartbeats 8000000 in
theorem next_c (g nt ct gd r base cap i pos nb bt : Nat) (A : Option Addr) (L Bs : List Nat) (ns : List Nd) (lt : Nat → Nat) (ae au : Addr) (w : World) (hL : ∀ x ∈ L, x ≤ 15) (hk : kS L 15 = 32768) (hN : L.length ≤ 4096) (hDn : Done L w g nt ct ns lt) (hB : Oct Bs) (hlen : (Bs.length : Int) ≤ 1073741824) (hK : Kept Bs i pos nb bt) (hnb : nb ≤ 31) (hD : Dec w gd r A Bs.length cap i nb bt) (hS : Rd .u8 w base A (ofN' Bs)) (hbw : base ≤ w.heap.size) (hE : Ends w ae au)
    (hg : base ≤ gd) (hr : base ≤ r) (hgr : gd ≠ r) (hge : gd ≠ 0 ∧ gd ≠ 1 ∧ r ≠ 0 ∧ r ≠ 1) (hd1 : g ≠ gd ∧ g ≠ r ∧ nt ≠ gd ∧ nt ≠ r) (h7 : nb < 7) (hi : ¬ i < Bs.length) :
    Calls Tryd.prog 68 #[.pointer (some ⟨g, 0, none⟩), .pointer (some ⟨gd, 0, none⟩)] w (NextPost L Bs pos gd r cap A au w) := by
  obtain ⟨ic, hi9, hcmp⟩ := Option.map_eq_some_iff.1 comp_es
  obtain ⟨jc, hj9, _⟩ := Option.map_eq_some_iff.1 size_es
  have qE : ∀ w, (binOp .eql 61 (.iface 127 (.pointer (some ae))) (.iface 127 (.pointer (some ae)))).run Tryd.prog w = .ok (.bool true) w :=
    fun w => run_eql_iface_ptr_same w ae Tryd.underlying61 Tryd.underlying127 hi9 hcmp hj9
  clear hi9 hj9 hcmp
  have NA := nil_ahead
  have MR := method_rb
  have hm1 := and1
  have hm255 := and255
  have hm127 := and127
  have hhit := dec_hit hL hk Bs pos
  have hhb := hDn.lut
  obtain ⟨e1, e2, e3, e4⟩ := hd1
  obtain ⟨f1, f2, f3, f4⟩ := hge
  have e1' : ¬ gd = g := fun h => e1 h.symm
  have e3' : ¬ gd = nt := fun h => e3 h.symm
  replace hL := hide hL
  replace hk := hide hk
  replace hDn := hide hDn
  replace hB := hide hB
  replace hK := hide hK
  replace hD := hide hD
  replace hS := hide hS
  replace hE := hide hE
  replace hhit := hide hhit
  replace hhb := hide hhb
  generalize hdec : dec L Bs pos = t at *
  replace hdec := hide hdec
  have h7I : (nb : Int) < 7 := by omega
  have c0 := hD.out.d.cell 0
  have c2 := hD.out.d.cell 1
  have c3 := hD.out.d.cell 2
  simp at c0 c2 c3
  obtain ⟨pr, hR⟩ := hD.out.r
  have cb := readByte_end r A Bs.length cap i pr ae au w hR (by omega) hlen hE.out (by omega)
  have ce := hE.out.eof
  have hDd := hide hD.out.d
  obtain ⟨rt, hrt1, hrt2, hrt3⟩ := hDn.out.tree.root
  replace cb := hide cb
  clear hR
  go_enter Tryd.func68, Tryd.ntmps68
  go_wp2_with fail
  refine wp_scope_jumps 0 (fun a' w' => a' = ⟨frameJ g gd r nb ae, []⟩ ∧ Dec w' gd r A Bs.length cap i nb bt ∧ Upd [gd, r] w w') (fun _ _ => 0) rfl ?_ ?_
  · clear hDn hhit hhb hS hK hL hk hB hrt1 hrt2 hrt3
    go_wp2_with fail
    (with_reducible refine (cb.out).mono ?_)
    rintro e w1 ⟨rfl, hR1, hU1⟩
    have ce1 := (hU1.cell (p := ⟨0, 0, none⟩) (World.block_lt_of_cell? _ _ ce) (by simp; omega)).trans ce
    have hDf : Hid (Dec w1 gd r A Bs.length cap i nb bt ∧ Upd [gd, r] w w1) := hide ⟨⟨hDd.out.upd hU1 (by simp; omega), _, hR1⟩, hU1.wide (by simp)⟩
    clear hU1 hR1 cb ce
    go_wp2_with fail
    go_step3
    exact And.intro rfl ⟨rfl, hDf.out.1, hDf.out.2⟩
  · rintro a' w1 ⟨rfl, hDs, hUs⟩
    clear c0 c2 c3 cb ce hDd
    replace hDs := hide hDs
    replace hUs := hide hUs
    unfold frameJ
    go_wp2_with fail
    go_loopg [6] (15 - 0) (fun k u6 wr => ∃ (d n : Nat) (nd : Nd) (i' nb' bt' : Nat), k + d = 15 ∧ u6 = .int .u32 (n : Nat) ∧ ns[n]? = some nd ∧ nd.d = d ∧ nd.v = vN Bs pos d ∧ Kept Bs i' (pos + d) nb' bt' ∧ nb' ≤ 31 ∧ Dec wr gd r A Bs.length cap i' nb' bt' ∧ Upd [gd, r] w wr)
    case atStart => exact ⟨0, 0, rt, i, nb, bt, by decide, rfl, hrt1, hrt2, hrt3, hK.out, hnb, hDs.out, hUs.out⟩
    case round =>
      obtain ⟨d, n, nd, i', nb', bt', hkd, rfl, hn, hnd, hnv, hK', hnb', hD', hU⟩ := hrel
      clear hDs hUs hrt1 hrt2 hrt3
      have hmem : nd ∈ ns := List.mem_of_getElem? hn
      have hnl := (List.getElem?_eq_some_iff.1 hn).1
      have hDw := hDn.out.upd hU (by simp; omega) (by simp; omega)
      have kSl := hDw.mem.sl
      have kCh := hDw.mem.ch hn
      have hle := hDw.mem.le
      have hct := hDw.ct_
      have hnlI : (n : Int) < (ns.length : Int) := by omega
      have hn0 : (0 : Int) ≤ (n : Int) := by omega
      have hnb8 : (n : Int) ≤ 8191 := by omega
      by_cases hlf : nd.ch = -1
      · obtain ⟨z1, z2, z3⟩ := leaf_dec hL.out hk.out hDw.tree hmem hlf hnd hnv
        rw [hdec.out] at z1
        subst z1
        have kSy := hDw.mem.sym hn
        rw [hlf] at kCh
        have hfit : pos + d ≤ 8 * Bs.length := by have := hK'.nb_; have := hK'.le; omega
        have hsI : ((nd.sym : Nat) : Int) ≤ 4096 := by omega
        have hfin : Hid (NextPost L Bs pos gd r cap A au w (.returned (.tuple #[.int .u32 (nd.sym : Nat), .nilIface])) wr) := by
          refine hide ⟨fun _ => ⟨i', nb', bt', by rw [hdec.out], by rw [hdec.out, z2]; exact hK', hnb', hD'⟩, fun h => absurd (by rw [hdec.out, z2]; exact hfit) h, hU⟩
        clear hK' hD' hU hDw hhit
        go_wp2
        try rw [exit_jump_ret]
        go_ret2
        exact hfin.out
      · have hpos : 0 < nd.ch := by
          rcases hDw.tree.kind nd hmem with h | h | h
          · exact absurd h hlf
          · exact absurd h (hDw.full nd hmem)
          · exact h.1
        obtain ⟨c1, hc1⟩ : ∃ c1 : Nat, nd.ch = (c1 : Int) := ⟨nd.ch.toNat, by omega⟩
        obtain ⟨a, b, ha, hb, ha1, ha2, hb1, hb2⟩ := hDw.tree.kids nd hmem c1 hc1 (by omega)
        have hd15 : d + 1 ≤ 15 := by have := (hDw.tree.good a (List.mem_of_getElem? ha)).2.2; omega
        have hlater : d < L.getD t 0 := hit_later hhit.out (by have := hDw.tree.inner nd hmem hpos; rw [← hnv, ← hnd]; exact this)
        have hc1b : c1 + 1 < ns.length := (List.getElem?_eq_some_iff.1 hb).1
        have hc1I : (0 : Int) < (c1 : Int) := by omega
        have hc1J : (c1 : Int) ≤ 8191 := by omega
        have hq1 : ((c1 : Int) == -1) = false := by simp <;> omega
        have hq2 : ((c1 : Int) != -1) = true := by simp <;> omega
        rw [hc1] at kCh
        have hnx : ∀ bit : Nat, bit < 2 → ∃ nx, ns[c1 + bit]? = some nx ∧ nx.d = d + 1 ∧ nx.v = 2 * vN Bs pos d + bit := by
          intro bit hbit
          rcases (by omega : bit = 0 ∨ bit = 1) with h | h
          · subst h; exact ⟨a, ha, by omega, by omega⟩
          · subst h; exact ⟨b, hb, by omega, by omega⟩
        replace hnx := hide hnx
        cases gk with
        | zero => omega
        | succ k =>
          have c0 := hD'.d.cell 0
          have c2 := hD'.d.cell 1
          have c3 := hD'.d.cell 2
          have fr1 := hD'.d.frozen 1
          have fr2 := hD'.d.frozen 2
          simp at c0 c2 c3
          obtain ⟨pr, hR⟩ := hD'.r
          by_cases hz : nb' = 0
          · subst hz
            have hbt0 : bt' = 0 := by have := hK'.lt hB.out; simp at this; exact this
            subst hbt0
            by_cases hmore : i' < Bs.length
            · obtain ⟨bb, off, rfl, hbb, hcc⟩ := hS.out.at_ (j := i') (by simp [ofN']; omega)
              have hx := (hU.cell (p := ⟨bb, off + i', none⟩) (by simp; omega) (by simp; omega)).trans (hcc i' (by simp [ofN']; omega))
              have ex : (ofN' Bs).getD i' 0 = ((Bs.getD i' 0 : Nat) : Int) := by simp [ofN', hmore]
              rw [ex] at hx
              have hK2 := hK'.load hmore
              have hxb : Bs.getD i' 0 ≤ 255 := hB.out _ (by simp [hmore])
              generalize Bs.getD i' 0 = x at *
              rw [Nat.pow_zero, Nat.mul_one, Nat.zero_add, Nat.zero_add] at hK2
              have cb := readByte_more r bb off Bs.length cap i' pr _ wr hR hmore hlen hx (by omega)
              obtain ⟨t1, t2⟩ := hK2.take hB.out (show 1 ≤ 8 by decide)
              rw [bits_one, Nat.pow_one] at t1
              have hvs := vN_succ Bs pos d
              rw [← t1] at hvs
              obtain ⟨nx, hx1, hx2, hx3⟩ := hnx.out (x % 2) (by omega)
              rw [← hvs] at hx3
              have hxI : (x : Int) ≤ 255 := by omega
              have hbI : (x : Int) % 2 = ((x % 2 : Nat) : Int) := by omega
              have hCB : (c1 : Int) + ((x % 2 : Nat) : Int) = ((c1 + x % 2 : Nat) : Int) := by omega
              generalize x % 2 = bit at *
              generalize c1 + bit = n9 at *
              have hDd := hide hD'.d
              replace cb := hide cb
              replace hU := hide hU
              replace hDw := hide hDw
              replace t2 := hide t2
              replace hx1 := hide hx1
              replace hx2 := hide hx2
              replace hx3 := hide hx3
              clear hK' hD' hR hK2 t1 hvs hcc ex ha hb ha1 ha2 hb1 hb2 hhit hlater hmem hpos hn hnd hnv hc1 hlf
              go_wp2_with fail
              (with_reducible refine (cb.out).mono ?_)
              rintro e w1 ⟨rfl, hR1, hU1⟩
              replace hR1 := hide hR1
              have c0' := (hU1.cell (p := ⟨gd, 0, none⟩) (World.block_lt_of_cell? _ _ c0) (by simp; omega)).trans c0
              have c2' := (hU1.cell (p := ⟨gd, 1, none⟩) (World.block_lt_of_cell? _ _ c2) (by simp; omega)).trans c2
              have c3' := (hU1.cell (p := ⟨gd, 2, none⟩) (World.block_lt_of_cell? _ _ c3) (by simp; omega)).trans c3
              have fr1' := (hU1.frozen (p := ⟨gd, 1, none⟩) (World.block_lt_of_cell? _ _ c2) (by simp; omega)).trans fr1
              have fr2' := (hU1.frozen (p := ⟨gd, 2, none⟩) (World.block_lt_of_cell? _ _ c3) (by simp; omega)).trans fr2
              have kSl' := (hU1.cell (p := ⟨g, 0, none⟩) (World.block_lt_of_cell? _ _ kSl) (by simp; omega)).trans kSl
              have kCh' := (hU1.cell (p := ⟨nt, n * 2 + 1, none⟩) (World.block_lt_of_cell? _ _ kCh) (by simp; omega)).trans kCh
              have hD2 := hide (hDd.out.upd hU1 (by simp; omega))
              have hU2 := hide (hU.out.trans (hU1.wide (by simp)))
              clear c0 c2 c3 fr1 fr2 cb hDd hU hU1 kSl kCh hDw hx
              go_wp2_with fail
              go_quiet (fail)
              go_wp2_with fail
              go_roundg k
              case measure => omega
              case rel =>
                refine ⟨d + 1, n9, nx, i' + 1, 7, x / 2, by omega, by go_num, hx1.out, hx2.out, hx3.out, ?_, by decide, ⟨?_, -1, ?_⟩, ?_⟩
                · exact t2.out
                · exact Blk.dec ((((hD2.out.set_ 1 _).set_ 2 _).set_ 1 _).set_ 2 _) rfl (by omega) rfl
                · exact Blk.to (Blk.far (Blk.far hR1.out (p := ⟨gd, 1, none⟩) (by simp; omega) (.int .u32 (x : Int))) (p := ⟨gd, 2, none⟩) (by simp; omega) (.int .u32 8) |>.far (p := ⟨gd, 1, none⟩) (by simp; omega) (.int .u32 ((x : Int) / 2)) |>.far (p := ⟨gd, 2, none⟩) (by simp; omega) (.int .u32 7)) rfl rfl
                · exact ⟨((((hU2.out.setCell (p := ⟨gd, 1, none⟩) (by simp) (.int .u32 (x : Int))).setCell (p := ⟨gd, 2, none⟩) (by simp) (.int .u32 8)).setCell (p := ⟨gd, 1, none⟩) (by simp) (.int .u32 ((x : Int) / 2))).setCell (p := ⟨gd, 2, none⟩) (by simp) (.int .u32 7)).os, ((((hU2.out.setCell (p := ⟨gd, 1, none⟩) (by simp) (.int .u32 (x : Int))).setCell (p := ⟨gd, 2, none⟩) (by simp) (.int .u32 8)).setCell (p := ⟨gd, 1, none⟩) (by simp) (.int .u32 ((x : Int) / 2))).setCell (p := ⟨gd, 2, none⟩) (by simp) (.int .u32 7)).tape, ((((hU2.out.setCell (p := ⟨gd, 1, none⟩) (by simp) (.int .u32 (x : Int))).setCell (p := ⟨gd, 2, none⟩) (by simp) (.int .u32 8)).setCell (p := ⟨gd, 1, none⟩) (by simp) (.int .u32 ((x : Int) / 2))).setCell (p := ⟨gd, 2, none⟩) (by simp) (.int .u32 7)).output, ((((hU2.out.setCell (p := ⟨gd, 1, none⟩) (by simp) (.int .u32 (x : Int))).setCell (p := ⟨gd, 2, none⟩) (by simp) (.int .u32 8)).setCell (p := ⟨gd, 1, none⟩) (by simp) (.int .u32 ((x : Int) / 2))).setCell (p := ⟨gd, 2, none⟩) (by simp) (.int .u32 7)).size, ((((hU2.out.setCell (p := ⟨gd, 1, none⟩) (by simp) (.int .u32 (x : Int))).setCell (p := ⟨gd, 2, none⟩) (by simp) (.int .u32 8)).setCell (p := ⟨gd, 1, none⟩) (by simp) (.int .u32 ((x : Int) / 2))).setCell (p := ⟨gd, 2, none⟩) (by simp) (.int .u32 7)).block⟩
            · have hEw := hE.out.keep (w' := wr) fun p hp => hU.cell (p := p) (by have := hE.out.lt; rcases hp with e | e <;> omega) (by simp; rcases hp with e | e <;> omega)
              have cb := readByte_end r A Bs.length cap i' pr ae au wr hR (by omega) hlen hEw (by omega)
              have hbig : ¬ pos + L.getD t 0 ≤ 8 * Bs.length := by have := hK'.nb_; have := hK'.le; omega
              have ce := hEw.eof
              have cu := hEw.une
              replace cb := hide cb
              replace hU := hide hU
              replace hbig := hide hbig
              clear hK' hD' hR hDw hEw ha hb ha1 ha2 hb1 hb2 hhit hlater hmem hpos hn hnd hnv hc1 hlf
              go_wp2_with fail
              (with_reducible refine (cb.out).mono ?_)
              rintro e w1 ⟨rfl, hR1, hU1⟩
              have ce1 := (hU1.cell (p := ⟨0, 0, none⟩) (World.block_lt_of_cell? _ _ ce) (by simp; omega)).trans ce
              have cu1 := (hU1.cell (p := ⟨1, 0, none⟩) (World.block_lt_of_cell? _ _ cu) (by simp; omega)).trans cu
              have hU2 := hide (hU.out.trans (hU1.wide (by simp)))
              clear ce cu cb hU hU1 hR1 c0 c2 c3 fr1 fr2 kSl kCh
              go_wp2
              try rw [exit_jump_ret]
              go_ret2
              exact ⟨fun h => absurd (by rw [hdec.out] at h; exact h) hbig.out, fun _ => rfl, hU2.out⟩
          · have hbI0 : ¬ (nb' : Int) = 0 := by omega
            have hbq : ((nb' : Int) == 0) = false := by simp <;> omega
            have hnI1 : (1 : Int) ≤ (nb' : Int) := by omega
            have hnI2 : (nb' : Int) ≤ 31 := by omega
            have hblt := hK'.lt hB.out
            have hbb4 : bt' < 4294967296 := Nat.lt_of_lt_of_le hblt (Nat.le_trans (Nat.pow_le_pow_right (by decide) hnb') (by decide))
            obtain ⟨t1, t2⟩ := hK'.take hB.out (show 1 ≤ nb' by omega)
            rw [bits_one, Nat.pow_one] at t1
            have hvs := vN_succ Bs pos d
            rw [← t1] at hvs
            obtain ⟨nx, hx1, hx2, hx3⟩ := hnx.out (bt' % 2) (by omega)
            rw [← hvs] at hx3
            have hbI : (bt' : Int) % 2 = ((bt' % 2 : Nat) : Int) := by omega
            have hCB : (c1 : Int) + ((bt' % 2 : Nat) : Int) = ((c1 + bt' % 2 : Nat) : Int) := by omega
            generalize bt' % 2 = bit at *
            generalize c1 + bit = n9 at *
            have hbI4 : ((bt' : Nat) : Int) ≤ 4294967295 := by omega
            have hDd := hide hD'.d
            replace hU := hide hU
            replace hR := hide hR
            replace t2 := hide t2
            replace hx1 := hide hx1
            replace hx2 := hide hx2
            replace hx3 := hide hx3
            clear hK' hD' hDw t1 hvs ha hb ha1 ha2 hb1 hb2 hhit hlater hmem hpos hn hnd hnv hc1 hlf hblt hbb4
            go_wp2_with fail
            go_quiet (fail)
            go_wp2_with fail
            go_roundg k
            case measure => omega
            case rel =>
              refine ⟨d + 1, n9, nx, i', nb' - 1, bt' / 2, by omega, by go_num, hx1.out, hx2.out, hx3.out, ?_, by omega, ⟨?_, pr, ?_⟩, ?_⟩
              · exact t2.out
              · exact Blk.dec ((hDd.out.set_ 1 _).set_ 2 _) rfl (by omega) (by omega)
              · exact Blk.to (Blk.far (Blk.far hR.out (p := ⟨gd, 1, none⟩) (by simp; omega) (.int .u32 ((bt' : Int) / 2))) (p := ⟨gd, 2, none⟩) (by simp; omega) (.int .u32 ((nb' : Int) - 1))) rfl rfl
              · exact (((hU.out.setCell (p := ⟨gd, 1, none⟩) (by simp) (.int .u32 ((bt' : Int) / 2))).setCell (p := ⟨gd, 2, none⟩) (by simp) (.int .u32 ((nb' : Int) - 1)))).drewN nq
end Go.Proofs.YtpiapfahcoopbaaDoor

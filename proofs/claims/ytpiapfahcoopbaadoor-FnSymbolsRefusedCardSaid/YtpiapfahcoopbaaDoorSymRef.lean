/- The reference's 'symbol': the walk. -/
import Derived.Test.YtpiapfahcoopbaaDoorSymPlain
import Derived.Test.YtpiapfahcoopbaaDoorCodesRef
namespace Go.Proofs.YtpiapfahcoopbaaDoor
set_option linter.unusedSimpArgs false
set_option linter.unusedVariables false
open Go.RowKit Plain

theorem bits_one' (Bs : List Nat) (p : Nat) : leN Bs / 2 ^ p % 2 = bitsAt Bs p 1 := by unfold bitsAt; simp
theorem sread_one (g base : Nat) (A : Option Addr) (cap : Nat) (B : List Nat) (pos : Nat) (opn : Bool) (np : Value) (w : World) (hB : Oct B) (hl : (B.length : Int) ≤ 1073741824) (hp : pos ≤ 8 * B.length)
    (hD : RefB w g A B.length cap pos false opn np) (hS : Rd .u8 w base A (ofN' B)) (hbw : base ≤ w.heap.size) (hg : base ≤ g) :
    Calls Tryd.prog 33 #[.pointer (some ⟨g, 0, none⟩), .int .i64 1] w (SReadPost B pos 1 g cap A opn np w) :=
  sread_any g base A cap B pos 1 opn np w hB hl (by decide) hp hD hS hbw hg
/-- What 'symbol' of the reference answers. -/
def SSymPost (L Bs : List Nat) (pos g cap : Nat) (A : Option Addr) (opn : Bool) (np : Value) (w : World) (e : Ending) (w' : World) : Prop :=
  (pos + L.getD (dec L Bs pos) 0 ≤ 8 * Bs.length → e = .returned (.int .i64 (dec L Bs pos : Nat)) ∧ RefB w' g A Bs.length cap (pos + L.getD (dec L Bs pos) 0) false opn np) ∧
  (¬ pos + L.getD (dec L Bs pos) 0 ≤ 8 * Bs.length → e = .returned (.int .i64 0) ∧ RefB w' g A Bs.length cap (8 * Bs.length) true opn np) ∧ Upd [g] w w'

set_option maxRecDepth 100000 in
set_option maxHeartbeats 4000000 in
theorem symbol_any (g base cap : Nat) (A As : Option Addr) (cs : Nat) (L Bs : List Nat) (pos : Nat) (opn : Bool) (np : Value) (w : World) (hL : ∀ x ∈ L, x ≤ 15) (hk : kS L 15 = 32768) (hN : L.length ≤ 4096) (hn2 : 2 ≤ nz L) (hB : Oct Bs) (hl : (Bs.length : Int) ≤ 1073741824) (hp : pos ≤ 8 * Bs.length)
    (hD : RefB w g A Bs.length cap pos false opn np) (hS : Rd .u8 w base A (ofN' Bs)) (hbw : base ≤ w.heap.size) (hg : base ≤ g) (hSy : Rd .i64 w w.heap.size As (ofN' (symsU L 15))) (hgs : ∀ a, As = some a → a.block ≠ g) :
    Calls Tryd.prog 57 #[.pointer (some ⟨g, 0, none⟩), .agg (codeRow (fun c => if 1 ≤ c then ((cnt L c : Nat) : Int) else 0) (.slice As (nz L) cs))] w (SSymPost L Bs pos g cap A opn np w) := by
  have hglt : g < w.heap.size := Blk.lt hD
  have hn1 : ((nz L : Int) == 1) = false := by simp <;> omega
  have hc16 := codeRow_last (fun c => if 1 ≤ c then ((cnt L c : Nat) : Int) else 0) (.slice As (nz L) cs)
  have hcn := fun i h1 h2 => (codeRow_get (fun c => if 1 ≤ c then ((cnt L c : Nat) : Int) else 0) (.slice As (nz L) cs) i h2).trans (by rw [if_pos (show 1 ≤ i from h1)])
  generalize codeRow (fun c => if 1 ≤ c then ((cnt L c : Nat) : Int) else 0) (.slice As (nz L) cs) = CS at *
  replace hL := hide hL
  replace hk := hide hk
  replace hD := hide hD
  replace hS := hide hS
  replace hSy := hide hSy
  replace hB := hide hB
  replace hcn := hide hcn
  go_enter Tryd.func57, Tryd.ntmps57
  go_wp2
  have hK0 : Hid (Blk (w.alloc (.cells CS 75)) w.heap.size 75 CS) := hide (Blk.new w 75 CS)
  go_loopg [5, 6, 7, 8] 15 (fun k u5 u6 u7 u8 wr => ∃ n : Nat, k + n = 15 ∧ u8 = .int .i64 ((n : Int) + 1) ∧ u5 = .int .i64 (topN L n : Nat) ∧ u6 = .int .i64 (cntS L n : Nat) ∧ u7 = .int .i64 (vN Bs pos n : Nat) ∧ topN L n ≤ vN Bs pos n ∧ pos + n ≤ 8 * Bs.length ∧ RefB wr g A Bs.length cap (pos + n) false opn np ∧ Blk wr w.heap.size 75 CS ∧ Upd [g] w wr)
  case atStart =>
    exact ⟨0, rfl, rfl, rfl, rfl, rfl, top_zero L Bs pos, hp, Blk.alloc hD.out _, hK0.out, (Upd.refl [g] w).alloc _⟩
  case round =>
    obtain ⟨n, hkn, rfl, rfl, rfl, rfl, htv, hpn, hR, hK, hU⟩ := hrel
    clear hK0
    cases gk with
    | zero =>
      have hn15 : n = 15 := by omega
      subst hn15
      exact absurd htv (top_end hk.out)
    | succ k =>
      have hn15 : n + 1 ≤ 15 := by omega
      have hv := vN_lt Bs pos n
      have hp2 : (2 : Nat) ^ n ≤ 2 ^ 14 := Nat.pow_le_pow_right (by decide) (by omega)
      have hvb : vN Bs pos n ≤ 16384 := by omega
      have hvs := vN_succ Bs pos n
      have hbit := bits_one' Bs (pos + n)
      have hcr := sread_one g base A cap Bs (pos + n) opn np wr hB.out hl hpn hR (hS.out.upd hU hbw (by simp; omega)) (by have := hU.size; omega) hg
      have htl : ¬ (15 : Int) < (n : Int) + 1 := by omega
      have hhit := dec_hit hL.out hk.out Bs pos
      have hlater := hit_later hhit htv
      have hfd := found hL.out hk.out (B := Bs) (pos := pos) hn15 htv
      have hnf := not_found (L := L) (B := Bs) (pos := pos) (n := n) htv
      have hgt := gN_top2 L n
      have htb : topN L n ≤ 16384 := by omega
      have hcb := cnt_le L (n + 1)
      have hsb := cntS_bd L hL.out n (by omega)
      have hnl : nz L ≤ L.length := List.countP_le_length
      have hcs : cntS L (n + 1) = cntS L n + cnt L (n + 1) := rfl
      have htn : topN L (n + 1) = gN L (n + 1) + cnt L (n + 1) := by unfold topN; rw [if_neg (by omega)]
      have hcc := (hK.cell (n + 1)).trans (hcn.out (n + 1) (by omega) (by omega))
      have hc16' := (hK.cell 16).trans hc16
      rw [hbit] at hvs
      rw [hvs, hgt] at hfd hnf
      rw [hgt] at htn
      have hbl : bitsAt Bs (pos + n) 1 < 2 := by have := bitsAt_lt Bs (pos + n) 1; omega
      have hd1 : ¬ pos + n + 1 ≤ 8 * Bs.length → ¬ pos + L.getD (dec L Bs pos) 0 ≤ 8 * Bs.length := by omega
      generalize hbt : bitsAt Bs (pos + n) 1 = bit at *
      generalize hvq : vN Bs pos n = v at *
      generalize htq : topN L n = t at *
      generalize hcq : cnt L (n + 1) = c at *
      generalize hsq : cntS L n = s at *
      replace hbt := hide hbt
      replace hvq := hide hvq
      replace htq := hide htq
      replace hcq := hide hcq
      replace hsq := hide hsq
      replace hvs := hide hvs
      replace hcs := hide hcs
      replace htn := hide htn
      replace hfd := hide hfd
      replace hnf := hide hnf
      replace hgt := hide hgt
      replace hhit := hide hhit
      replace hd1 := hide hd1
      replace hcr := hide hcr
      have hvI : (v : Int) ≤ 16384 := by omega
      have htI : (t : Int) ≤ 16384 := by omega
      have hbI : (bit : Int) ≤ 1 := by omega
      have hcI : (c : Int) ≤ 4096 := by omega
      have hsI : (s : Int) ≤ 4096 := by omega
      have hnI : (n : Int) ≤ 14 := by omega
      have hnt : ((n : Int) + 1).toNat = n + 1 := by omega
      have hUl := hU.size
      by_cases hok : pos + n + 1 ≤ 8 * Bs.length
      · clear hR
        go_wp2_with fail
        (with_reducible refine (hcr.out).mono ?_)
        rintro e w1 ⟨hyes, _, hU1⟩
        obtain ⟨he, hR1⟩ := hyes hok
        rw [hbt.out] at he
        subst he
        clear hyes
        have c2 := Blk.cell hR1 2
        simp only [List.getElem?_toArray, List.getElem?_cons_zero, List.getElem?_cons_succ] at c2
        have hK1 := hide (hK.upd hU1 (by simp; omega))
        have hcc1 := (hU1.cell (p := ⟨w.heap.size, n + 1, none⟩) (hK.lt) (by simp; omega)).trans hcc
        have hc161 := (hU1.cell (p := ⟨w.heap.size, 16, none⟩) (hK.lt) (by simp; omega)).trans hc16'
        have hU2 := hide (hU.trans hU1)
        replace hR1 := hide hR1
        clear hU hK hcc hc16' hcr
        by_cases hf : 2 * v + bit < 2 * t + c
        · have hfI : (2 * (v : Int) + (bit : Int)) - (t : Int) * 2 < (c : Int) := by omega
          obtain ⟨f1, f2, f3, f4⟩ := hfd.out hf
          obtain ⟨b, off, rfl, hbb, hc⟩ := hSy.out.at_ (j := s + (2 * v + bit - 2 * t)) (by rw [ofN'_len, symsU_len, cntS_all L hL.out]; exact f3)
          have hx := (hU2.out.cell (p := ⟨b, off + (s + (2 * v + bit - 2 * t)), none⟩) hbb (by have := hgs _ rfl; simpa using this)).trans (hc _ (by rw [ofN'_len, symsU_len, cntS_all L hL.out]; exact f3))
          rw [ofN'_get, f2] at hx
          have hix : ((s : Int) + (2 * (v : Int) + (bit : Int)) - (t : Int) * 2) = ((s + (2 * v + bit - 2 * t) : Nat) : Int) := by omega
          have hfit : pos + L.getD (dec L Bs pos) 0 ≤ 8 * Bs.length := by rw [f1]; omega
          have hR2 : RefB w1 g A Bs.length cap (pos + L.getD (dec L Bs pos) 0) false opn np := by rw [f1]; exact hR1.out
          replace hR2 := hide hR2
          clear f1 f2 hc hfd hnf
          generalize s + (2 * v + bit - 2 * t) = ix at *
          generalize hdd : dec L Bs pos = dd at *
          replace hdd := hide hdd
          go_wp2
          go_ret
          unfold SSymPost
          rw [hdd.out]
          exact ⟨fun _ => ⟨rfl, hR2.out⟩, fun h => absurd hfit h, hU2.out⟩
        · have hfI : ¬ (2 * (v : Int) + (bit : Int)) - (t : Int) * 2 < (c : Int) := by omega
          have hnf' := hnf.out hf
          replace hnf' := hide hnf'
          replace hf := hide hf
          clear hfd hnf
          go_wp2
          go_roundg k
          case measure => omega
          case rel =>
            refine ⟨n + 1, by omega, by go_num, ?_, ?_, ?_, ?_, by omega, hR1.out, hK1.out, hU2.out⟩
            · rw [htn.out]; go_num
            · rw [hcs.out]; go_num
            · rw [hvs.out]; go_num
            · rw [hvs.out]; exact hnf'.out
      · clear hR
        go_wp2_with fail
        (with_reducible refine (hcr.out).mono ?_)
        rintro e w1 ⟨_, hno, hU1⟩
        obtain ⟨rfl, hR1⟩ := hno hok
        clear hno
        have c2 := Blk.cell hR1 2
        simp only [List.getElem?_toArray, List.getElem?_cons_zero, List.getElem?_cons_succ] at c2
        have hbig := hide (hd1.out hok)
        have hU2 := hide (hU.trans hU1)
        replace hR1 := hide hR1
        clear hU hK hcc hc16' hcr hd1 hU1
        go_wp2
        go_ret
        exact ⟨fun h => absurd h hbig.out, fun _ => ⟨rfl, hR1.out⟩, hU2.out⟩
end Go.Proofs.YtpiapfahcoopbaaDoor

/- The reference's 'some': the walk. -/
import Derived.Test.YtpiapfahcoopbaaDoorSymRef
import Derived.Test.YtpiapfahcoopbaaDoorRdNe
namespace Go.Proofs.YtpiapfahcoopbaaDoor
set_option linter.unusedSimpArgs false
set_option linter.unusedVariables false
open Go.RowKit Plain

/-- 0: all are read; 2: the bits end. -/
def kindN (n m : Nat) : Int := if m = n then 0 else 2
/-- The answer: as many symbols as are there. -/
def SymsPost (L Bs : List Nat) (n base : Nat) (S : List Nat) (w : World) (e : Ending) (w' : World) : Prop :=
  ∃ m v, StopR L Bs n m ∧ e = .returned (.tuple #[v, .int .i64 (kindN n m)]) ∧ w'.ownsRow base 3 1 v m ((runS L Bs m).map (Value.int .i64)) ∧ Upd S w w'

set_option maxRecDepth 100000 in
set_option maxHeartbeats 4000000 in
theorem some_any (g base cap : Nat) (A As : Option Addr) (cs n : Nat) (L Bs : List Nat) (opn : Bool) (np : Value) (w : World) (hL : ∀ x ∈ L, x ≤ 15) (hk : kS L 15 = 32768) (hN : L.length ≤ 4096) (hn2 : 2 ≤ nz L) (hB : Oct Bs) (hl : (Bs.length : Int) ≤ 1073741824) (hn : (n : Int) ≤ 4096)
    (hD : RefB w g A Bs.length cap 0 false opn np) (hS : Rd .u8 w base A (ofN' Bs)) (hbw : base ≤ w.heap.size) (hg : base ≤ g) (hSy : Rd .i64 w w.heap.size As (ofN' (symsU L 15))) (hgs : ∀ a, As = some a → a.block ≠ g) :
    Calls Tryd.prog 41 #[.pointer (some ⟨g, 0, none⟩), .agg (codeRow (fun c => if 1 ≤ c then ((cnt L c : Nat) : Int) else 0) (.slice As (nz L) cs)), .int .i64 n] w (SymsPost L Bs n (w.heap.size + 1) [g] w) := by
  have hglt : g < w.heap.size := Blk.lt hD
  have hcS := fun pos w1 (hp : pos ≤ 8 * Bs.length) (hR : RefB w1 g A Bs.length cap pos false opn np) (hU : Upd [g] w w1) =>
    symbol_any g base cap A As cs L Bs pos opn np w1 hL hk hN hn2 hB hl hp hR (hS.upd hU hbw (by simp; omega)) (Nat.le_trans hbw hU.size) hg ((hSy.updNe hU (Nat.le_refl _) (fun a ha => by have := hgs a ha; simpa using this)).more hU.size) hgs
  have hsz17 : (codeRow (fun c => if 1 ≤ c then ((cnt L c : Nat) : Int) else 0) (.slice As (nz L) cs)).size = 17 := by simp [codeRow, rowF]
  generalize codeRow (fun c => if 1 ≤ c then ((cnt L c : Nat) : Int) else 0) (.slice As (nz L) cs) = CS at *
  replace hL := hide hL
  replace hk := hide hk
  replace hD := hide hD
  replace hS := hide hS
  replace hSy := hide hSy
  replace hB := hide hB
  replace hcS := hide hcS
  replace hsz17 := hide hsz17
  go_enter Tryd.func41, Tryd.ntmps41
  go_wp2
  go_loopg [8, 9] n (fun k u8 u9 wr => ∃ m : Nat, k + m = n ∧ u9 = .int .i64 m ∧ (∀ j, j < m → runP L Bs (j + 1) ≤ 8 * Bs.length) ∧ runP L Bs m ≤ 8 * Bs.length ∧ RefB wr g A Bs.length cap (runP L Bs m) false opn np ∧ wr.ownsRow (w.heap.size + 1) 3 1 u8 m ((runS L Bs m).map (Value.int .i64)) ∧ Blk wr w.heap.size 75 CS ∧ Upd [g] w wr ∧ w.heap.size + 1 ≤ wr.heap.size)
  case atStart =>
    exact ⟨0, rfl, rfl, by omega, by simp [runP], Blk.alloc hD.out _, ⟨rfl, .inl ⟨rfl, rfl⟩⟩, Blk.new w 75 CS, (Upd.refl [g] w).alloc _, by simp⟩
  case round =>
    obtain ⟨m, hm, rfl, hall, hpm, hR, hown, hK, hU, hsz⟩ := hrel
    cases gk with
    | zero =>
      have hm' : m = n := by omega
      subst hm'
      have hmn : ¬ (m : Int) < (m : Int) := by omega
      replace hown := hide hown
      replace hU := hide hU
      replace hall := hide hall
      clear hR hK hcS
      go_wp2
      go_ret2
      exact ⟨m, _, ⟨Nat.le_refl _, hall.out, .inl rfl⟩, by unfold kindN; rw [if_pos rfl]; rfl, hown.out, hU.out⟩
    | succ k =>
      have hmn : (m : Int) < (n : Int) := by omega
      have hc := hcS.out (runP L Bs m) wr hpm hR hU
      have hr0 := hK.range
      have hrp : runP L Bs (m + 1) = runP L Bs m + L.getD (dec L Bs (runP L Bs m)) 0 := rfl
      have hrs := runS_succ L Bs m
      have hdl := (dec_hit hL.out hk.out Bs (runP L Bs m)).1.lt
      have hfz := Blk.frozen hR 2
      generalize hdd : dec L Bs (runP L Bs m) = dd at *
      replace hdd := hide hdd
      have hddI : (dd : Int) ≤ 4096 := by omega
      replace hc := hide hc
      replace hr0 := hide hr0
      replace hrp := hide hrp
      replace hrs := hide hrs
      replace hown := hide hown
      replace hU := hide hU
      replace hall := hide hall
      clear hcS hR
      go_wp2_with (first | (refine wpList_load_mid rfl 75 (.tmp 4) rfl w.heap.size 0 rfl CS.toList _ hr0.out Tryd.underlying75 rfl (by rw [Array.length_toList, hsz17.out]; exact size_code) ?_) | fail)
      (with_reducible refine (hc.out).mono ?_)
      rintro e w1 ⟨hyes, hno, hU1⟩
      rw [hdd.out] at hyes hno
      have hown1 := hide (hU1.own hown.out (fun g' hg' => by have := (hown.out.lt g' hg').1; simp; omega))
      have hK1 := hide (hK.upd hU1 (by simp; omega))
      have hU2 := hide (hU.out.trans hU1)
      have hsz1 : w.heap.size + 1 ≤ w1.heap.size := Nat.le_trans hsz hU1.size
      clear hc hr0 hown hU hfz hK
      by_cases hok : runP L Bs m + L.getD dd 0 ≤ 8 * Bs.length
      · obtain ⟨rfl, hR1⟩ := hyes hok
        have c2 := Blk.cell hR1 2
        simp only [List.getElem?_toArray, List.getElem?_cons_zero, List.getElem?_cons_succ] at c2
        replace hR1 := hide hR1
        clear hyes hno hU1
        go_wp2_with (first | (at_builtin; refine wpList_push rfl (.tmp 24) (.tmp 26) _ rfl (w.heap.size + 1) 3 _ 8 Tryd.underlying23 info_int rfl u8 m _ rfl hown1.out _ rfl rfl (by simp only [maxLen]; omega) (by omega) hsz1 ?_; intro v' w3 hown3 hg3; replace hown3 := hide hown3; replace hg3 := hide hg3) | fail)
        go_roundg k
        case measure => omega
        case rel =>
          have hng : ∀ q, Value.ownBlock u8 = some q → w.heap.size + 1 ≤ q := fun q hq => (hown1.out.lt q hq).1
          refine ⟨m + 1, by omega, by go_num, ?_, by rw [hrp.out]; exact hok, ?_, ?_, ?_, ?_, Nat.le_trans hsz1 hg3.out.size⟩
          · intro j hj
            rcases Nat.lt_or_eq_of_le (Nat.le_of_lt_succ hj) with h | h
            · exact hall.out j h
            · rw [h, hrp.out]; exact hok
          · rw [hrp.out]
            exact Blk.grown hR1.out hg3.out (fun e => by have := hng _ e; omega)
          · rw [hrs.out]
            simpa using hown3.out
          · exact Blk.grown hK1.out hg3.out (fun e => by have := hng _ e; omega)
          · exact hU2.out.grown hg3.out (fun q hq => .inr (by have := hng q hq; omega))
      · obtain ⟨rfl, hR1⟩ := hno hok
        have c2 := Blk.cell hR1 2
        simp only [List.getElem?_toArray, List.getElem?_cons_zero, List.getElem?_cons_succ] at c2
        replace hR1 := hide hR1
        clear hyes hno hU1
        have hbad : Hid (¬ runP L Bs (m + 1) ≤ 8 * Bs.length) := hide (by rw [hrp.out]; exact hok)
        have hmne : kindN n m = 2 := by unfold kindN; rw [if_neg (by omega)]
        replace hmne := hide hmne
        go_wp2
        go_ret2
        exact ⟨m, _, ⟨by omega, hall.out, .inr hbad.out⟩, by rw [hmne.out]; rfl, hown1.out, hU2.out⟩
end Go.Proofs.YtpiapfahcoopbaaDoor

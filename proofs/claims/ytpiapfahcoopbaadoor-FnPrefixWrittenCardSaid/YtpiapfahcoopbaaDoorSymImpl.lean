/- The program's 'symbols': the walk, over whatever 'next' does. -/
import Derived.Test.YtpiapfahcoopbaaDoorNext
import Derived.Test.YtpiapfahcoopbaaDoorReadImpl
import Derived.Deep.RegionWith
namespace Go.Proofs.YtpiapfahcoopbaaDoor
set_option linter.unusedSimpArgs false
set_option linter.unusedVariables false
open Go.RowKit Plain

/-- Where the symbols begin, which they are, and where one stops: told by what is read at a place (D) and how many bits that takes (N). -/
def runG (N : Nat → Nat) (p0 : Nat) : Nat → Nat
  | 0 => p0
  | m + 1 => runG N p0 m + N (runG N p0 m)
def runSG (D N : Nat → Nat) (p0 m : Nat) : List Int := (List.range m).map fun j => ((D (runG N p0 j) : Nat) : Int)
theorem runSG_succ (D N : Nat → Nat) (p0 m : Nat) : runSG D N p0 (m + 1) = runSG D N p0 m ++ [((D (runG N p0 m) : Nat) : Int)] := by simp [runSG, List.range_succ]
theorem runSG_len (D N : Nat → Nat) (p0 m : Nat) : (runSG D N p0 m).length = m := by simp [runSG]
def StopG (N : Nat → Nat) (p0 len n m : Nat) : Prop := m ≤ n ∧ (∀ j, j < m → runG N p0 (j + 1) ≤ 8 * len) ∧ (m = n ∨ ¬ runG N p0 (m + 1) ≤ 8 * len)
/-- What 'next' answers at a place. -/
def NextG (D N : Nat → Nat) (Bs : List Nat) (pos gd r cap : Nat) (A : Option Addr) (au : Addr) (w : World) (e : Ending) (w' : World) : Prop :=
  (pos + N pos ≤ 8 * Bs.length → ∃ i' nb' bt', e = .returned (.tuple #[.int .u32 (D pos : Nat), .nilIface]) ∧ Kept Bs i' (pos + N pos) nb' bt' ∧ nb' ≤ 31 ∧ Dec w' gd r A Bs.length cap i' nb' bt') ∧
  (¬ pos + N pos ≤ 8 * Bs.length → e = .returned (.tuple #[.int .u32 0, .iface 127 (.pointer (some au))])) ∧ Upd [gd, r] w w'
/-- What is asked of 'next'. -/
def NextOK (D N : Nat → Nat) (Bs : List Nat) (g gd r cap : Nat) (A : Option Addr) (au : Addr) (w : World) : Prop :=
  ∀ i pos nb bt w1, Kept Bs i pos nb bt → nb ≤ 31 → Dec w1 gd r A Bs.length cap i nb bt → Upd [gd, r] w w1 → Calls Tryd.prog 68 #[.pointer (some ⟨g, 0, none⟩), .pointer (some ⟨gd, 0, none⟩)] w1 (NextG D N Bs pos gd r cap A au w1)
/-- 0: all are read; 2: the bits end. -/
def kindI (n m : Nat) : Int := if m = n then 0 else 2
def ISymsPost (D N : Nat → Nat) (Bs : List Nat) (p0 n base : Nat) (S : List Nat) (w : World) (e : Ending) (w' : World) : Prop :=
  ∃ m v, StopG N p0 Bs.length n m ∧ e = .returned (.tuple #[v, .int .i64 (kindI n m)]) ∧ w'.ownsRow base 3 1 v m ((runSG D N p0 m).map (Value.int .i64)) ∧ Upd S w w'

set_option maxRecDepth 100000 in
set_option maxHeartbeats 4000000 in
theorem symbols_any (g gd r cap i p0 nb bt n : Nat) (A : Option Addr) (D N : Nat → Nat) (Bs : List Nat) (au : Addr) (w : World) (hn : (n : Int) ≤ 4096) (hDb : ∀ p, D p ≤ 1000000) (hK : Kept Bs i p0 nb bt) (hnb : nb ≤ 31) (hD : Dec w gd r A Bs.length cap i nb bt)
    (hOK : NextOK D N Bs g gd r cap A au w) (hgr : gd ≠ r) :
    Calls Tryd.prog 40 #[.pointer (some ⟨g, 0, none⟩), .pointer (some ⟨gd, 0, none⟩), .int .i64 n] w (ISymsPost D N Bs p0 n w.heap.size [gd, r] w) := by
  have hgl : gd < w.heap.size := hD.d.lt
  have hrl : r < w.heap.size := by obtain ⟨pr, h⟩ := hD.r; exact Blk.lt h
  replace hOK := hide hOK
  replace hD := hide hD
  replace hK := hide hK
  replace hDb := hide hDb
  have hp0 : p0 ≤ 8 * Bs.length := by have := hK.out.nb_; have := hK.out.le; omega
  go_enter Tryd.func40, Tryd.ntmps40
  go_wp2_with fail
  go_loopg [8, 12] n (fun k u8 u12 wr => ∃ m i nb bt : Nat, k + m = n ∧ u12 = .int .i64 m ∧ (∀ j, j < m → runG N p0 (j + 1) ≤ 8 * Bs.length) ∧ Kept Bs i (runG N p0 m) nb bt ∧ nb ≤ 31 ∧ Dec wr gd r A Bs.length cap i nb bt ∧ wr.ownsRow w.heap.size 3 1 u8 m ((runSG D N p0 m).map (Value.int .i64)) ∧ Upd [gd, r] w wr)
  case atStart =>
    exact ⟨0, i, nb, bt, rfl, rfl, by omega, hK.out, hnb, hD.out, ⟨rfl, .inl ⟨rfl, rfl⟩⟩, Upd.refl _ _⟩
  case round =>
    obtain ⟨m, i1, nb1, bt1, hm, rfl, hall, hK1, hnb1, hD1, hown, hU⟩ := hrel
    clear hK hD
    cases gk with
    | zero =>
      have hm' : m = n := by omega
      subst hm'
      have hmn : ¬ (m : Int) < (m : Int) := by omega
      replace hown := hide hown
      replace hU := hide hU
      replace hall := hide hall
      clear hD1 hK1 hOK
      go_wp2
      go_ret2
      exact ⟨m, _, ⟨Nat.le_refl _, hall.out, .inl rfl⟩, by unfold kindI; rw [if_pos rfl]; rfl, hown.out, hU.out⟩
    | succ k =>
      have hmn : (m : Int) < (n : Int) := by omega
      have hc := hOK.out i1 (runG N p0 m) nb1 bt1 wr hK1 hnb1 hD1 hU
      have hrp : runG N p0 (m + 1) = runG N p0 m + N (runG N p0 m) := rfl
      have hrs := runSG_succ D N p0 m
      have hdl := hDb.out (runG N p0 m)
      have hddI : ((D (runG N p0 m) : Nat) : Int) ≤ 1000000 := by omega
      unfold NextG at hc
      generalize N (runG N p0 m) = ln at *
      generalize D (runG N p0 m) = dd at *
      replace hc := hide hc
      replace hrp := hide hrp
      replace hrs := hide hrs
      replace hown := hide hown
      replace hU := hide hU
      replace hall := hide hall
      clear hOK hD1 hK1
      go_wp2_with (first | (go_at_call 56; go_in) | fail)
      (with_reducible refine (hc.out).mono ?_)
      rintro e w1 ⟨hyes, hno, hU1⟩
      have hown1 := hide (hU1.own hown.out (fun g' hg' => by have := (hown.out.lt g' hg').1; simp; omega))
      have hU2 := hide (hU.out.trans hU1)
      have hsz1 : w.heap.size ≤ w1.heap.size := hU2.out.size
      clear hc hown hU hU1
      by_cases hok : runG N p0 m + ln ≤ 8 * Bs.length
      · obtain ⟨i2, nb2, bt2, rfl, hK2, hnb2, hD2⟩ := hyes hok
        replace hD2 := hide hD2
        replace hK2 := hide hK2
        clear hyes hno
        go_wp2_with (first | (at_builtin; refine wpList_push rfl (.tmp 23) (.tmp 26) _ rfl w.heap.size 3 _ 8 Tryd.underlying23 info_int rfl u8 m _ rfl hown1.out _ rfl rfl (by simp only [maxLen]; omega) (by omega) hsz1 ?_; intro v' w3 hown3 hg3; replace hown3 := hide hown3; replace hg3 := hide hg3) | fail)
        go_roundg k
        case measure => omega
        case rel =>
          have hng : ∀ q, Value.ownBlock u8 = some q → w.heap.size ≤ q := fun q hq => (hown1.out.lt q hq).1
          refine ⟨m + 1, i2, nb2, bt2, by omega, by go_num, ?_, by rw [hrp.out]; exact hK2.out, hnb2, ?_, ?_, ?_⟩
          · intro j hj
            rcases Nat.lt_or_eq_of_le (Nat.le_of_lt_succ hj) with h | h
            · exact hall.out j h
            · rw [h, hrp.out]; exact hok
          · exact ⟨Blk.grown hD2.out.d hg3.out (fun e => by have := hng _ e; omega), by obtain ⟨pr, h⟩ := hD2.out.r; exact ⟨pr, Blk.grown h hg3.out (fun e => by have := hng _ e; omega)⟩⟩
          · rw [hrs.out]
            simpa using hown3.out
          · exact hU2.out.grown hg3.out (fun q hq => .inr (hng q hq))
      · obtain rfl := hno hok
        clear hyes hno
        have hbad : Hid (¬ runG N p0 (m + 1) ≤ 8 * Bs.length) := hide (by rw [hrp.out]; exact hok)
        have hmne : kindI n m = 2 := by unfold kindI; rw [if_neg (by omega)]
        replace hmne := hide hmne
        go_wp2
        go_ret2
        exact ⟨m, _, ⟨by omega, hall.out, .inr hbad.out⟩, by rw [hmne.out]; rfl, hown1.out, hU2.out⟩
end Go.Proofs.YtpiapfahcoopbaaDoor

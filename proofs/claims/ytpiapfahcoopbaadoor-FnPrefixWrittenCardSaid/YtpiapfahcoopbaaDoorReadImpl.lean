/- 'impl.Read' and 'spec.Read': numbers of so many bits each. The walks. -/
import Derived.Test.YtpiapfahcoopbaaDoorBitsRef
import Derived.Deep.RegionWith
namespace Go.Proofs.YtpiapfahcoopbaaDoor
set_option linter.unusedSimpArgs false
set_option linter.unusedVariables false
open Go.RowKit Plain

theorem info_int : (Tryd.prog.info? 3).map (fun i => (i.zero, i.size, i.bytes)) = some (some (Value.int .i64 0), 1, 8) := by kernel_rfl
theorem below_drewN {b : Nat} {w w' : World} (h : Below b w w') (n : Nat) : Below b w (w'.drewN n) := ⟨h.os, h.tape, h.output, h.size, h.block⟩
theorem ofN'_get (l : List Nat) (m : Nat) : (ofN' l).getD m 0 = ((l.getD m 0 : Nat) : Int) := by
  rcases Nat.lt_or_ge m l.length with h | h
  · simp [ofN', h]
  · simp [ofN', h]
theorem ofN'_len (l : List Nat) : (ofN' l).length = l.length := by simp [ofN']
/-- The answer of 'Read': as many numbers as are there, and whether these are all. -/
def ReadsPost (B ss : List Nat) (base : Nat) (w : World) (e : Ending) (w' : World) : Prop :=
  ∃ m v, StopAt B ss m ∧ e = .returned (.tuple #[v, .bool (decide (m = ss.length))]) ∧ w'.ownsRow base 3 1 v m ((readN B ss m).map (Value.int .i64)) ∧ Below w.heap.size w w'

set_option maxRecDepth 100000 in
set_option maxHeartbeats 4000000 in
theorem reads_any (A As : Option Addr) (cap caps : Nat) (B ss : List Nat) (ae au : Addr) (w : World) (hB : Oct B) (hl : (B.length : Int) ≤ 1048576) (hs : (ss.length : Int) ≤ 4096) (hs24 : ∀ x ∈ ss, x ≤ 24)
    (hS : Rd .u8 w w.heap.size A (ofN' B)) (hSs : Rd .i64 w w.heap.size As (ofN' ss)) (hE : Ends w ae au) :
    Calls Tryd.prog 11 #[.slice A B.length cap, .slice As ss.length caps] w (ReadsPost B ss (w.heap.size + 2) w) := by
  have hEl := hE.lt
  replace hB := hide hB
  replace hS := hide hS
  replace hSs := hide hSs
  replace hE := hide hE
  replace hs24 := hide hs24
  go_enter Tryd.func11, Tryd.ntmps11
  go_wp2_with (first | (go_at_call 31; go_in) | (go_at_call 30; go_in) | fail)
  go_loopg [7, 18] ss.length (fun k u7 u18 wr => ∃ m i nb bt : Nat, k + m = ss.length ∧ u18 = .int .i64 m ∧ (∀ j, j < m → posAt ss (j + 1) ≤ 8 * B.length) ∧ Kept B i (posAt ss m) nb bt ∧ nb ≤ 31 ∧ Dec wr (w.heap.size + 1) w.heap.size A B.length cap i nb bt ∧
    wr.ownsRow (w.heap.size + 2) 3 1 u7 m ((readN B ss m).map (Value.int .i64)) ∧ Below w.heap.size w wr ∧ w.heap.size + 2 ≤ wr.heap.size)
  case atStart =>
    refine ⟨0, 0, 0, 0, rfl, rfl, by omega, Kept.start B, by omega, ⟨?_, -1, ?_⟩, ⟨rfl, .inl ⟨rfl, rfl⟩⟩, ?_, ?_⟩
    · have h := Blk.new (w.alloc (.cells #[.slice A B.length cap, .int .i64 0, .int .i64 (-1)] 101)) 99 #[.iface 57 (.pointer (some ⟨w.heap.size, 0, none⟩)), .int .u32 0, .int .u32 0]
      rw [World.size_alloc] at h
      exact h
    · exact (Blk.new w 101 _).alloc _
    · exact ((Below.refl _ w).alloc (Nat.le_refl _) _).alloc (by simp) _
    · simp
  case round =>
    obtain ⟨m, i, nb, bt, hm, rfl, hall, hK, hnb, hD, hown, hbel, hsz⟩ := hrel
    cases gk with
    | zero =>
      have hm' : m = ss.length := by omega
      subst hm'
      have hmn : ¬ (ss.length : Int) < (ss.length : Int) := by omega
      replace hown := hide hown
      replace hbel := hide hbel
      replace hall := hide hall
      clear hK hD
      go_wp2
      go_ret2
      exact ⟨ss.length, _, ⟨Nat.le_refl _, hall.out, .inl rfl⟩, by simp, hown.out, hbel.out⟩
    | succ k =>
      have hmn : m < ss.length := by omega
      have hmi : (m : Int) < (ss.length : Int) := by omega
      obtain ⟨b, off, rfl, hbb, hc⟩ := hSs.out.at_ (j := m) (by rw [ofN'_len]; omega)
      have hx := (hbel.cell (p := ⟨b, off + m, none⟩) hbb).trans (hc m (by rw [ofN'_len]; omega))
      rw [ofN'_get] at hx
      have hn24 : ss.getD m 0 ≤ 24 := hs24.out _ (by simp [hmn])
      have hpos := posAt_succ ss m hmn
      have hrs := readN_succ B ss m
      have hcR := read_any (w.heap.size + 1) w.heap.size w.heap.size A cap B i (posAt ss m) nb bt (ss.getD m 0) ae au wr hB.out (by omega) hK hnb hn24 hD (hS.out.below hbel) hbel.size (hE.out.below hbel hEl) (by omega) (Nat.le_refl _) (by omega) (by omega)
      have hbv := bitsAt_lt B (posAt ss m) (ss.getD m 0)
      clear hc hK hD
      generalize hn : ss.getD m 0 = n at *
      have hni : (n : Int) ≤ 24 := by omega
      have hbvi : bitsAt B (posAt ss m) n ≤ 16777216 := Nat.le_trans (Nat.le_of_lt hbv) (Nat.le_trans (Nat.pow_le_pow_right (by decide) hn24) (by decide))
      replace hown := hide hown
      replace hbel := hide hbel
      replace hall := hide hall
      replace hcR := hide hcR
      replace hpos := hide hpos
      replace hrs := hide hrs
      replace hn := hide hn
      clear hbv
      by_cases hok : posAt ss m + n ≤ 8 * B.length
      · go_wp2_with (first | (go_at_call 32; go_in) | (go_at_call 52; (with_reducible refine (hcR.out).mono ?_); rintro e w1 ⟨hyes, _, hU⟩; obtain ⟨i1, nb1, bt1, rfl, hK1, hnb1, hD1⟩ := hyes hok; clear hyes; have hown1 := hide (hU.own hown.out (fun g hg => (by have := (hown.out.lt g hg).1; simp; omega))); have hsz1 : w.heap.size + 2 ≤ w1.heap.size := Nat.le_trans hsz hU.size; replace hU := hide hU; replace hK1 := hide hK1; replace hD1 := hide hD1) | (at_builtin; refine wpList_push rfl (.tmp 32) (.tmp 35) _ rfl (w.heap.size + 2) 3 _ 8 Tryd.underlying23 info_int rfl u7 m _ rfl hown1.out _ rfl rfl (by simp only [maxLen]; omega) (by omega) hsz1 ?_; intro v' w3 hown3 hg3; replace hown3 := hide hown3; replace hg3 := hide hg3) | fail)
        go_roundg k
        case measure => omega
        case rel =>
          refine ⟨m + 1, i1, nb1, bt1, by omega, by go_num, ?_, ?_, hnb1, ?_, ?_, ?_, ?_⟩
          · intro j hj
            rcases Nat.lt_or_ge j m with h | h
            · exact hall.out j h
            · have e : j = m := by omega
              rw [e, hpos.out]
              exact hok
          · rw [hpos.out]
            exact hK1.out
          · exact ⟨Blk.grown hD1.out.d hg3.out (fun e => by have := (hown.out.lt _ e).1; omega), by obtain ⟨pr, h⟩ := hD1.out.r; exact ⟨pr, Blk.grown h hg3.out (fun e => by have := (hown.out.lt _ e).1; omega)⟩⟩
          · rw [hrs.out]
            simpa using hown3.out
          · exact (hbel.out.trans (hU.out.below (by simp) hbel.out.size)).grown hg3.out (by have := hsz1; omega) (fun g hg => by have := (hown.out.lt g hg).1; omega)
          · exact Nat.le_trans hsz1 hg3.out.size
      · go_wp2_with (first | (go_at_call 32; go_in) | (go_at_call 52; (with_reducible refine (hcR.out).mono ?_); rintro e w1 ⟨_, hno, hU⟩; obtain rfl := hno hok; clear hno; replace hU := hide hU) | fail)
        go_ret2
        refine ⟨m, u7, ⟨by omega, hall.out, .inr ?_⟩, ?_, ?_, ?_⟩
        · rw [hpos.out]
          exact hok
        · have hne : ¬ m = ss.length := by omega
          show Ending.returned (.tuple #[u7, .bool false]) = _
          rw [decide_eq_false hne]
        · exact hU.out.own hown.out (fun g hg => (by have := (hown.out.lt g hg).1; simp; omega))
        · exact hbel.out.trans (hU.out.below (by simp) hbel.out.size)

set_option maxRecDepth 100000 in
set_option maxHeartbeats 4000000 in
theorem sreads_any (A As : Option Addr) (cap caps : Nat) (B ss : List Nat) (w : World) (hB : Oct B) (hl : (B.length : Int) ≤ 1048576) (hs : (ss.length : Int) ≤ 4096) (hs24 : ∀ x ∈ ss, x ≤ 24)
    (hS : Rd .u8 w w.heap.size A (ofN' B)) (hSs : Rd .i64 w w.heap.size As (ofN' ss)) :
    Calls Tryd.prog 12 #[.slice A B.length cap, .slice As ss.length caps] w (ReadsPost B ss (w.heap.size + 1) w) := by
  replace hB := hide hB
  replace hS := hide hS
  replace hSs := hide hSs
  replace hs24 := hide hs24
  go_enter Tryd.func12, Tryd.ntmps12
  go_wp2_with fail
  go_loopg [7, 8] ss.length (fun k u7 u8 wr => ∃ m : Nat, k + m = ss.length ∧ u8 = .int .i64 m ∧ (∀ j, j < m → posAt ss (j + 1) ≤ 8 * B.length) ∧ posAt ss m ≤ 8 * B.length ∧ RefB wr w.heap.size A B.length cap (posAt ss m) false false (.pointer none) ∧
    wr.ownsRow (w.heap.size + 1) 3 1 u7 m ((readN B ss m).map (Value.int .i64)) ∧ Below w.heap.size w wr ∧ w.heap.size + 1 ≤ wr.heap.size)
  case atStart =>
    refine ⟨0, rfl, rfl, by omega, by simp [posAt], ?_, ⟨rfl, .inl ⟨rfl, rfl⟩⟩, ?_, ?_⟩
    · exact Blk.new w 67 _
    · exact (Below.refl _ w).alloc (Nat.le_refl _) _
    · simp
  case round =>
    obtain ⟨m, hm, rfl, hall, hpm, hD, hown, hbel, hsz⟩ := hrel
    cases gk with
    | zero =>
      have hm' : m = ss.length := by omega
      subst hm'
      have hmn : ¬ (ss.length : Int) < (ss.length : Int) := by omega
      replace hown := hide hown
      replace hbel := hide hbel
      replace hall := hide hall
      clear hD
      go_wp2
      go_ret2
      exact ⟨ss.length, _, ⟨Nat.le_refl _, hall.out, .inl rfl⟩, by simp, hown.out, hbel.out⟩
    | succ k =>
      have hmn : m < ss.length := by omega
      have hmi : (m : Int) < (ss.length : Int) := by omega
      obtain ⟨b, off, rfl, hbb, hc⟩ := hSs.out.at_ (j := m) (by rw [ofN'_len]; omega)
      have hx := (hbel.cell (p := ⟨b, off + m, none⟩) hbb).trans (hc m (by rw [ofN'_len]; omega))
      rw [ofN'_get] at hx
      have hn24 : ss.getD m 0 ≤ 24 := hs24.out _ (by simp [hmn])
      have hpos := posAt_succ ss m hmn
      have hrs := readN_succ B ss m
      have hcR := sread_any w.heap.size w.heap.size A cap B (posAt ss m) (ss.getD m 0) false (.pointer none) wr hB.out (by omega) hn24 hpm hD (hS.out.below hbel) hbel.size (Nat.le_refl _)
      have hbv := bitsAt_lt B (posAt ss m) (ss.getD m 0)
      clear hc hD
      generalize hn : ss.getD m 0 = n at *
      have hni : (n : Int) ≤ 24 := by omega
      have hbvi : bitsAt B (posAt ss m) n ≤ 16777216 := Nat.le_trans (Nat.le_of_lt hbv) (Nat.le_trans (Nat.pow_le_pow_right (by decide) hn24) (by decide))
      replace hown := hide hown
      replace hbel := hide hbel
      replace hall := hide hall
      replace hcR := hide hcR
      replace hpos := hide hpos
      replace hrs := hide hrs
      replace hn := hide hn
      clear hbv
      by_cases hok : posAt ss m + n ≤ 8 * B.length
      · go_wp2_with (first | (go_at_call 33; (with_reducible refine (hcR.out).mono ?_); rintro e w1 ⟨hyes, _, hU⟩; obtain ⟨rfl, hD1⟩ := hyes hok; clear hyes; have c2 := Blk.cell hD1 2; simp only [List.getElem?_toArray, List.getElem?_cons_zero, List.getElem?_cons_succ] at c2; have hown1 := hide (hU.own hown.out (fun g hg => (by have := (hown.out.lt g hg).1; simp; omega))); have hsz1 : w.heap.size + 1 ≤ w1.heap.size := Nat.le_trans hsz hU.size; replace hU := hide hU; replace hD1 := hide hD1) | (at_builtin; refine wpList_push rfl (.tmp 30) (.tmp 32) _ rfl (w.heap.size + 1) 3 _ 8 Tryd.underlying23 info_int rfl u7 m _ rfl hown1.out _ rfl rfl (by simp only [maxLen]; omega) (by omega) hsz1 ?_; intro v' w3 hown3 hg3; replace hown3 := hide hown3; replace hg3 := hide hg3) | fail)
        go_roundg k
        case measure => omega
        case rel =>
          refine ⟨m + 1, by omega, by go_num, ?_, ?_, ?_, ?_, ?_, ?_⟩
          · intro j hj
            rcases Nat.lt_or_ge j m with h | h
            · exact hall.out j h
            · have e : j = m := by omega
              rw [e, hpos.out]
              exact hok
          · rw [hpos.out]
            exact hok
          · rw [hpos.out]
            exact Blk.grown hD1.out hg3.out (fun e => by have := (hown.out.lt _ e).1; omega)
          · rw [hrs.out]
            simpa using hown3.out
          · exact (hbel.out.trans (hU.out.below (by simp) hbel.out.size)).grown hg3.out (by have := hsz1; omega) (fun g hg => by have := (hown.out.lt g hg).1; omega)
          · exact Nat.le_trans hsz1 hg3.out.size
      · go_wp2_with (first | (go_at_call 33; (with_reducible refine (hcR.out).mono ?_); rintro e w1 ⟨_, hno, hU⟩; obtain ⟨rfl, hD1⟩ := hno hok; clear hno; have c2 := Blk.cell hD1 2; simp only [List.getElem?_toArray, List.getElem?_cons_zero, List.getElem?_cons_succ] at c2; replace hU := hide hU; replace hD1 := hide hD1) | fail)
        go_ret2
        refine ⟨m, u7, ⟨by omega, hall.out, .inr ?_⟩, ?_, ?_, ?_⟩
        · rw [hpos.out]
          exact hok
        · have hne : ¬ m = ss.length := by omega
          show Ending.returned (.tuple #[u7, .bool false]) = _
          rw [decide_eq_false hne]
        · exact hU.out.own hown.out (fun g hg => (by have := (hown.out.lt g hg).1; simp; omega))
        · exact hbel.out.trans (hU.out.below (by simp) hbel.out.size)
end Go.Proofs.YtpiapfahcoopbaaDoor

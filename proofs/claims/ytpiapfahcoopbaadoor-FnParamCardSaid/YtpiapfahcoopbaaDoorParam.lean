/- The number of a symbol with its further bits: the walks, and the law FnParam. -/
import Derived.Test.YtpiapfahcoopbaaDoorReadLaw
import Derived.Deep.RegionWith
namespace Go.Proofs.YtpiapfahcoopbaaDoor
set_option linter.unusedSimpArgs false
set_option linter.unusedVariables false
open Go.RowKit Plain

/-- What the further bits add. -/
def farV (B : List Nat) (pos p n : Nat) : Nat := (2 + p) * 2 ^ n + bitsAt B pos n + 1
theorem farV_le (B : List Nat) (pos p n : Nat) (hp : p < 2) (hn : n ≤ 18) : farV B pos p n ≤ 1048577 := by
  unfold farV
  have h1 := bitsAt_lt B pos n
  have h2 : (2 : Nat) ^ n ≤ 2 ^ 18 := Nat.pow_le_pow_right (by decide) hn
  have h3 : (2 + p) * 2 ^ n ≤ 3 * 2 ^ n := Nat.mul_le_mul_right _ (by omega)
  omega
theorem far_facts (B : List Nat) (pos p n : Nat) (hp : p < 2) (hn : n ≤ 18) : (2 + (p : Int)) * 2 ^ n + ((bitsAt B pos n : Nat) : Int) + 1 = ((farV B pos p n : Nat) : Int) ∧ 0 ≤ (2 + (p : Int)) * 2 ^ n ∧ (2 + (p : Int)) * 2 ^ n ≤ 786432 ∧ ((bitsAt B pos n : Nat) : Int) ≤ 262144 ∧ (0 : Int) ≤ ((bitsAt B pos n : Nat) : Int) := by
  have h1 := bitsAt_lt B pos n
  have h2 : (2 : Nat) ^ n ≤ 2 ^ 18 := Nat.pow_le_pow_right (by decide) hn
  have h3 : (2 + p) * 2 ^ n ≤ 3 * 2 ^ n := Nat.mul_le_mul_right _ (by omega)
  have e : (2 + (p : Int)) * 2 ^ n = (((2 + p) * 2 ^ n : Nat) : Int) := by simp
  rw [e]
  unfold farV
  refine ⟨by omega, by omega, by omega, by omega, by omega⟩

def LzPost (B : List Nat) (pos p n g r cap : Nat) (A : Option Addr) (au : Addr) (w : World) (e : Ending) (w' : World) : Prop :=
  (pos + n ≤ 8 * B.length → ∃ i' nb' bt', e = .returned (.tuple #[.int .u32 (farV B pos p n : Nat), .nilIface]) ∧ Kept B i' (pos + n) nb' bt' ∧ nb' ≤ 31 ∧ Dec w' g r A B.length cap i' nb' bt') ∧
  (¬ pos + n ≤ 8 * B.length → e = .returned (.tuple #[.int .u32 0, .iface 127 (.pointer (some au))])) ∧ Upd [g, r] w w'

set_option maxRecDepth 100000 in
set_option maxHeartbeats 2000000 in
theorem lz_any (g r base : Nat) (A : Option Addr) (cap : Nat) (B : List Nat) (i pos nb bt s n p : Nat) (ae au : Addr) (w : World) (hB : Oct B) (hl : (B.length : Int) ≤ 1073741824) (hK : Kept B i pos nb bt) (hnb : nb ≤ 31) (hn : n ≤ 18) (hn1 : 1 ≤ n) (hp : p < 2) (hs : s = 2 * n + 2 + p)
    (hD : Dec w g r A B.length cap i nb bt) (hS : Rd .u8 w base A (ofN' B)) (hbw : base ≤ w.heap.size) (hE : Ends w ae au) (hg : base ≤ g) (hr : base ≤ r) (hgr : g ≠ r) (hge : g ≠ 0 ∧ g ≠ 1 ∧ r ≠ 0 ∧ r ≠ 1) :
    Calls Tryd.prog 53 #[.pointer (some ⟨g, 0, none⟩), .int .u32 s] w (LzPost B pos p n g r cap A au w) := by
  have cR := hide (read_any g r base A cap B i pos nb bt n ae au w hB hl hK hnb (by omega) hD hS hbw hE hg hr hgr hge)
  clear hB hK hD hS hE
  have t1 : ¬ (s : Int) < 4 := by omega
  have t2 : ((s : Int) - 2) / 2 = (n : Int) := by omega
  have t3 : bits .and .u32 (s : Int) 1 = (p : Int) := by
    have h := and_mask .u32 1 (by decide) (s : Int)
    have e : ((2 : Int) ^ 1 - 1) = 1 := by decide
    rw [e] at h
    rw [h]
    show (s : Int) % 2 = _
    omega
  have t4 : (s : Int) ≤ 39 := by omega
  have t5 : (p : Int) < 2 := by omega
  have t6 : (n : Int) ≤ 18 := by omega
  have t7 : ((n : Nat) : Int).toNat = n := by omega
  obtain ⟨f1, f2, f3, f4, f5⟩ := far_facts B pos p n hp hn
  replace hs := hide hs
  by_cases hok : pos + n ≤ 8 * B.length
  · replace f1 := hide f1
    go_enter Tryd.func53, Tryd.ntmps53
    go_wp2_with (first | (go_at_call 52; (with_reducible refine (cR.out).mono ?_); rintro e w1 ⟨hyes, _, hU⟩; obtain ⟨i1, nb1, bt1, rfl, hK1, hnb1, hD1⟩ := hyes hok; clear hyes; replace hU := hide hU; replace hK1 := hide hK1; replace hD1 := hide hD1; replace f1 := f1.out) | fail)
    go_ret2
    refine ⟨fun _ => ⟨i1, nb1, bt1, ?_, hK1.out, hnb1, hD1.out⟩, fun h => absurd hok h, hU.out⟩
    rw [← f1]
    rfl
  · go_enter Tryd.func53, Tryd.ntmps53
    go_wp2_with (first | (go_at_call 52; (with_reducible refine (cR.out).mono ?_); rintro e w1 ⟨_, hno, hU⟩; obtain rfl := hno hok; clear hno; replace hU := hide hU) | fail)
    go_ret2
    exact ⟨fun h => absurd h hok, fun _ => rfl, hU.out⟩

def SFarPost (B : List Nat) (pos p n g cap : Nat) (A : Option Addr) (opn : Bool) (np : Value) (w : World) (e : Ending) (w' : World) : Prop :=
  (pos + n ≤ 8 * B.length → e = .returned (.int .i64 (farV B pos p n : Nat)) ∧ RefB w' g A B.length cap (pos + n) false opn np) ∧
  (¬ pos + n ≤ 8 * B.length → (∃ x : Int, e = .returned (.int .i64 x)) ∧ RefB w' g A B.length cap (8 * B.length) true opn np) ∧ Upd [g] w w'

set_option maxRecDepth 100000 in
set_option maxHeartbeats 2000000 in
theorem sfar_any (g base : Nat) (A : Option Addr) (cap : Nat) (B : List Nat) (pos s n p : Nat) (opn : Bool) (np : Value) (w : World) (hB : Oct B) (hl : (B.length : Int) ≤ 1073741824) (hn : n ≤ 18) (hn1 : 1 ≤ n) (hp : p < 2) (hs : s = 2 * n + 2 + p) (hpos : pos ≤ 8 * B.length)
    (hD : RefB w g A B.length cap pos false opn np) (hS : Rd .u8 w base A (ofN' B)) (hbw : base ≤ w.heap.size) (hg : base ≤ g) :
    Calls Tryd.prog 35 #[.pointer (some ⟨g, 0, none⟩), .int .i64 s] w (SFarPost B pos p n g cap A opn np w) := by
  have cR := fun W' (hu : Upd [] w W') => sread_any g base A cap B pos n opn np W' hB hl (by omega) hpos (Blk.upd hD hu (by simp)) (hS.upd hu hbw (by simp)) (Nat.le_trans hbw hu.size) hg
  replace cR := hide cR
  clear hB hD hS
  have t1 : ¬ (s : Int) < 4 := by omega
  have t2 : ((s : Int) - 2) / 2 = (n : Int) := by omega
  have t3 : (s : Int).tmod 2 = (p : Int) := by rw [Int.tmod_eq_emod_of_nonneg (by omega)]; omega
  have t4 : (s : Int) ≤ 39 := by omega
  have t5 : (p : Int) < 2 := by omega
  have t6 : (n : Int) ≤ 18 := by omega
  have t7 : ((n : Nat) : Int).toNat = n := by omega
  obtain ⟨f1, f2, f3, f4, f5⟩ := far_facts B pos p n hp hn
  have W1 : IntKind.i64.wrap ((2 : Int) + (p : Int)) = 2 + (p : Int) := IntWalk.i64_in _ (by omega)
  have W2 : IntKind.i64.wrap ((2 + (p : Int)) * 2 ^ n) = (2 + (p : Int)) * 2 ^ n := IntWalk.i64_in _ (by omega)
  have W3 : IntKind.i64.wrap ((2 + (p : Int)) * 2 ^ n + ((bitsAt B pos n : Nat) : Int)) = (2 + (p : Int)) * 2 ^ n + ((bitsAt B pos n : Nat) : Int) := IntWalk.i64_in _ (by omega)
  have W4 : IntKind.i64.wrap ((2 + (p : Int)) * 2 ^ n + ((bitsAt B pos n : Nat) : Int) + 1) = ((farV B pos p n : Nat) : Int) := by rw [f1]; exact IntWalk.i64_in _ (by rw [← f1]; omega)
  replace hs := hide hs
  replace f1 := hide f1
  replace W3 := hide W3
  replace W4 := hide W4
  by_cases hok : pos + n ≤ 8 * B.length
  · go_enter Tryd.func35, Tryd.ntmps35
    go_wp2
    go_region_with (go_at_call 33; (with_reducible refine (cR.out _ (by first | exact (Upd.refl [] w).drew | exact Upd.refl [] w | exact (Upd.refl [] w).drewN _)).mono ?_); rintro e w1 ⟨hyes, _, hU⟩; obtain ⟨rfl, hD1⟩ := hyes hok; clear hyes; replace hU := hide hU; replace hD1 := hide hD1)
    all_goals
      go_wp2
      go_ret
      refine ⟨fun _ => ⟨?_, hD1.out⟩, fun h => absurd hok h, (by first | exact (Upd.refl [g] w).drew | exact Upd.refl [g] w : Upd [g] w _).trans hU.out⟩
      show Ending.returned (.int .i64 (IntKind.i64.wrap (IntKind.i64.wrap ((2 + (p : Int)) * 2 ^ n + ((bitsAt B pos n : Nat) : Int)) + 1))) = _
      rw [W3.out, W4.out]
  · go_enter Tryd.func35, Tryd.ntmps35
    go_wp2
    go_region_with (go_at_call 33; (with_reducible refine (cR.out _ (by first | exact (Upd.refl [] w).drew | exact Upd.refl [] w | exact (Upd.refl [] w).drewN _)).mono ?_); rintro e w1 ⟨_, hno, hU⟩; obtain ⟨rfl, hD1⟩ := hno hok; clear hno; replace hU := hide hU; replace hD1 := hide hD1)
    all_goals
      go_wp2
      go_ret
      exact ⟨fun h => absurd h hok, fun _ => ⟨⟨_, rfl⟩, hD1.out⟩, (by first | exact (Upd.refl [g] w).drew | exact Upd.refl [g] w : Upd [g] w _).trans hU.out⟩

/-- The number of a symbol, and how many further bits it wants. -/
def parV (B : List Nat) (s : Nat) : Nat := if s < 4 then s + 1 else farV B 0 (s % 2) ((s - 2) / 2)
def parN (s : Nat) : Nat := if s < 4 then 0 else (s - 2) / 2
def parW (B : List Nat) (s : Nat) : Nat := if parN s ≤ 8 * B.length then parV B s else 0
def parOk (B : List Nat) (s : Nat) : Bool := decide (parN s ≤ 8 * B.length)
def ParPost (B : List Nat) (s : Nat) (w : World) (e : Ending) (w' : World) : Prop :=
  e = .returned (.tuple #[.int .i64 (parW B s : Nat), .bool (parOk B s)]) ∧ Below w.heap.size w w'

set_option maxRecDepth 100000 in
set_option maxHeartbeats 2000000 in
theorem param_any (A : Option Addr) (cap : Nat) (B : List Nat) (s : Nat) (ae au : Addr) (w : World) (hB : Oct B) (hl : (B.length : Int) ≤ 1048576) (hs : s ≤ 39) (hS : Rd .u8 w w.heap.size A (ofN' B)) (hE : Ends w ae au) :
    Calls Tryd.prog 14 #[.int .i64 s, .slice A B.length cap] w (ParPost B s w) := by
  have hEl := hE.lt
  have h39 : (s : Int) ≤ 39 := by omega
  by_cases h4 : s < 4
  · have h4i : (s : Int) < 4 := by omega
    have e1 : parN s = 0 := by unfold parN; rw [if_pos h4]
    have e2 : parV B s = s + 1 := by unfold parV; rw [if_pos h4]
    replace e1 := hide e1
    replace e2 := hide e2
    clear hB hS hE
    go_enter Tryd.func14, Tryd.ntmps14
    go_wp2_with go_in
    go_quiet (fail)
    go_wp2
    go_ret2
    refine ⟨?_, below_drewN (((Below.refl _ w).alloc (Nat.le_refl _) _).alloc (by simp) _) _⟩
    show Ending.returned (.tuple #[.int .i64 ((s : Int) + 1), .bool true]) = _
    unfold parW parOk
    rw [if_pos (by rw [e1.out]; omega), e2.out, decide_eq_true (by rw [e1.out]; omega)]
    simp
  · have hn : (s - 2) / 2 ≤ 18 := by omega
    have hn1 : 1 ≤ (s - 2) / 2 := by omega
    have hp : s % 2 < 2 := Nat.mod_lt _ (by decide)
    have hs2 : s = 2 * ((s - 2) / 2) + 2 + s % 2 := by omega
    have e1 : parN s = (s - 2) / 2 := by unfold parN; rw [if_neg h4]
    have e2 : parV B s = farV B 0 (s % 2) ((s - 2) / 2) := by unfold parV; rw [if_neg h4]
    have b1 : Below w.heap.size w ((w.alloc (.cells #[.slice A B.length cap, .int .i64 0, .int .i64 (-1)] 101)).alloc (.cells #[.iface 57 (.pointer (some ⟨w.heap.size, 0, none⟩)), .int .u32 0, .int .u32 0] 99)) := ((Below.refl _ w).alloc (Nat.le_refl _) _).alloc (by simp) _
    have hD : Dec ((w.alloc (.cells #[.slice A B.length cap, .int .i64 0, .int .i64 (-1)] 101)).alloc (.cells #[.iface 57 (.pointer (some ⟨w.heap.size, 0, none⟩)), .int .u32 0, .int .u32 0] 99)) (w.heap.size + 1) w.heap.size A B.length cap 0 0 0 := by
      refine ⟨?_, -1, ?_⟩
      · have h := Blk.new (w.alloc (.cells #[.slice A B.length cap, .int .i64 0, .int .i64 (-1)] 101)) 99 #[.iface 57 (.pointer (some ⟨w.heap.size, 0, none⟩)), .int .u32 0, .int .u32 0]
        rw [World.size_alloc] at h
        exact h
      · exact (Blk.new w 101 _).alloc _
    have cL := hide (lz_any (w.heap.size + 1) w.heap.size w.heap.size A cap B 0 0 0 0 s _ _ ae au _ hB (by omega) (Kept.start B) (by omega) hn hn1 hp hs2 hD (hS.below b1) b1.size (hE.below b1 hEl) (by omega) (Nat.le_refl _) (by omega) (by omega))
    have hb := farV_le B 0 (s % 2) ((s - 2) / 2) hp hn
    clear hD hB hS hE hs2 hp hn hn1
    have h4i : ¬ (s : Int) < 4 := by omega
    generalize (s - 2) / 2 = n at *
    have hfv : ((farV B 0 (s % 2) n : Nat) : Int) ≤ 1048577 := by omega
    replace e1 := hide e1
    replace e2 := hide e2
    replace b1 := hide b1
    by_cases hok : 0 + n ≤ 8 * B.length
    · go_enter Tryd.func14, Tryd.ntmps14
      go_wp2_with (first | (go_at_call 53; (with_reducible refine (cL.out).mono ?_); rintro e w2 ⟨hyes, _, hU⟩; obtain ⟨i1, nb1, bt1, rfl, _, _, _⟩ := hyes hok; clear hyes; replace hU := hide hU) | go_in)
      go_quiet (fail)
      go_wp2
      go_ret2
      refine ⟨?_, below_drewN (b1.out.trans (hU.out.below (by simp) b1.out.size)) _⟩
      show Ending.returned (.tuple #[.int .i64 ((farV B 0 (s % 2) n : Nat) : Int), .bool true]) = _
      unfold parW parOk
      rw [if_pos (by rw [e1.out]; omega), e2.out, decide_eq_true (by rw [e1.out]; omega)]
    · go_enter Tryd.func14, Tryd.ntmps14
      go_wp2_with (first | (go_at_call 53; (with_reducible refine (cL.out).mono ?_); rintro e w2 ⟨_, hno, hU⟩; obtain rfl := hno hok; clear hno; replace hU := hide hU) | go_in)
      go_quiet (fail)
      go_wp2
      go_ret2
      refine ⟨?_, below_drewN (b1.out.trans (hU.out.below (by simp) b1.out.size)) _⟩
      show Ending.returned (.tuple #[.int .i64 0, .bool false]) = _
      unfold parW parOk
      rw [if_neg (by rw [e1.out]; omega), decide_eq_false (by rw [e1.out]; omega)]
      rfl

set_option maxRecDepth 100000 in
set_option maxHeartbeats 2000000 in
theorem sparam_any (A : Option Addr) (cap : Nat) (B : List Nat) (s : Nat) (w : World) (hB : Oct B) (hl : (B.length : Int) ≤ 1048576) (hs : s ≤ 39) (hS : Rd .u8 w w.heap.size A (ofN' B)) :
    Calls Tryd.prog 15 #[.int .i64 s, .slice A B.length cap] w (ParPost B s w) := by
  have h39 : (s : Int) ≤ 39 := by omega
  have b1 : Below w.heap.size w (w.alloc (.cells #[.slice A B.length cap, .int .i64 0, .bool false, .bool false, .pointer none] 67)) := (Below.refl _ w).alloc (Nat.le_refl _) _
  have hD : RefB (w.alloc (.cells #[.slice A B.length cap, .int .i64 0, .bool false, .bool false, .pointer none] 67)) w.heap.size A B.length cap 0 false false (.pointer none) := Blk.new w 67 _
  by_cases h4 : s < 4
  · have h4i : (s : Int) < 4 := by omega
    have e1 : parN s = 0 := by unfold parN; rw [if_pos h4]
    have e2 : parV B s = s + 1 := by unfold parV; rw [if_pos h4]
    replace e1 := hide e1
    replace e2 := hide e2
    clear hB hS hD
    go_enter Tryd.func15, Tryd.ntmps15
    go_wp2_with go_in
    go_ret2
    refine ⟨?_, b1⟩
    show Ending.returned (.tuple #[.int .i64 ((s : Int) + 1), .bool true]) = _
    unfold parW parOk
    rw [if_pos (by rw [e1.out]; omega), e2.out, decide_eq_true (by rw [e1.out]; omega)]
    simp
  · have hn : (s - 2) / 2 ≤ 18 := by omega
    have hn1 : 1 ≤ (s - 2) / 2 := by omega
    have hp : s % 2 < 2 := Nat.mod_lt _ (by decide)
    have hs2 : s = 2 * ((s - 2) / 2) + 2 + s % 2 := by omega
    have e1 : parN s = (s - 2) / 2 := by unfold parN; rw [if_neg h4]
    have e2 : parV B s = farV B 0 (s % 2) ((s - 2) / 2) := by unfold parV; rw [if_neg h4]
    have cL := hide (sfar_any w.heap.size w.heap.size A cap B 0 s _ _ false (.pointer none) _ hB (by omega) hn hn1 hp hs2 (by omega) hD (hS.below b1) b1.size (Nat.le_refl _))
    clear hD hB hS hs2 hp hn hn1
    have h4i : ¬ (s : Int) < 4 := by omega
    generalize (s - 2) / 2 = n at *
    replace e1 := hide e1
    replace e2 := hide e2
    replace b1 := hide b1
    by_cases hok : 0 + n ≤ 8 * B.length
    · go_enter Tryd.func15, Tryd.ntmps15
      go_wp2_with (first | (go_at_call 35; (with_reducible refine (cL.out).mono ?_); rintro e w2 ⟨hyes, _, hU⟩; obtain ⟨rfl, hD1⟩ := hyes hok; clear hyes; have c2 := Blk.cell hD1 2; simp only [List.getElem?_toArray, List.getElem?_cons_zero, List.getElem?_cons_succ] at c2; replace hD1 := hide hD1; replace hU := hide hU) | fail)
      go_ret2
      refine ⟨?_, b1.out.trans (hU.out.below (by simp) b1.out.size)⟩
      unfold parW parOk
      rw [if_pos (by rw [e1.out]; omega), e2.out, decide_eq_true (by rw [e1.out]; omega)]
      rfl
    · go_enter Tryd.func15, Tryd.ntmps15
      go_wp2_with (first | (go_at_call 35; (with_reducible refine (cL.out).mono ?_); rintro e w2 ⟨_, hno, hU⟩; obtain ⟨⟨x, rfl⟩, hD1⟩ := hno hok; clear hno; have c2 := Blk.cell hD1 2; simp only [List.getElem?_toArray, List.getElem?_cons_zero, List.getElem?_cons_succ] at c2; replace hD1 := hide hD1; replace hU := hide hU) | fail)
      go_ret2
      refine ⟨?_, b1.out.trans (hU.out.below (by simp) b1.out.size)⟩
      unfold parW parOk
      rw [if_neg (by rw [e1.out]; omega), decide_eq_false (by rw [e1.out]; omega)]
      rfl

theorem ret_tup {a b : Int} {x y : Bool} (h : a = b) (k : x = y) : Ending.returned (.tuple #[.int .i64 a, .bool x]) = .returned (.tuple #[.int .i64 b, .bool y]) := by rw [h, k]

set_option maxRecDepth 100000 in
set_option maxHeartbeats 2000000 in
theorem paramLaw_any (si : Int) (A : Option Addr) (cap : Nat) (l1 : List Int) (ae au : Addr) (w : World) (hB : ∀ x ∈ l1, 0 ≤ x ∧ x ≤ 255) (h1 : Rd .u8 w w.heap.size A l1) (hm1 : l1.length ≤ 9223372036854775807) (hE : Ends w ae au) :
    Calls Tryd.prog 4 #[.int .i64 si, .slice A l1.length cap] w fun e w' => e = .returned (.bool true) ∧ Below w.heap.size w w' := by
  have cQ := hide (readSums_any w)
  by_cases c1 : (2147483647 : Int) < (l1.length : Int)
  · clear h1 hB hE
    go_enter Tryd.func4, Tryd.ntmps4
    go_wp2
    go_ret
    exact ⟨rfl, Below.refl _ _⟩
  by_cases c2 : si < 0
  · clear h1 hB hE
    go_enter Tryd.func4, Tryd.ntmps4
    go_wp2_with fail
    (with_reducible refine (cQ.out).mono ?_)
    rintro e w' ⟨rfl, rfl⟩
    go_wp2
    go_ret
    exact ⟨rfl, Below.refl _ _⟩
  by_cases c3 : (39 : Int) < si
  · clear h1 hB hE
    go_enter Tryd.func4, Tryd.ntmps4
    go_wp2_with fail
    (with_reducible refine (cQ.out).mono ?_)
    rintro e w' ⟨rfl, rfl⟩
    go_wp2
    go_ret
    exact ⟨rfl, Below.refl _ _⟩
  by_cases c4 : (1048576 : Int) < (l1.length : Int)
  · clear h1 hB hE
    go_enter Tryd.func4, Tryd.ntmps4
    go_wp2_with fail
    (with_reducible refine (cQ.out).mono ?_)
    rintro e w' ⟨rfl, rfl⟩
    go_wp2
    go_ret
    exact ⟨rfl, Below.refl _ _⟩
  obtain ⟨s, rfl⟩ := Int.eq_ofNat_of_zero_le (show 0 ≤ si by omega)
  have e0 := natOf_back l1 (fun x hx => (hB x hx).1)
  have hO : Oct (natOf l1) := by intro x hx; unfold natOf at hx; rw [List.mem_map] at hx; obtain ⟨y, hy, rfl⟩ := hx; have := hB y hy; omega
  have hl : ((natOf l1).length : Int) ≤ 1048576 := by rw [natOf_len]; omega
  have h1' : Rd .u8 w w.heap.size A (ofN' (natOf l1)) := by rw [e0]; exact h1
  have cI := param_any A cap (natOf l1) s ae au w hO hl (by omega) h1' hE
  have cS := fun w1 (hb : Below w.heap.size w w1) => sparam_any A cap (natOf l1) s w1 hO hl (by omega) ((h1'.below hb).more hb.size)
  rw [natOf_len] at cI
  simp only [natOf_len] at cS
  replace cI := hide cI
  replace cS := hide cS
  clear hB hO h1' h1 hE e0
  generalize natOf l1 = B at *
  go_enter Tryd.func4, Tryd.ntmps4
  go_wp2_with fail
  (with_reducible refine (cI.out).mono ?_)
  rintro e w1 ⟨rfl, hb1⟩
  replace hb1 := hide hb1
  go_wp2_with fail
  (with_reducible refine (cS.out w1 hb1.out).mono ?_)
  rintro e w2 ⟨rfl, hb2⟩
  have hb3 := hide (hb1.out.trans (hb2.mono hb1.out.size))
  clear hb1 hb2 cI cS
  generalize parOk B s = ok at *
  generalize parW B s = v at *
  have hok : (ok == ok) = true := by simp
  have hvv : ((v : Int) == (v : Int)) = true := by simp
  go_wp2_with fail
  refine (readSums_any _).mono ?_
  rintro e w4 ⟨rfl, rfl⟩
  go_wp2
  go_ret
  exact ⟨rfl, hb3.out⟩
end Go.Proofs.YtpiapfahcoopbaaDoor

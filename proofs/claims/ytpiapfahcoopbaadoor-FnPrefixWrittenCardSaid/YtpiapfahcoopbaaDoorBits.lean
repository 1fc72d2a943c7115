/- The reader of bits: 'ReadByte' of bytes.Reader, and the decoder's 'read': the walks. -/
import Derived.Test.YtpiapfahcoopbaaDoorBitsPlain
import Derived.Test.YtpiapfahcoopbaaDoorPlain
import Derived.Test.YtpiapfahcoopbaaDoorRows
import Derived.Outline
import Derived.WalkLawsBesides
import Derived.RegionTactic
import Derived.Deep.QuietTactic
import Derived.BigQuiet
import Derived.Deep.LoopGhost
import Derived.LaidEql
import Derived.Lib.EndianBits
import Derived.Stop.IfaceNil
namespace Go.Proofs.YtpiapfahcoopbaaDoor
set_option linter.unusedSimpArgs false
set_option linter.unusedVariables false
open Go.RowKit Plain

/-- The two ends that a reader tells: what the variables hold. -/
structure Ends (w : World) (ae au : Addr) : Prop where
  eof : w.cell? ⟨0, 0, none⟩ = some (.iface 127 (.pointer (some ae)))
  une : w.cell? ⟨1, 0, none⟩ = some (.iface 127 (.pointer (some au)))
theorem Ends.keep {w w' : World} {ae au : Addr} (h : Ends w ae au) (hc : ∀ p : Addr, p.block = 0 ∨ p.block = 1 → w'.cell? p = w.cell? p) : Ends w' ae au :=
  ⟨(hc _ (.inl rfl)).trans h.eof, (hc _ (.inr rfl)).trans h.une⟩
theorem Ends.lt {w : World} {ae au : Addr} (h : Ends w ae au) : 0 < w.heap.size ∧ 1 < w.heap.size := ⟨World.block_lt_of_cell? _ _ h.eof, World.block_lt_of_cell? _ _ h.une⟩
theorem Ends.below {w w' : World} {ae au : Addr} {B : Nat} (h : Ends w ae au) (hb : Below B w w') (hB : 0 < B ∧ 1 < B) : Ends w' ae au :=
  h.keep fun p hp => hb.cell (by rcases hp with e | e <;> omega)
theorem Ends.drewN {w : World} {ae au : Addr} (h : Ends w ae au) (n : Nat) : Ends (w.drewN n) ae au := ⟨h.eof, h.une⟩

theorem Blk.to {w w' : World} {g : Nat} {t : TypeId} {cs cs' : Array Value} (h : Blk w g t cs) (hw : w'.heap = w.heap) (hc : cs' = cs) : Blk w' g t cs' := by
  subst hc
  unfold Blk at h ⊢
  rw [hw]
  exact h

/-- bytes.Reader behind i bytes. -/
def RdrB (w : World) (r : Nat) (A : Option Addr) (len cap i : Nat) (pr : Int) : Prop := Blk w r 101 #[.slice A len cap, .int .i64 i, .int .i64 pr]

set_option maxHeartbeats 1000000 in
theorem readByte_more (r b off len cap i : Nat) (pr x : Int) (w : World) (hr : RdrB w r (some ⟨b, off, none⟩) len cap i pr) (hi : i < len) (hl : (len : Int) ≤ 1073741824) (hx : w.cell? ⟨b, off + i, none⟩ = some (.int .u8 x)) (hne : b ≠ r) :
    Calls Tryd.prog 90 #[.pointer (some ⟨r, 0, none⟩)] w fun e w' => e = .returned (.tuple #[.int .u8 x, .nilIface]) ∧ RdrB w' r (some ⟨b, off, none⟩) len cap (i + 1) (-1) ∧ Upd [r] w w' := by
  have c0 := hr.cell 0
  have c1 := hr.cell 1
  have c2 := hr.cell 2
  have f1 := hr.frozen 1
  have f2 := hr.frozen 2
  simp at c0 c1 c2
  have hiI : (i : Int) < (len : Int) := by omega
  have hiN : ¬ (len : Int) ≤ (i : Int) := by omega
  have hne' : ¬ r = b := fun e => hne e.symm
  have hr' := hide hr
  clear hr
  go_enter Tryd.func90, Tryd.ntmps90
  go_wp2
  go_quiet (fail)
  go_wp2
  go_quiet (fail)
  go_wp2
  go_ret2
  refine ⟨rfl, ?_, ?_⟩
  · exact Blk.to (((Blk.set_ hr'.out 2 _).drewN _).set_ 1 _) rfl (by simp)
  · exact (((Upd.refl [r] w).setCell (by simp) _).drewN _).setCell (by simp) _

set_option maxHeartbeats 1000000 in
theorem readByte_end (r : Nat) (A : Option Addr) (len cap i : Nat) (pr : Int) (ae au : Addr) (w : World) (hr : RdrB w r A len cap i pr) (hi : len ≤ i) (hl : (len : Int) ≤ 1073741824) (hE : Ends w ae au) (hne : r ≠ 0) :
    Calls Tryd.prog 90 #[.pointer (some ⟨r, 0, none⟩)] w fun e w' => e = .returned (.tuple #[.int .u8 0, .iface 127 (.pointer (some ae))]) ∧ RdrB w' r A len cap i (-1) ∧ Upd [r] w w' := by
  have c0 := hr.cell 0
  have c1 := hr.cell 1
  have c2 := hr.cell 2
  have f2 := hr.frozen 2
  simp at c0 c1 c2
  have hiN : (len : Int) ≤ (i : Int) := by omega
  have ce := hE.eof
  have hne' : ¬ 0 = r := fun e => hne e.symm
  have hr' := hide hr
  clear hr
  go_enter Tryd.func90, Tryd.ntmps90
  go_wp2
  go_quiet (fail)
  go_wp2
  go_quiet (fail)
  go_wp2
  go_ret2
  refine ⟨rfl, ?_, ?_⟩
  · exact Blk.to (((Blk.set_ hr'.out 2 _).drewN _).drewN _) rfl (by simp)
  · exact (((Upd.refl [r] w).setCell (p := ⟨r, 2, none⟩) (by simp) _).drewN _).drewN _

/-- The decoder behind i bytes: 'bits' are the nb bits that it keeps. -/
structure Dec (w : World) (g r : Nat) (A : Option Addr) (len cap i nb bt : Nat) : Prop where
  d : Blk w g 99 #[.iface 57 (.pointer (some ⟨r, 0, none⟩)), .int .u32 bt, .int .u32 nb]
  r : ∃ pr, RdrB w r A len cap i pr
theorem Dec.drewN {w : World} {g r : Nat} {A : Option Addr} {len cap i nb bt : Nat} (h : Dec w g r A len cap i nb bt) (n : Nat) : Dec (w.drewN n) g r A len cap i nb bt := ⟨h.d, h.r⟩
theorem Dec.upd {w w' : World} {S : List Nat} {g r : Nat} {A : Option Addr} {len cap i nb bt : Nat} (h : Dec w g r A len cap i nb bt) (u : Upd S w w') (hg : g ∉ S) (hr : r ∉ S) : Dec w' g r A len cap i nb bt :=
  ⟨h.d.upd u hg, by obtain ⟨pr, h1⟩ := h.r; exact ⟨pr, Blk.upd h1 u hr⟩⟩

theorem nil_ahead (a : Addr) (w : World) : (nilAhead 249 57 (.pointer (some a)) "ReadByte").run Tryd.prog w = .ok (some false) w := by kernel_rfl
theorem method_rb (a : Addr) (w : World) : (method 249 57 (.pointer (some a)) "ReadByte").run Tryd.prog w = .ok (90, .pointer (some a)) w := by kernel_rfl
theorem comp_es : (Tryd.prog.info? 127).map (·.comparable) = some true := by kernel_rfl
theorem size_es : (Tryd.prog.info? 146).map (·.size) = some 1 := by kernel_rfl

/-- What the numbers of the bytes are in memory. -/
def ofN' (B : List Nat) : List Int := B.map Int.ofNat

theorem wraps_u32 (n : Int) (h0 : 0 ≤ n) (h1 : n < 2 ^ 32) : IntKind.u32.wrap n = n := by
  have h1' : n < 4294967296 := by simpa using h1
  exact IntWalk.u32_in n (by omega)
theorem shl_bd (x n : Nat) (hn : n ≤ 24) (hx : x ≤ 255) : 0 ≤ (x : Int) * 2 ^ n ∧ (x : Int) * 2 ^ n ≤ 4278190080 := by
  have h1 : (2 : Nat) ^ n ≤ 2 ^ 24 := Nat.pow_le_pow_right (by decide) hn
  have h2 := Int.ofNat_le.2 (Nat.mul_le_mul hx h1)
  rw [Int.natCast_mul, Int.natCast_pow] at h2
  refine ⟨Int.mul_nonneg (by omega) (Int.le_of_lt (Int.pow_pos (by decide))), Int.le_trans h2 (by decide)⟩
/-- A byte laid above the bits that are kept. -/
theorem join_bits (b x n : Nat) (hn : n ≤ 23) (hb : b < 2 ^ n) (hx : x ≤ 255) : bits .or .u32 (b : Int) ((x : Int) * 2 ^ n) = ((b + x * 2 ^ n : Nat) : Int) := by
  have hp : (0 : Int) < 2 ^ n := Int.pow_pos (by decide)
  have h1 := (shl_bd x n (by omega) hx)
  have h2 : (b : Int) < 2 ^ n := by exact_mod_cast hb
  have h3 : (b : Int) < 2 ^ 32 := Int.lt_of_lt_of_le h2 (Int.le_of_lt_add_one (by
    have : (2 : Nat) ^ n ≤ 2 ^ 32 := Nat.pow_le_pow_right (by decide) (by omega)
    have h4 : ((2 ^ n : Nat) : Int) ≤ ((2 ^ 32 : Nat) : Int) := Int.ofNat_le.2 this
    rw [Int.natCast_pow, Int.natCast_pow] at h4
    exact Int.lt_add_one_of_le h4))
  rw [bits_join_low .u32 32 (by decide) wraps_u32 n (b : Int) ((x : Int) * 2 ^ n) (by omega) h2 h3 h1.1 (Int.mul_emod_left _ _) (Int.lt_of_le_of_lt h1.2 (by decide))]
  simp

/-- What 'read' answers: the number, or that the bytes end. -/
def ReadPost (B : List Nat) (pos n g r cap : Nat) (A : Option Addr) (au : Addr) (w : World) (e : Ending) (w' : World) : Prop :=
  (pos + n ≤ 8 * B.length → ∃ i' nb' bt', e = .returned (.tuple #[.int .u32 (bitsAt B pos n : Nat), .nilIface]) ∧ Kept B i' (pos + n) nb' bt' ∧ nb' ≤ 31 ∧ Dec w' g r A B.length cap i' nb' bt') ∧
  (¬ pos + n ≤ 8 * B.length → e = .returned (.tuple #[.int .u32 0, .iface 127 (.pointer (some au))])) ∧ Upd [g, r] w w'

set_option maxRecDepth 100000 in
set_option maxHeartbeats 2000000 in
theorem read_any (g r base : Nat) (A : Option Addr) (cap : Nat) (B : List Nat) (i pos nb bt n : Nat) (ae au : Addr) (w : World) (hB : Oct B) (hl : (B.length : Int) ≤ 1073741824) (hK : Kept B i pos nb bt) (hnb : nb ≤ 31) (hn : n ≤ 24)
    (hD : Dec w g r A B.length cap i nb bt) (hS : Rd .u8 w base A (ofN' B)) (hbw : base ≤ w.heap.size) (hE : Ends w ae au) (hg : base ≤ g) (hr : base ≤ r) (hgr : g ≠ r) (hge : g ≠ 0 ∧ g ≠ 1 ∧ r ≠ 0 ∧ r ≠ 1) :
    Calls Tryd.prog 52 #[.pointer (some ⟨g, 0, none⟩), .int .u32 n] w (ReadPost B pos n g r cap A au w) := by
  obtain ⟨ic, hi, hcmp⟩ := Option.map_eq_some_iff.1 comp_es
  obtain ⟨jc, hj, _⟩ := Option.map_eq_some_iff.1 size_es
  have qE : ∀ w, (binOp .eql 61 (.iface 127 (.pointer (some ae))) (.iface 127 (.pointer (some ae)))).run Tryd.prog w = .ok (.bool true) w :=
    fun w => run_eql_iface_ptr_same w ae Tryd.underlying61 Tryd.underlying127 hi hcmp hj
  clear hi hj hcmp
  have NA := nil_ahead
  have MR := method_rb
  replace hK := hide hK
  replace hD := hide hD
  replace hS := hide hS
  replace hE := hide hE
  replace hB := hide hB
  go_enter Tryd.func52, Tryd.ntmps52
  go_wp2
  go_loopg [] (B.length - i) (fun k wr => ∃ i' nb' bt' : Nat, k + i' = B.length ∧ Kept B i' pos nb' bt' ∧ nb' ≤ 31 ∧ Dec wr g r A B.length cap i' nb' bt' ∧ Upd [g, r] w wr)
  case atStart => exact ⟨i, nb, bt, by have := hK.out.le; omega, hK.out, hnb, hD.out, Upd.refl _ _⟩
  case round =>
    obtain ⟨i', nb', bt', hk, hK', hnb', hD', hU⟩ := hrel
    have c0 := hD'.d.cell 0
    have c1 := hD'.d.cell 1
    have c2 := hD'.d.cell 2
    have f1 := hD'.d.frozen 1
    have f2 := hD'.d.frozen 2
    simp at c0 c1 c2
    obtain ⟨pr, hR⟩ := hD'.r
    by_cases hlt : nb' < n
    · have hltI : (nb' : Int) < (n : Int) := by omega
      cases gk with
      | zero =>
        have cb := readByte_end r A B.length cap i' pr ae au wr hR (by omega) hl (hE.out.keep fun p hp => hU.cell (p := p) (by have := hE.out.lt; rcases hp with e | e <;> omega) (by simp; rcases hp with e | e <;> omega)) (by omega)
        replace cb := hide cb
        have ce := (hU.cell (p := ⟨0, 0, none⟩) hE.out.lt.1 (by simp; omega)).trans hE.out.eof
        have cu := (hU.cell (p := ⟨1, 0, none⟩) hE.out.lt.2 (by simp; omega)).trans hE.out.une
        have hbig : ¬ pos + n ≤ 8 * B.length := by have := hK'.nb_; omega
        replace hU := hide hU
        replace hbig := hide hbig
        clear hK'
        go_wp2_with (first | (go_at_call 90; (with_reducible refine (cb.out).mono ?_); rintro e w1 ⟨rfl, hR1, hU1⟩; have ce1 := (hU1.cell (p := ⟨0, 0, none⟩) (World.block_lt_of_cell? _ _ ce) (by simp; omega)).trans ce; have cu1 := (hU1.cell (p := ⟨1, 0, none⟩) (World.block_lt_of_cell? _ _ cu) (by simp; omega)).trans cu; clear ce cu; replace hU1 := hide hU1) | fail)
        go_ret2
        exact ⟨fun h => absurd h hbig.out, fun _ => rfl, hU.out.trans (hU1.out.wide (by simp))⟩
      | succ k =>
        have hi' : i' < B.length := by omega
        obtain ⟨b, off, rfl, hbb, hc⟩ := hS.out.at_ (j := i') (by simp [ofN']; omega)
        have hx := (hU.cell (p := ⟨b, off + i', none⟩) (by simp; omega) (by simp; omega)).trans (hc i' (by simp [ofN']; omega))
        have ex : (ofN' B).getD i' 0 = ((B.getD i' 0 : Nat) : Int) := by simp [ofN', hi']
        rw [ex] at hx
        clear hc ex
        have hK2 := hK'.load hi'
        have hxb : B.getD i' 0 ≤ 255 := hB.out _ (by simp [hi'])
        have hbt : bt' < 2 ^ nb' := hK'.lt hB.out
        generalize B.getD i' 0 = x at *
        have cb := readByte_more r b off B.length cap i' pr _ wr hR hi' hl hx (by omega)
        replace cb := hide cb
        have hor := join_bits bt' x nb' (by omega) hbt hxb
        have hmu := shl_bd x nb' (by omega) hxb
        have hnt : ((nb' : Nat) : Int).toNat = nb' := by omega
        have hnb24 : (nb' : Int) ≤ 23 := by omega
        obtain ⟨hmu0, hmu1⟩ := hmu
        replace hK2 := hide hK2
        replace hU := hide hU
        replace hor := hide hor
        clear hbt hK'
        go_wp2_with (first | (go_at_call 90; (with_reducible refine (cb.out).mono ?_); rintro e w1 ⟨rfl, hR1, hU1⟩) | fail)
        replace hU1 := hide hU1
        replace hR1 := hide hR1
        have c0' := (hU1.out.cell (p := ⟨g, 0, none⟩) (World.block_lt_of_cell? _ _ c0) (by simp; omega)).trans c0
        have c1' := (hU1.out.cell (p := ⟨g, 1, none⟩) (World.block_lt_of_cell? _ _ c1) (by simp; omega)).trans c1
        have c2' := (hU1.out.cell (p := ⟨g, 2, none⟩) (World.block_lt_of_cell? _ _ c2) (by simp; omega)).trans c2
        have f1' := (hU1.out.frozen (p := ⟨g, 1, none⟩) (World.block_lt_of_cell? _ _ c1) (by simp; omega)).trans f1
        have f2' := (hU1.out.frozen (p := ⟨g, 2, none⟩) (World.block_lt_of_cell? _ _ c2) (by simp; omega)).trans f2
        have hD2 := hide (hD'.d.upd hU1.out (by simp; omega))
        clear c0 c1 c2 f1 f2 cb hR
        replace hor := hor.out
        go_region
        go_wp2
        go_roundg k
        case measure => omega
        case rel =>
          refine ⟨i' + 1, nb' + 8, bt' + x * 2 ^ nb', by omega, hK2.out, by omega, ⟨?_, ?_⟩, ?_⟩
          · exact Blk.to (((hD2.out.set_ 1 _).set_ 2 _).drewN 1) rfl (by simp)
          · exact ⟨-1, (Blk.far (Blk.far hR1.out (p := ⟨g, 1, none⟩) (by simp; omega) _) (p := ⟨g, 2, none⟩) (by simp; omega) _).drewN 1⟩
          · exact ((((hU.out.trans (hU1.out.wide (by simp)))).setCell (p := ⟨g, 1, none⟩) (by simp) _).setCell (p := ⟨g, 2, none⟩) (by simp) _).drewN 1
    · have hltI : ¬ (nb' : Int) < (n : Int) := by omega
      have hmask := and_mask .u32 n (by show n < 32; omega) (bt' : Int)
      have hp0 : (0 : Int) < 2 ^ n := Int.pow_pos (by decide)
      have hp1 : (1 : Int) ≤ 2 ^ n := by omega
      have hp2 : (2 : Int) ^ n ≤ 16777216 := by
        have h4 := Int.ofNat_le.2 (Nat.pow_le_pow_right (show 0 < 2 by decide) hn)
        rw [Int.natCast_pow, Int.natCast_pow] at h4
        exact h4
      obtain ⟨ht1, ht2⟩ := hK'.take hB.out (show n ≤ nb' by omega)
      have hv : Hid ((bt' : Int) % 2 ^ n = ((bitsAt B pos n : Nat) : Int)) := hide (by rw [← ht1, Int.natCast_emod, Int.natCast_pow]; rfl)
      have hbit : ¬ ¬ pos + n ≤ 8 * B.length := by have := hK'.nb_; have := hK'.le; omega
      replace ht2 := hide ht2
      replace hbit := hide hbit
      replace hU := hide hU
      have hd2 := hide hD'.d
      have hr2 := hide hD'.r
      clear ht1 hR hK' hD'
      have hnn : (n : Int) ≤ (nb' : Int) := by omega
      go_wp2
      go_ret2
      refine ⟨fun _ => ⟨i', nb' - n, bt' / 2 ^ n, ?_, ht2.out, by omega, ?_, ?_⟩, fun h => absurd h hbit.out, ?_⟩
      · show Ending.returned (.tuple #[.int .u32 ((bt' : Int) % 2 ^ n), .nilIface]) = _
        rw [hv.out]
      · refine Blk.to ((hd2.out.set_ 1 _).set_ 2 _) rfl ?_
        have e1 : ((bt' / 2 ^ n : Nat) : Int) = (bt' : Int) / 2 ^ n := by simp
        have e2 : ((nb' - n : Nat) : Int) = (nb' : Int) - (n : Int) := by omega
        rw [e1, e2]
        rfl
      · obtain ⟨pr2, h2⟩ := hr2.out
        exact ⟨pr2, Blk.far (Blk.far h2 (p := ⟨g, 1, none⟩) (by simp; omega) _) (p := ⟨g, 2, none⟩) (by simp; omega) _⟩
      · exact (hU.out.setCell (p := ⟨g, 1, none⟩) (by simp) _).setCell (p := ⟨g, 2, none⟩) (by simp) _
end Go.Proofs.YtpiapfahcoopbaaDoor

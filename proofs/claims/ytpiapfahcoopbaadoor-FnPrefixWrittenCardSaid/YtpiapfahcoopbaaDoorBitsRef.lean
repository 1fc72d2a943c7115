/- The reference's reader of bits: 'read', 'flag': the walks. -/
import Derived.Test.YtpiapfahcoopbaaDoorBits
namespace Go.Proofs.YtpiapfahcoopbaaDoor
set_option linter.unusedSimpArgs false
set_option linter.unusedVariables false
open Go.RowKit Plain

/-- The reference's reader at a bit. -/
def RefB (w : World) (g : Nat) (A : Option Addr) (len cap : Nat) (at_ : Nat) (short opn : Bool) (np : Value) : Prop :=
  Blk w g 67 #[.slice A len cap, .int .i64 at_, .bool short, .bool opn, np]

theorem oneBit (V : Nat) (r : Nat) : bits .and .u8 ((V : Int) / 2 ^ r) 1 = ((V / 2 ^ r % 2 : Nat) : Int) := by
  have h := and_mask .u8 1 (by decide) ((V : Int) / 2 ^ r)
  have e : ((2 : Int) ^ 1 - 1) = 1 := by decide
  rw [e] at h
  rw [h]
  simp

/-- What 'read' of the reference answers. -/
def SReadPost (B : List Nat) (pos n g cap : Nat) (A : Option Addr) (opn : Bool) (np : Value) (w : World) (e : Ending) (w' : World) : Prop :=
  (pos + n ≤ 8 * B.length → e = .returned (.int .i64 (bitsAt B pos n : Nat)) ∧ RefB w' g A B.length cap (pos + n) false opn np) ∧
  (¬ pos + n ≤ 8 * B.length → e = .returned (.int .i64 0) ∧ RefB w' g A B.length cap (8 * B.length) true opn np) ∧ Upd [g] w w'

set_option maxRecDepth 100000 in
set_option maxHeartbeats 2000000 in
theorem sread_any (g base : Nat) (A : Option Addr) (cap : Nat) (B : List Nat) (pos n : Nat) (opn : Bool) (np : Value) (w : World) (hB : Oct B) (hl : (B.length : Int) ≤ 1073741824) (hn : n ≤ 24) (hp : pos ≤ 8 * B.length)
    (hD : RefB w g A B.length cap pos false opn np) (hS : Rd .u8 w base A (ofN' B)) (hbw : base ≤ w.heap.size) (hg : base ≤ g) :
    Calls Tryd.prog 33 #[.pointer (some ⟨g, 0, none⟩), .int .i64 n] w (SReadPost B pos n g cap A opn np w) := by
  replace hD := hide hD
  replace hS := hide hS
  replace hB := hide hB
  go_enter Tryd.func33, Tryd.ntmps33
  go_wp2
  go_loopg [5, 6] n (fun k u5 u6 wr => ∃ m : Nat, k + m = n ∧ u6 = .int .i64 m ∧ u5 = .int .i64 (bitsAt B pos m : Nat) ∧ pos + m ≤ 8 * B.length ∧ RefB wr g A B.length cap (pos + m) false opn np ∧ Upd [g] w wr)
  case atStart => exact ⟨0, rfl, rfl, by simp [bitsAt, Nat.mod_one], hp, hD.out, Upd.refl _ _⟩
  case round =>
    obtain ⟨m, hm, rfl, rfl, hpm, hR, hU⟩ := hrel
    have c0 := Blk.cell hR 0
    have c1 := Blk.cell hR 1
    have c2 := Blk.cell hR 2
    have f1 := Blk.frozen hR 1
    have f2 := Blk.frozen hR 2
    simp only [List.getElem?_toArray, List.getElem?_cons_zero, List.getElem?_cons_succ] at c0 c1 c2
    replace hU := hide hU
    cases gk with
    | zero =>
      have hm' : m = n := by omega
      subst hm'
      have hmn : ¬ (m : Int) < (m : Int) := by omega
      replace hR := hide hR
      clear c0 c1 c2 f1 f2
      go_wp2
      go_ret
      exact ⟨fun _ => ⟨rfl, hR.out⟩, fun h => absurd hpm h, hU.out⟩
    | succ k =>
      have hmn : (m : Int) < (n : Int) := by omega
      have hdi : ((pos + m : Nat) : Int) / 8 = (((pos + m) / 8 : Nat) : Int) := by omega
      have hmo : ((pos + m : Nat) : Int) % 8 = (((pos + m) % 8 : Nat) : Int) := by omega
      have hq0 : (0 : Int) ≤ ((pos + m : Nat) : Int) := by omega
      have hq1 : ((pos + m : Nat) : Int) ≤ 8589934592 := by omega
      by_cases hlt : (pos + m) / 8 < B.length
      · have hge : ¬ (B.length : Int) ≤ (((pos + m) / 8 : Nat) : Int) := by omega
        have hli : (((pos + m) / 8 : Nat) : Int) < (B.length : Int) := by omega
        have hbit := bit_at B hB.out (pos + m) hlt
        have hsu := bitsAt_succ B pos m
        obtain ⟨b, off, rfl, hbb, hc⟩ := hS.out.at_ (j := (pos + m) / 8) (by simp [ofN']; omega)
        have hx := (hU.out.cell (p := ⟨b, off + (pos + m) / 8, none⟩) (by simp; omega) (by simp; omega)).trans (hc _ (by simp [ofN']; omega))
        have ex : (ofN' B).getD ((pos + m) / 8) 0 = ((B.getD ((pos + m) / 8) 0 : Nat) : Int) := by simp [ofN', hlt]
        rw [ex] at hx
        have hVb : B.getD ((pos + m) / 8) 0 ≤ 255 := hB.out _ (by simp [hlt])
        clear hc ex
        have hne : ¬ b = g := by omega
        have hp7 : pos + m + 1 ≤ 8 * B.length := by omega
        have hr8 : (pos + m) % 8 < 8 := by omega
        generalize B.getD ((pos + m) / 8) 0 = V at *
        have hone := oneBit V ((pos + m) % 8)
        rw [hbit] at hone
        have hcb : leN B / 2 ^ (pos + m) % 2 < 2 := Nat.mod_lt _ (by decide)
        have hbl := bitsAt_lt B pos m
        generalize leN B / 2 ^ (pos + m) % 2 = c at *
        have hp2 : (2 : Nat) ^ m ≤ 2 ^ 24 := Nat.pow_le_pow_right (by decide) (by omega)
        have hcm : c * 2 ^ m ≤ 16777216 := Nat.le_trans (Nat.mul_le_mul (show c ≤ 1 by omega) hp2) (by decide)
        have e1 : (c : Int) * 2 ^ m = ((c * 2 ^ m : Nat) : Int) := by simp
        have hbl2 : bitsAt B pos m ≤ 16777216 := Nat.le_trans (Nat.le_of_lt hbl) (Nat.le_trans hp2 (by decide))
        have e2 : ((bitsAt B pos m : Nat) : Int) + (c : Int) * 2 ^ m = ((bitsAt B pos (m + 1) : Nat) : Int) := by rw [e1, hsu, Int.natCast_add]
        have W0 : 0 ≤ (c : Int) * 2 ^ m := by rw [e1]; omega
        have W1 : IntKind.i64.wrap ((c : Int) * 2 ^ m) = (c : Int) * 2 ^ m := IntWalk.i64_in _ (by rw [e1]; omega)
        have W2 : IntKind.i64.wrap (((bitsAt B pos m : Nat) : Int) + (c : Int) * 2 ^ m) = ((bitsAt B pos (m + 1) : Nat) : Int) := by rw [e2]; exact IntWalk.i64_in _ (by rw [← e2, e1]; omega)
        have hmt : ((m : Nat) : Int).toNat = m := by omega
        have hrt : (((pos + m) % 8 : Nat) : Int).toNat = (pos + m) % 8 := by omega
        have hdt : (((pos + m) / 8 : Nat) : Int).toNat = (pos + m) / 8 := by omega
        have hm24 : (m : Int) ≤ 24 := by omega
        have hr8i : (((pos + m) % 8 : Nat) : Int) < 8 := by omega
        have hpmS : pos + (m + 1) = pos + m + 1 := by omega
        replace hR := hide hR
        replace hsu := hide hsu
        replace hbit := hide hbit
        replace hpmS := hide hpmS
        replace e1 := hide e1
        replace e2 := hide e2
        generalize hS1 : bitsAt B pos (m + 1) = S1 at *
        replace hS1 := hide hS1
        generalize bitsAt B pos m = S0 at *
        generalize (pos + m) / 8 = qd at *
        generalize (pos + m) % 8 = qr at *
        generalize hpq : pos + m = q at *
        replace hpq := hide hpq
        go_wp2
        go_quiet (fail)
        go_wp2
        go_quiet (fail)
        go_wp2
        go_roundg k
        case measure => omega
        case rel =>
          refine ⟨m + 1, by omega, by go_num, ?_, ?_, ?_, ?_⟩
          · rw [hS1.out]
          · rw [hpmS.out]; omega
          · rw [hpmS.out]
            exact Blk.to (((Blk.set_ hR.out 1 _).drewN _)) rfl (by simp)
          · exact (hU.out.setCell (p := ⟨g, 1, none⟩) (by simp) _).drewN _
      · have hge : (B.length : Int) ≤ (((pos + m) / 8 : Nat) : Int) := by omega
        have hend : pos + m = 8 * B.length := by omega
        have hbig : ¬ pos + n ≤ 8 * B.length := by omega
        replace hbig := hide hbig
        replace hend := hide hend
        generalize (pos + m) / 8 = qd at *
        replace hR := hide hR
        go_wp2
        go_quiet (fail)
        go_wp2
        go_ret
        refine ⟨fun h => absurd h hbig.out, fun _ => ⟨rfl, ?_⟩, ?_⟩
        · rw [← hend.out]
          exact Blk.to (((Blk.set_ hR.out 2 _).drewN _)) rfl (by simp)
        · exact (hU.out.setCell (p := ⟨g, 2, none⟩) (by simp) _).drewN _
end Go.Proofs.YtpiapfahcoopbaaDoor

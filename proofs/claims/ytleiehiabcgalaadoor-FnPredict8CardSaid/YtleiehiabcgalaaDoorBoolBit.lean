/- The boolean reader: its fields in memory, its tables, the walk of 'readBit' (whatever struct it lies in). -/
import Derived.Test.YtleiehiabcgalaaDoorBoolRead
import Derived.Test.YtleiehiabcgalaaDoorPlain
import Derived.Test.YtleiehiabcgalaaDoorRows
import Derived.Outline
import Derived.WalkLawsBesides
import Derived.RegionTactic
import Derived.Deep.QuietTactic
import Derived.BigQuiet
import Derived.Deep.LoopGhost
import Derived.Deep.DeepCutAuto
import Derived.Deep.CutBlock
namespace Go.Proofs.YtleiehiabcgalaaDoor
set_option linter.unusedSimpArgs false
set_option linter.unusedVariables false
open Go.RowKit Plain

/-- Only the n cells from place o of block g on may have turned. -/
structure Only (g o n : Nat) (w w' : World) : Prop where
  os : w'.os = w.os
  tape : w'.tape = w.tape
  output : w'.output = w.output
  size : w'.heap.size = w.heap.size
  block : ∀ k, k ≠ g → w'.heap[k]? = w.heap[k]?
  cell : ∀ p : Addr, ¬ (p.block = g ∧ o ≤ p.off ∧ p.off < o + n) → w'.cell? p = w.cell? p
  frozen : ∀ p : Addr, w'.frozen? p = w.frozen? p
  typ : ∀ t cs, Blk w g t cs → ∃ cs', Blk w' g t cs'
namespace Only
variable {g o n : Nat} {w w' w'' : World}
theorem refl (g o n : Nat) (w : World) : Only g o n w w := ⟨rfl, rfl, rfl, rfl, fun _ _ => rfl, fun _ _ => rfl, fun _ => rfl, fun _ cs h => ⟨cs, h⟩⟩
theorem trans (h : Only g o n w w') (k : Only g o n w' w'') : Only g o n w w'' :=
  ⟨k.os.trans h.os, k.tape.trans h.tape, k.output.trans h.output, k.size.trans h.size, fun i hi => (k.block i hi).trans (h.block i hi), fun p hp => (k.cell p hp).trans (h.cell p hp), fun p => (k.frozen p).trans (h.frozen p), fun t cs hb => by obtain ⟨cs', h'⟩ := h.typ t cs hb; exact k.typ t cs' h'⟩
theorem setCell (h : Only g o n w w') (i : Nat) (hi : o ≤ i) (hn : i < o + n) (u : Value) : Only g o n w (w'.setCell ⟨g, i, none⟩ u) :=
  ⟨h.os, h.tape, h.output, by simpa using h.size, fun k hk => (Below.heap_setCell w' _ u k hk).trans (h.block k hk),
   fun p hp => (World.cell?_setCell_other w' _ p u (fun e => hp (by subst e; exact ⟨rfl, hi, hn⟩))).trans (h.cell p hp),
   fun p => by simpa using h.frozen p, fun t cs hb => by obtain ⟨cs', h'⟩ := h.typ t cs hb; exact ⟨_, h'.set_ i u⟩⟩
theorem drew (h : Only g o n w w') : Only g o n w w'.drew := ⟨h.os, h.tape, h.output, h.size, h.block, h.cell, h.frozen, h.typ⟩
theorem drewN (h : Only g o n w w') (m : Nat) : Only g o n w (w'.drewN m) := ⟨h.os, h.tape, h.output, h.size, h.block, h.cell, h.frozen, h.typ⟩
theorem upd (h : Only g o n w w') : Upd [g] w w' := ⟨h.os, h.tape, h.output, by rw [h.size]; exact Nat.le_refl _, fun k _ hk => h.block k (by simpa using hk)⟩
theorem far (h : Only g o n w w') {p : Addr} (hp : p.block ≠ g) : w'.cell? p = w.cell? p := h.cell p (fun e => hp e.1)
end Only

/-- The reader's six fields, from place o of block g on. -/
structure DAt (w : World) (g o : Nat) (A : Option Addr) (len cap : Nat) (s : DS) (eof : Bool) : Prop where
  c0 : w.cell? ⟨g, o, none⟩ = some (.slice A len cap)
  c1 : w.cell? ⟨g, o + 1, none⟩ = some (.int .i64 s.r)
  c2 : w.cell? ⟨g, o + 2, none⟩ = some (.int .u32 s.rm)
  c3 : w.cell? ⟨g, o + 3, none⟩ = some (.int .u32 s.b)
  c4 : w.cell? ⟨g, o + 4, none⟩ = some (.int .u8 s.n)
  c5 : w.cell? ⟨g, o + 5, none⟩ = some (.bool eof)
  f0 : w.frozen? ⟨g, o, none⟩ = false
  f1 : w.frozen? ⟨g, o + 1, none⟩ = false
  f2 : w.frozen? ⟨g, o + 2, none⟩ = false
  f3 : w.frozen? ⟨g, o + 3, none⟩ = false
  f4 : w.frozen? ⟨g, o + 4, none⟩ = false
  f5 : w.frozen? ⟨g, o + 5, none⟩ = false
namespace DAt
variable {w w' : World} {g o : Nat} {A : Option Addr} {len cap : Nat} {s : DS} {eof : Bool}
theorem keep (h : DAt w g o A len cap s eof) (hc : ∀ i, i < 6 → w'.cell? ⟨g, o + i, none⟩ = w.cell? ⟨g, o + i, none⟩) (hf : ∀ i, i < 6 → w'.frozen? ⟨g, o + i, none⟩ = w.frozen? ⟨g, o + i, none⟩) : DAt w' g o A len cap s eof :=
  ⟨(hc 0 (by decide)).trans h.c0, (hc 1 (by decide)).trans h.c1, (hc 2 (by decide)).trans h.c2, (hc 3 (by decide)).trans h.c3, (hc 4 (by decide)).trans h.c4, (hc 5 (by decide)).trans h.c5,
   (hf 0 (by decide)).trans h.f0, (hf 1 (by decide)).trans h.f1, (hf 2 (by decide)).trans h.f2, (hf 3 (by decide)).trans h.f3, (hf 4 (by decide)).trans h.f4, (hf 5 (by decide)).trans h.f5⟩
theorem lt (h : DAt w g o A len cap s eof) : g < w.heap.size := World.block_lt_of_cell? _ _ h.c0
theorem upd {S : List Nat} (h : DAt w g o A len cap s eof) (u : Upd S w w') (hg : g ∉ S) : DAt w' g o A len cap s eof :=
  h.keep (fun i _ => u.cell (p := ⟨g, o + i, none⟩) h.lt hg) (fun i _ => u.frozen (p := ⟨g, o + i, none⟩) h.lt hg)
theorem below {B : Nat} (h : DAt w g o A len cap s eof) (u : Below B w w') (hg : g < B) : DAt w' g o A len cap s eof :=
  h.keep (fun i _ => u.cell (p := ⟨g, o + i, none⟩) hg) (fun i _ => u.frozen (p := ⟨g, o + i, none⟩) hg)
theorem ne_off {g i j : Nat} (h : i ≠ j) : (⟨g, i, none⟩ : Addr) ≠ ⟨g, j, none⟩ := fun e => h (by injection e)
theorem set1 (h : DAt w g o A len cap s eof) (x : Nat) (y : Int) (hy : y = (x : Int)) : DAt (w.setCell ⟨g, o + 1, none⟩ (.int .i64 y)) g o A len cap { s with r := x } eof := by
  subst hy
  exact ⟨(World.cell?_setCell_other _ _ _ _ (ne_off (by omega))).trans h.c0, World.cell?_setCell_same _ _ _ h.c1, (World.cell?_setCell_other _ _ _ _ (ne_off (by omega))).trans h.c2, (World.cell?_setCell_other _ _ _ _ (ne_off (by omega))).trans h.c3, (World.cell?_setCell_other _ _ _ _ (ne_off (by omega))).trans h.c4, (World.cell?_setCell_other _ _ _ _ (ne_off (by omega))).trans h.c5,
    by simpa using h.f0, by simpa using h.f1, by simpa using h.f2, by simpa using h.f3, by simpa using h.f4, by simpa using h.f5⟩
theorem set2 (h : DAt w g o A len cap s eof) (x : Nat) (y : Int) (hy : y = (x : Int)) : DAt (w.setCell ⟨g, o + 2, none⟩ (.int .u32 y)) g o A len cap { s with rm := x } eof := by
  subst hy
  exact ⟨(World.cell?_setCell_other _ _ _ _ (ne_off (by omega))).trans h.c0, (World.cell?_setCell_other _ _ _ _ (ne_off (by omega))).trans h.c1, World.cell?_setCell_same _ _ _ h.c2, (World.cell?_setCell_other _ _ _ _ (ne_off (by omega))).trans h.c3, (World.cell?_setCell_other _ _ _ _ (ne_off (by omega))).trans h.c4, (World.cell?_setCell_other _ _ _ _ (ne_off (by omega))).trans h.c5,
    by simpa using h.f0, by simpa using h.f1, by simpa using h.f2, by simpa using h.f3, by simpa using h.f4, by simpa using h.f5⟩
theorem set3 (h : DAt w g o A len cap s eof) (x : Nat) (y : Int) (hy : y = (x : Int)) : DAt (w.setCell ⟨g, o + 3, none⟩ (.int .u32 y)) g o A len cap { s with b := x } eof := by
  subst hy
  exact ⟨(World.cell?_setCell_other _ _ _ _ (ne_off (by omega))).trans h.c0, (World.cell?_setCell_other _ _ _ _ (ne_off (by omega))).trans h.c1, (World.cell?_setCell_other _ _ _ _ (ne_off (by omega))).trans h.c2, World.cell?_setCell_same _ _ _ h.c3, (World.cell?_setCell_other _ _ _ _ (ne_off (by omega))).trans h.c4, (World.cell?_setCell_other _ _ _ _ (ne_off (by omega))).trans h.c5,
    by simpa using h.f0, by simpa using h.f1, by simpa using h.f2, by simpa using h.f3, by simpa using h.f4, by simpa using h.f5⟩
theorem set4 (h : DAt w g o A len cap s eof) (x : Nat) (y : Int) (hy : y = (x : Int)) : DAt (w.setCell ⟨g, o + 4, none⟩ (.int .u8 y)) g o A len cap { s with n := x } eof := by
  subst hy
  exact ⟨(World.cell?_setCell_other _ _ _ _ (ne_off (by omega))).trans h.c0, (World.cell?_setCell_other _ _ _ _ (ne_off (by omega))).trans h.c1, (World.cell?_setCell_other _ _ _ _ (ne_off (by omega))).trans h.c2, (World.cell?_setCell_other _ _ _ _ (ne_off (by omega))).trans h.c3, World.cell?_setCell_same _ _ _ h.c4, (World.cell?_setCell_other _ _ _ _ (ne_off (by omega))).trans h.c5,
    by simpa using h.f0, by simpa using h.f1, by simpa using h.f2, by simpa using h.f3, by simpa using h.f4, by simpa using h.f5⟩
theorem set0 (h : DAt w g o A len cap s eof) (A' : Option Addr) (len' cap' : Nat) : DAt (w.setCell ⟨g, o, none⟩ (.slice A' len' cap')) g o A' len' cap' s eof :=
  ⟨World.cell?_setCell_same _ _ _ h.c0, (World.cell?_setCell_other _ _ _ _ (ne_off (by omega))).trans h.c1, (World.cell?_setCell_other _ _ _ _ (ne_off (by omega))).trans h.c2, (World.cell?_setCell_other _ _ _ _ (ne_off (by omega))).trans h.c3, (World.cell?_setCell_other _ _ _ _ (ne_off (by omega))).trans h.c4, (World.cell?_setCell_other _ _ _ _ (ne_off (by omega))).trans h.c5,
    by simpa using h.f0, by simpa using h.f1, by simpa using h.f2, by simpa using h.f3, by simpa using h.f4, by simpa using h.f5⟩
theorem set5 (h : DAt w g o A len cap s eof) (x : Bool) : DAt (w.setCell ⟨g, o + 5, none⟩ (.bool x)) g o A len cap s x :=
  ⟨(World.cell?_setCell_other _ _ _ _ (ne_off (by omega))).trans h.c0, (World.cell?_setCell_other _ _ _ _ (ne_off (by omega))).trans h.c1, (World.cell?_setCell_other _ _ _ _ (ne_off (by omega))).trans h.c2, (World.cell?_setCell_other _ _ _ _ (ne_off (by omega))).trans h.c3, (World.cell?_setCell_other _ _ _ _ (ne_off (by omega))).trans h.c4, World.cell?_setCell_same _ _ _ h.c5,
    by simpa using h.f0, by simpa using h.f1, by simpa using h.f2, by simpa using h.f3, by simpa using h.f4, by simpa using h.f5⟩
theorem drewN (h : DAt w g o A len cap s eof) (n : Nat) : DAt (w.drewN n) g o A len cap s eof := ⟨h.c0, h.c1, h.c2, h.c3, h.c4, h.c5, h.f0, h.f1, h.f2, h.f3, h.f4, h.f5⟩
end DAt

/-- What the two tables hold. -/
structure Luts (w : World) : Prop where
  sh : ∀ k, k < 127 → w.cell? ⟨0, k, none⟩ = some (.int .u8 (nk (k + 1) : Nat))
  rm : ∀ k, k < 127 → w.cell? ⟨1, k, none⟩ = some (.int .u8 (((k + 1) * 2 ^ nk (k + 1) - 1 : Nat) : Int))
theorem Luts.keep {w w' : World} (h : Luts w) (hc : ∀ p : Addr, p.block = 0 ∨ p.block = 1 → w'.cell? p = w.cell? p) : Luts w' :=
  ⟨fun k hk => (hc _ (.inl rfl)).trans (h.sh k hk), fun k hk => (hc _ (.inr rfl)).trans (h.rm k hk)⟩
theorem Luts.below {w w' : World} {B : Nat} (h : Luts w) (hb : Below B w w') (hB : 0 < B ∧ 1 < B) : Luts w' :=
  h.keep fun p hp => hb.cell (by rcases hp with e | e <;> omega)
theorem Luts.lt {w : World} (h : Luts w) : 0 < w.heap.size ∧ 1 < w.heap.size := ⟨World.block_lt_of_cell? _ _ (h.sh 0 (by decide)), World.block_lt_of_cell? _ _ (h.rm 0 (by decide))⟩

theorem wraps_u32 (n : Int) (h0 : 0 ≤ n) (h1 : n < 2 ^ 32) : IntKind.u32.wrap n = n := by
  have h1' : n < 4294967296 := by simpa using h1
  exact IntWalk.u32_in n (by omega)

theorem load_or (b n x : Nat) (hn : n ≤ 7) (hx : x ≤ 255) (hd : 2 ^ (16 - n) ∣ b) (hb : b < 65536) : bits .or .u32 (b : Int) ((x : Int) * 2 ^ (8 - n)) = ((b + x * 2 ^ (8 - n) : Nat) : Int) := by
  have hp : (2 : Nat) ^ (16 - n) = 256 * 2 ^ (8 - n) := by rw [show 16 - n = 8 + (8 - n) by omega, Nat.pow_add]
  have hlt : x * 2 ^ (8 - n) < 2 ^ (16 - n) := by
    rw [hp]
    exact Nat.mul_lt_mul_of_pos_right (by omega) (Nat.pow_pos (by decide))
  have h16 : (2 : Nat) ^ (16 - n) ≤ 2 ^ 16 := Nat.pow_le_pow_right (by decide) (by omega)
  have e := bits_join .u32 32 (by decide) wraps_u32 (16 - n) (b : Int) (((x * 2 ^ (8 - n) : Nat)) : Int) (by omega)
    (by exact_mod_cast Nat.mod_eq_zero_of_dvd hd) (by omega) (by omega) (by exact_mod_cast hlt) (by omega)
  have e2 : ((x * 2 ^ (8 - n) : Nat) : Int) = (x : Int) * 2 ^ (8 - n) := by simp
  rw [e2] at e
  rw [e, Int.natCast_add, e2]

/-- What the walk of 'readBit' is told of the bytes. -/
structure Src (w : World) (g : Nat) (A : Option Addr) (bytes : List Nat) : Prop where
  rd : ∀ j, j < bytes.length → ∃ b off, A = some ⟨b, off, none⟩ ∧ b ≠ g ∧ w.cell? ⟨b, off + j, none⟩ = some (.int .u8 (bytes.getD j 0 : Nat))
theorem Src.only {w w' : World} {g o n : Nat} {A : Option Addr} {bytes : List Nat} (h : Src w g A bytes) (u : Only g o n w w') : Src w' g A bytes :=
  ⟨fun j hj => by
    obtain ⟨b, off, e, hne, hc⟩ := h.rd j hj
    exact ⟨b, off, e, hne, (u.far (p := ⟨b, off + j, none⟩) hne).trans hc⟩⟩

set_option maxHeartbeats 4000000 in
set_option maxRecDepth 100000 in
theorem readBit_any (g o : Nat) (A : Option Addr) (cap : Nat) (bytes : List Nat) (s : DS) (v : Iv) (e : Bool × Nat) (w : World) (hb : IsBy bytes) (h : s.tells bytes v) (hv : v.ok) (hp : e.2 ≤ 255)
    (hh : Holds bytes v) (hs : Holds bytes (v.step e)) (hlen : bytes.length ≤ 100000000) (hS : Src w g A bytes) (hL : Luts w) (hg : g ≠ 0 ∧ g ≠ 1) (hD : DAt w g o A bytes.length cap s false) :
    Calls Tryd.prog 34 #[.pointer (some ⟨g, o, none⟩), .int .u8 e.2] w fun x w' => x = .returned (.bool e.1) ∧
      (((s.load bytes).cut e.2).2.norm).tells bytes (v.step e) ∧ DAt w' g o A bytes.length cap (((s.load bytes).cut e.2).2.norm) false ∧ Only g o 6 w w' := by
  obtain ⟨l1, l2, l3⟩ := DS.load_tells hb h hh
  obtain ⟨q1, q2, q3, q4⟩ := DS.cut_tells hb l1 l2 hv e hp hh hs
  obtain ⟨c0, c1, c2, c3, c4, c5, f0, f1, f2, f3, f4, f5⟩ := id hD
  have hn := h.n15
  obtain ⟨R, hR⟩ : ∃ R, R = ((s.load bytes).cut e.2).2.norm := ⟨_, rfl⟩
  rw [← hR] at q2 ⊢
  replace hR := hide hR
  go_enter Tryd.func34, Tryd.ntmps34
  go_upto_if 13 with fail
  go_cut [] (fun wc => DAt wc g o A bytes.length cap (s.load bytes) false ∧ Only g o 6 w wc)
  case first =>
    by_cases h8 : s.n < 8
    · have hr := l3 h8
      obtain ⟨bb, off, rfl, hne, hx⟩ := hS.rd s.r hr
      have hxb := hb (bytes.getD s.r 0) (by simp [hr])
      have hlim : s.b < 65536 := by have := h.lim; have := hv.2; omega
      have hor := load_or s.b s.n (bytes.getD s.r 0) (by omega) hxb h.dvd hlim
      have hpow : (2 : Nat) ^ (8 - s.n) ≤ 2 ^ 8 := Nat.pow_le_pow_right (by decide) (by omega)
      have hE : s.load bytes = ⟨s.r + 1, s.b + bytes.getD s.r 0 * 2 ^ (8 - s.n), s.n + 8, s.rm⟩ := by unfold DS.load; rw [if_pos h8]
      have hmul : bytes.getD s.r 0 * 2 ^ (8 - s.n) ≤ 255 * 2 ^ 8 := Nat.mul_le_mul hxb hpow
      have hm0 : (0 : Int) ≤ ((bytes.getD s.r 0 : Nat) : Int) * 2 ^ (8 - s.n) := Int.mul_nonneg (by omega) (Int.le_of_lt (Int.pow_pos (by decide)))
      have hm1 : ((bytes.getD s.r 0 : Nat) : Int) * 2 ^ (8 - s.n) ≤ 65280 := by
        have h2 := Int.ofNat_le.2 hmul
        rw [Int.natCast_mul] at h2
        simpa using h2
      have hsub : ((8 : Int) - (s.n : Int)).toNat = 8 - s.n := by omega
      have hsub2 : 0 ≤ (8 : Int) - (s.n : Int) ∧ (8 : Int) - (s.n : Int) ≤ 8 := by omega
      obtain ⟨hsub2, hsub3⟩ := hsub2
      have hn8 : (s.n : Int) < 8 := by omega
      have hri : (s.r : Int) < (bytes.length : Int) := by omega
      have hrn : ¬ (bytes.length : Int) ≤ (s.r : Int) := by omega
      generalize bytes.getD s.r 0 = x at *
      replace h := hide h
      replace hE := hide hE
      replace q1 := hide q1
      replace q2 := hide q2
      replace q3 := hide q3
      replace q4 := hide q4
      replace l1 := hide l1
      replace hS := hide hS
      replace hmul := hide hmul
      replace hpow := hide hpow
      replace hlim := hide hlim
      clear l2 l3 h8
      go_wp2
      go_quiet (fail)
      go_wp2
      go_quiet (fail)
      go_wp2
      go_region
      go_wp2
      go_meet
      refine ⟨?_, ?_⟩
      · rw [hE.out]
        exact (((hD.drewN _).set3 (s.b + x * 2 ^ (8 - s.n)) _ (by simp)).set1 (s.r + 1) _ (by simp)).set4 (s.n + 8) _ (by simp)
      · exact ((((Only.refl g o 6 w).drewN _).setCell (o + 3) (by omega) (by omega) _).setCell (o + 1) (by omega) (by omega) _).setCell (o + 4) (by omega) (by omega) _
    · have hE : s.load bytes = s := by unfold DS.load; rw [if_neg h8]
      have hn8 : ¬ (s.n : Int) < 8 := by omega
      replace h := hide h
      replace hE := hide hE
      replace q1 := hide q1
      replace q2 := hide q2
      replace q3 := hide q3
      replace q4 := hide q4
      replace l1 := hide l1
      clear l2 l3 h8
      go_wp2
      go_meet
      exact ⟨by rw [hE.out]; exact hD, Only.refl g o 6 w⟩
  case rest =>
    obtain ⟨hD1, hO1⟩ := hcut
    obtain ⟨w1, hw1⟩ : ∃ w1, w1 = wc := ⟨_, rfl⟩
    subst hw1
    clear c0 c1 c2 c3 c4 c5 f0 f1 f2 f3 f4 f5 l3 h hD hn
    have hL1 : Luts w1 := hL.keep fun p hp => hO1.far (by rcases hp with e | e <;> omega)
    clear hL hS
    generalize hs1 : s.load bytes = s1 at *
    clear hs1
    have hrm := l1.rm
    have hv1 := hv.1
    have hv2 := hv.2
    have hn15 := l1.n15
    have hm0 : (0 : Int) ≤ (s1.rm : Int) * (e.2 : Int) := Int.mul_nonneg (by omega) (by omega)
    have hm1 : (s1.rm : Int) * (e.2 : Int) ≤ 65025 := by
      have hN : s1.rm * e.2 ≤ 65025 := Nat.le_trans (Nat.mul_le_mul (show s1.rm ≤ 255 by omega) hp) (by decide)
      have h2 := Int.ofNat_le.2 hN
      rw [Int.natCast_mul] at h2
      exact h2
    have hsp : (s1.rm : Int) * (e.2 : Int) / 256 + 1 = ((splitN (s1.rm + 1) e.2 : Nat) : Int) := by
      unfold splitN
      simp
      omega
    have hspb := split_bd (s1.rm + 1) e.2 (by omega) (by omega) hp
    have hlim := l1.lim
    have hcut1 : (s1.cut e.2).1 = decide (splitN (s1.rm + 1) e.2 * 256 ≤ s1.b) := by
      unfold DS.cut
      by_cases hc : splitN (s1.rm + 1) e.2 * 256 ≤ s1.b <;> simp [hc]
    have hcut2 : (s1.cut e.2).2 = if splitN (s1.rm + 1) e.2 * 256 ≤ s1.b then ⟨s1.r, s1.b - splitN (s1.rm + 1) e.2 * 256, s1.n, s1.rm - splitN (s1.rm + 1) e.2⟩ else ⟨s1.r, s1.b, s1.n, splitN (s1.rm + 1) e.2 - 1⟩ := by
      unfold DS.cut
      by_cases hc : splitN (s1.rm + 1) e.2 * 256 ≤ s1.b <;> simp [hc]
    generalize splitN (s1.rm + 1) e.2 = sp at *
    obtain ⟨c0, c1, c2, c3, c4, c5, f0, f1, f2, f3, f4, f5⟩ := id hD1
    obtain ⟨sp1, sp2⟩ := hspb
    have hb32 : (s1.b : Int) ≤ 65279 := by omega
    have sp3 : (sp : Int) ≤ (s1.rm : Int) := by omega
    have rm3 : (s1.rm : Int) ≤ 255 := by omega
    replace q1 := hide q1
    replace q2 := hide q2
    replace q3 := hide q3
    replace q4 := hide q4
    replace l1 := hide l1
    replace hcut1 := hide hcut1
    replace hcut2 := hide hcut2
    replace hrm := hide hrm
    go_upto_if 82 with fail
    go_cut [7] (fun x7 wd => x7 = .bool (s1.cut e.2).1 ∧ DAt wd g o A bytes.length cap (s1.cut e.2).2 false ∧ Only g o 6 w1 wd)
    case first =>
      by_cases hc : sp * 256 ≤ s1.b
      · have hci : (sp : Int) * 256 ≤ (s1.b : Int) := by omega
        have hcI := hide (decide_eq_true hc)
        replace hc := hide hc
        have hle : sp ≤ s1.rm := by omega
        have e1 : ((s1.b - sp * 256 : Nat) : Int) = (s1.b : Int) - (sp : Int) * 256 := by have := hc.out; omega
        have e2 : ((s1.rm - sp : Nat) : Int) = (s1.rm : Int) - (sp : Int) := by omega
        replace e1 := hide e1
        replace e2 := hide e2
        go_wp2
        go_meet
        refine ⟨?_, ?_, ?_⟩
        · rw [hcut1.out, hcI.out]
          exact congrArg Value.bool (decide_eq_true hci)
        · rw [hcut2.out, if_pos hc.out]
          exact (hD1.set2 (s1.rm - sp) _ e2.out.symm).set3 (s1.b - sp * 256) _ e1.out.symm
        · exact ((Only.refl g o 6 w1).setCell (o + 2) (by omega) (by omega) _).setCell (o + 3) (by omega) (by omega) _
      · have hci : ¬ (sp : Int) * 256 ≤ (s1.b : Int) := by omega
        have hcI := hide (decide_eq_false hc)
        replace hc := hide hc
        have e2 : ((sp - 1 : Nat) : Int) = (sp : Int) - 1 := by omega
        replace e2 := hide e2
        go_wp2
        go_meet
        refine ⟨?_, ?_, ?_⟩
        · rw [hcut1.out, hcI.out]
          exact congrArg Value.bool (decide_eq_false (by omega))
        · rw [hcut2.out, if_neg hc.out]
          exact hD1.set2 (sp - 1) _ e2.out.symm
        · exact (Only.refl g o 6 w1).setCell (o + 2) (by omega) (by omega) _
    case rest =>
      obtain ⟨rfl, hD2, hO2⟩ := hcut
      clear c0 c1 c2 c3 c4 c5 f0 f1 f2 f3 f4 f5 hD1
      have hL2 : Luts wc := hL1.keep fun p hp => hO2.far (by rcases hp with e | e <;> omega)
      clear hL1
      have q3' := q3.out
      have q4' := q4.out
      have hn2 : 8 ≤ (s1.cut e.2).2.n := by rw [hcut2.out]; split <;> exact l2
      have hn3 : (s1.cut e.2).2.n ≤ 15 := by rw [hcut2.out]; split <;> exact hn15
      clear hcut1 hcut2 hsp hm0 hm1 hlim
      generalize (s1.cut e.2).1 = bit at *
      generalize (s1.cut e.2).2 = s2 at *
      obtain ⟨c0, c1, c2, c3, c4, c5, f0, f1, f2, f3, f4, f5⟩ := id hD2
      have hnk := nk_ok (s2.rm + 1) (by omega) (by omega)
      by_cases h127 : s2.rm < 127
      · have t1 := hL2.sh s2.rm h127
        have t2 := hL2.rm s2.rm h127
        have h127i : (s2.rm : Int) < 127 := by omega
        have hbk : s2.b * 2 ^ nk (s2.rm + 1) ≤ 65280 := by
          have h1 : s2.b * 2 ^ nk (s2.rm + 1) ≤ 256 * (s2.rm + 1) * 2 ^ nk (s2.rm + 1) := Nat.mul_le_mul_right _ (by omega)
          rw [Nat.mul_assoc] at h1
          have := hnk.2.1
          omega
        have eb : (s2.b : Int) * 2 ^ nk (s2.rm + 1) % 4294967296 = ((s2.b * 2 ^ nk (s2.rm + 1) : Nat) : Int) := by
          have e1 : ((s2.b * 2 ^ nk (s2.rm + 1) : Nat) : Int) = (s2.b : Int) * 2 ^ nk (s2.rm + 1) := by simp
          rw [← e1]
          omega
        have en : (s2.n : Int) - (nk (s2.rm + 1) : Int) = ((s2.n - nk (s2.rm + 1) : Nat) : Int) := by have := hnk.2.2; omega
        have q1' := q1.out
        subst q1'
        have hk7 := hnk.2.2
        have hrb : (s2.rm + 1) * 2 ^ nk (s2.rm + 1) - 1 ≤ 255 := by have := hnk.2.1; omega
        replace eb := hide eb
        replace en := hide en
        replace hbk := hide hbk
        replace hnk := hide hnk
        clear q3' q4'
        go_wp2
        go_ret
        refine ⟨rfl, q2.out, ?_, (hO1.trans hO2).trans ((((Only.refl g o 6 wc).setCell (o + 2) (by omega) (by omega) _).setCell (o + 3) (by omega) (by omega) _).setCell (o + 4) (by omega) (by omega) _)⟩
        rw [hR.out]
        exact ((hD2.set2 _ _ rfl).set3 _ _ eb.out).set4 _ _ en.out
      · have h127i : ¬ (s2.rm : Int) < 127 := by omega
        have hz := nk_big (s2.rm + 1) (by omega) (by omega)
        have hE : s2.norm = s2 := by
          unfold DS.norm
          rw [hz]
          simp
        have q1' := q1.out
        subst q1'
        replace hE := hide hE
        clear hnk hz h127 q3' q4'
        go_wp2
        go_ret
        refine ⟨rfl, q2.out, ?_, hO1.trans hO2⟩
        rw [hR.out, hE.out]
        exact hD2
end Go.Proofs.YtleiehiabcgalaaDoor

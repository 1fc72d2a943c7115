/- The walks of the boolean writer: shift, put, flag, done, the new writer. -/
import Derived.Test.YtleiehiabcgalaaDoorBoolShift
namespace Go.Proofs.YtleiehiabcgalaaDoor
set_option linter.unusedSimpArgs false
set_option linter.unusedVariables false
open Go.RowKit Plain

theorem shift_anyK (base g : Nat) (s : WS) (r : Nat) (w : World) (h : s.inv r) (hlen : s.out.length ≤ 100000000) (hO : WObj w base g s) :
    Calls Tryd.prog 24 #[.pointer (some ⟨g, 0, none⟩)] w fun e w' => e = .returned (.tuple #[]) ∧ WObj w' base g s.shift ∧ Bl base g w w' := by
  by_cases hc : 2147483648 ≤ s.bottom
  · obtain ⟨hb, ho, h32⟩ := bit31_no s r h hc
    exact shift_emit1 base g s w hc h32 ho h.by_ hb hlen hO
  · by_cases hb : s.bits = 1
    · exact shift_emit0 base g s w hc hb hlen hO
    · exact shift_plain base g s w hc hb h.b1 h.b24 hO

theorem shift_len (s : WS) : s.shift.out.length ≤ s.out.length + 1 := by
  unfold WS.shift
  by_cases hc : 2147483648 ≤ s.bottom <;> by_cases hb : s.bits = 1 <;> simp [hc, hb, carryL_length]
theorem shift_size (s : WS) : s.shift.size = s.size := by
  unfold WS.shift
  by_cases hb : s.bits = 1 <;> simp [hb]

/-- A state that 'norm' may be asked of. -/
structure Normy (t : WS) : Prop where
  inv : t.inv t.size
theorem norm_done (k : Nat) (t : WS) (h : ¬ t.size < 128) : WS.norm k t = t := by
  cases k with
  | zero => rfl
  | succ k => unfold WS.norm; rw [if_neg h]

theorem WObj.cells {w : World} {base g : Nat} {s : WS} (h : WObj w base g s) : ∃ v, 
    (w.cell? ⟨g, 0, none⟩ = some v ∧ w.cell? ⟨g, 1, none⟩ = some (.int .i64 s.bottom) ∧ w.cell? ⟨g, 2, none⟩ = some (.int .i64 s.size) ∧ w.cell? ⟨g, 3, none⟩ = some (.int .i64 s.bits) ∧
    w.frozen? ⟨g, 0, none⟩ = false ∧ w.frozen? ⟨g, 1, none⟩ = false ∧ w.frozen? ⟨g, 2, none⟩ = false ∧ w.frozen? ⟨g, 3, none⟩ = false) ∧ w.ownsRow base 5 1 v s.out.length ((ofN s.out).map (Value.int .u8)) := by
  obtain ⟨v, hb, ho⟩ := h.blk
  exact ⟨v, emit_facts hb, ho⟩
theorem WObj.set1 {w : World} {base g : Nat} {s : WS} (h : WObj w base g s) (x : Nat) (y : Int) (hy : y = (x : Int)) : WObj (w.setCell ⟨g, 1, none⟩ (.int .i64 y)) base g { s with bottom := x } := by
  subst hy
  obtain ⟨v, hb, ho⟩ := h.blk
  refine ⟨h.new, v, by simpa using hb.set_ 1 (.int .i64 x), own_set_far ho (own_ne ho hb (by decide)) _⟩
theorem WObj.set2 {w : World} {base g : Nat} {s : WS} (h : WObj w base g s) (x : Nat) (y : Int) (hy : y = (x : Int)) : WObj (w.setCell ⟨g, 2, none⟩ (.int .i64 y)) base g { s with size := x } := by
  subst hy
  obtain ⟨v, hb, ho⟩ := h.blk
  refine ⟨h.new, v, by simpa using hb.set_ 2 (.int .i64 x), own_set_far ho (own_ne ho hb (by decide)) _⟩

theorem dbl_inv (t : WS) (h : t.inv t.size) (hs : t.size < 128) : ({ t with size := t.size * 2 }.shift).inv ({ t with size := t.size * 2 }.shift).size := by
  have a := WS.shift_inv { t with size := t.size * 2 } t.size (t.size * 2) ⟨h.b1, h.b24, h.b8, h.r1, h.r255, h.by_, h.low, h.all⟩ (by have := h.r1; omega) (by omega) (by omega)
  rw [a.2.2.2.1]
  exact a.1

set_option maxHeartbeats 2000000 in
theorem put_anyK (base g : Nat) (s : WS) (v : Iv) (b : Bool) (p : Nat) (w : World) (h : s.tells v) (hv : v.ok) (hp : p ≤ 255) (hlen : s.out.length ≤ 50000000) (hO : WObj w base g s) :
    Calls Tryd.prog 20 #[.pointer (some ⟨g, 0, none⟩), .bool b, .int .i64 p] w fun e w' => e = .returned (.tuple #[]) ∧ WObj w' base g (s.put (b, p)) ∧ Bl base g w w' := by
  obtain ⟨vv, ⟨c0, c1, c2, c3, f0, f1, f2, f3⟩, hown⟩ := hO.cells
  have hsz := h.size
  obtain ⟨r1, r2, r3, r4⟩ := step_range v hv (b, p) hp
  rw [← hsz] at r1 r2 r3 r4
  have hv1 := hv.1
  have hv2 := hv.2
  rw [← hsz] at hv1 hv2
  have hnew := hO.new
  have hinv := h.inv
  rw [← hsz] at hinv
  have hm1 : (0 : Int) ≤ ((s.size : Int) - 1) * (p : Int) := Int.mul_nonneg (by omega) (by omega)
  have hm2 : ((s.size : Int) - 1) * (p : Int) ≤ 65025 := by
    have hN : (s.size - 1) * p ≤ 65025 := Nat.le_trans (Nat.mul_le_mul (show s.size - 1 ≤ 255 by omega) hp) (by decide)
    have e : ((s.size - 1 : Nat) : Int) = (s.size : Int) - 1 := by omega
    have h2 := Int.ofNat_le.2 hN
    rw [Int.natCast_mul, e] at h2
    exact h2
  have hsp : 1 + ((s.size : Int) - 1) * (p : Int) / 256 = ((splitN s.size p : Nat) : Int) := by
    unfold splitN
    have : ((s.size - 1 : Nat) : Int) = (s.size : Int) - 1 := by omega
    simp [this]
  simp only at r1 r2 r3 r4
  obtain ⟨t, ht, hti, htl⟩ : ∃ t : WS, t = (if b then { s with bottom := s.bottom + splitN s.size p, size := s.size - splitN s.size p } else { s with size := splitN s.size p }) ∧ t.inv t.size ∧ t.out.length ≤ s.out.length := by
    cases b
    · refine ⟨_, rfl, ?_, Nat.le_refl _⟩
      simp only [Bool.false_eq_true, if_false] at *
      exact ⟨hinv.b1, hinv.b24, hinv.b8, r1, by omega, hinv.by_, by have := hinv.low; simp; omega, by have := hinv.all; simp [WS.num] at *; omega⟩
    · refine ⟨_, rfl, ?_, Nat.le_refl _⟩
      simp only [if_true] at *
      refine ⟨hinv.b1, hinv.b24, hinv.b8, r1, by omega, hinv.by_, by have := hinv.low; simp; omega, ?_⟩
      have := hinv.all
      simp only [WS.num] at *
      omega
  have hput : s.put (b, p) = WS.norm 8 t := by rw [ht]; rfl
  rw [hput]
  have hb32 : s.bottom < 4294967296 := by
    have h1 := hinv.low
    have h2 := hinv.b1
    have : (2 : Nat) ^ (33 - s.bits) ≤ 2 ^ 32 := Nat.pow_le_pow_right (by decide) (by omega)
    omega
  have hO' := hide hO
  replace ht := hide ht
  replace hti := hide hti
  replace hput := hide hput
  replace hown := hide hown
  replace h := hide h
  replace hinv := hide hinv
  replace hsz := hide hsz
  clear hO
  have hspb : splitN s.size p < s.size := r4
  have hsi : ((s.size - splitN s.size p : Nat) : Int) = (s.size : Int) - ((splitN s.size p : Nat) : Int) := by omega
  replace hsi := hide hsi
  cases b
  · simp only [Bool.false_eq_true, if_false] at ht
    have hst := (hO'.out.set2 (splitN s.size p) _ rfl)
    rw [← ht.out] at hst
    replace hst := hide hst
    go_enter Tryd.func20, Tryd.ntmps20
    go_wp2
    go_loopg [] 8 (fun k wr => ∃ t', WS.norm k t' = WS.norm 8 t ∧ t'.inv t'.size ∧ t'.out.length + k ≤ 50000008 ∧ 128 ≤ t'.size * 2 ^ k ∧ WObj wr base g t' ∧ Bl base g w wr)
    case atStart =>
      have := hti.out.r1
      exact ⟨t, rfl, hti.out, by omega, by omega, hst.out, (Bl.refl base g w).setCell hnew _⟩
    case round =>
      obtain ⟨t', e1, e2, e3, e4, hO1, hB1⟩ := hrel
      obtain ⟨v1, ⟨d0, d1, d2, d3, k0, k1, k2, k3⟩, _⟩ := hO1.cells
      have hr := e2.r1
      by_cases hs : t'.size < 128
      · cases gk with
        | zero => simp at e4; omega
        | succ k =>
          have hO2 := hO1.set2 (t'.size * 2) ((t'.size : Int) * 2) (by simp)
          have i2 : WS.inv { t' with size := t'.size * 2 } t'.size := ⟨e2.b1, e2.b24, e2.b8, e2.r1, e2.r255, e2.by_, e2.low, e2.all⟩
          have l2 := shift_len { t' with size := t'.size * 2 }
          have z2 := shift_size { t' with size := t'.size * 2 }
          have hd := dbl_inv t' e2 hs
          have hsI : (t'.size : Int) < 128 := by omega
          replace e1 := hide e1
          replace e2 := hide e2
          replace i2 := hide i2
          replace l2 := hide l2
          replace z2 := hide z2
          replace hd := hide hd
          replace hO1 := hide hO1
          replace hO2 := hide hO2
          replace hB1 := hide hB1
          replace e4 := hide e4
          replace e3 := hide e3
          clear hs
          go_wp2_with (first | (go_at_call 24; refine (shift_anyK base g { t' with size := t'.size * 2 } t'.size _ i2.out (by have := e3.out; simp; omega) hO2.out).mono ?_; rintro e w1 ⟨rfl, hO3, hB3⟩; replace hO3 := hide hO3; replace hB3 := hide hB3) | go_in)
          go_roundg k
          case measure => omega
          case rel =>
            refine ⟨_, ?_, hd.out, ?_, ?_, hO3.out, (hB1.out.setCell hnew _).trans hB3.out⟩
            · rw [← e1.out]
              conv => rhs; unfold WS.norm
              rw [if_pos (by omega)]
            · have := l2.out; have := e3.out; simp at *; omega
            · rw [z2.out]; have := e4.out; rw [Nat.pow_succ] at this; rw [Nat.mul_assoc, Nat.mul_comm 2]; exact this
      · have hsI : ¬ (t'.size : Int) < 128 := by omega
        replace e1 := hide e1
        replace hs := hide hs
        replace hO1 := hide hO1
        replace hB1 := hide hB1
        go_wp2
        go_end0
        refine ⟨rfl, ?_, hB1.out⟩
        rw [← e1.out, norm_done _ _ hs.out]
        exact hO1.out
  · simp only [if_true] at ht
    have hst := ((hO'.out.set1 (s.bottom + splitN s.size p) ((s.bottom : Int) + ((splitN s.size p : Nat) : Int)) (by simp)).set2 (s.size - splitN s.size p) ((s.size : Int) - ((splitN s.size p : Nat) : Int)) hsi.out.symm)
    rw [← ht.out] at hst
    replace hst := hide hst
    go_enter Tryd.func20, Tryd.ntmps20
    go_wp2
    go_loopg [] 8 (fun k wr => ∃ t', WS.norm k t' = WS.norm 8 t ∧ t'.inv t'.size ∧ t'.out.length + k ≤ 50000008 ∧ 128 ≤ t'.size * 2 ^ k ∧ WObj wr base g t' ∧ Bl base g w wr)
    case atStart =>
      have := hti.out.r1
      exact ⟨t, rfl, hti.out, by omega, by omega, hst.out, ((Bl.refl base g w).setCell hnew _).setCell hnew _⟩
    case round =>
      obtain ⟨t', e1, e2, e3, e4, hO1, hB1⟩ := hrel
      obtain ⟨v1, ⟨d0, d1, d2, d3, k0, k1, k2, k3⟩, _⟩ := hO1.cells
      have hr := e2.r1
      by_cases hs : t'.size < 128
      · cases gk with
        | zero => simp at e4; omega
        | succ k =>
          have hO2 := hO1.set2 (t'.size * 2) ((t'.size : Int) * 2) (by simp)
          have i2 : WS.inv { t' with size := t'.size * 2 } t'.size := ⟨e2.b1, e2.b24, e2.b8, e2.r1, e2.r255, e2.by_, e2.low, e2.all⟩
          have l2 := shift_len { t' with size := t'.size * 2 }
          have z2 := shift_size { t' with size := t'.size * 2 }
          have hd := dbl_inv t' e2 hs
          have hsI : (t'.size : Int) < 128 := by omega
          replace e1 := hide e1
          replace e2 := hide e2
          replace i2 := hide i2
          replace l2 := hide l2
          replace z2 := hide z2
          replace hd := hide hd
          replace hO1 := hide hO1
          replace hO2 := hide hO2
          replace hB1 := hide hB1
          replace e4 := hide e4
          replace e3 := hide e3
          clear hs
          go_wp2_with (first | (go_at_call 24; refine (shift_anyK base g { t' with size := t'.size * 2 } t'.size _ i2.out (by have := e3.out; simp; omega) hO2.out).mono ?_; rintro e w1 ⟨rfl, hO3, hB3⟩; replace hO3 := hide hO3; replace hB3 := hide hB3) | go_in)
          go_roundg k
          case measure => omega
          case rel =>
            refine ⟨_, ?_, hd.out, ?_, ?_, hO3.out, (hB1.out.setCell hnew _).trans hB3.out⟩
            · rw [← e1.out]
              conv => rhs; unfold WS.norm
              rw [if_pos (by omega)]
            · have := l2.out; have := e3.out; simp at *; omega
            · rw [z2.out]; have := e4.out; rw [Nat.pow_succ] at this; rw [Nat.mul_assoc, Nat.mul_comm 2]; exact this
      · have hsI : ¬ (t'.size : Int) < 128 := by omega
        replace e1 := hide e1
        replace hs := hide hs
        replace hO1 := hide hO1
        replace hB1 := hide hB1
        go_wp2
        go_end0
        refine ⟨rfl, ?_, hB1.out⟩
        rw [← e1.out, norm_done _ _ hs.out]
        exact hO1.out
theorem shift_any (base g : Nat) (s : WS) (r : Nat) (w : World) (h : s.inv r) (hlen : s.out.length ≤ 100000000) (hO : WObj w base g s) :
    Calls Tryd.prog 24 #[.pointer (some ⟨g, 0, none⟩)] w fun e w' => e = .returned (.tuple #[]) ∧ WObj w' base g s.shift ∧ Below base w w' :=
  (shift_anyK base g s r w h hlen hO).mono fun _ _ ⟨a, b, c⟩ => ⟨a, b, c.toBelow⟩
theorem put_any (base g : Nat) (s : WS) (v : Iv) (b : Bool) (p : Nat) (w : World) (h : s.tells v) (hv : v.ok) (hp : p ≤ 255) (hlen : s.out.length ≤ 50000000) (hO : WObj w base g s) :
    Calls Tryd.prog 20 #[.pointer (some ⟨g, 0, none⟩), .bool b, .int .i64 p] w fun e w' => e = .returned (.tuple #[]) ∧ WObj w' base g (s.put (b, p)) ∧ Below base w w' :=
  (put_anyK base g s v b p w h hv hp hlen hO).mono fun _ _ ⟨a, b, c⟩ => ⟨a, b, c.toBelow⟩
end Go.Proofs.YtleiehiabcgalaaDoor

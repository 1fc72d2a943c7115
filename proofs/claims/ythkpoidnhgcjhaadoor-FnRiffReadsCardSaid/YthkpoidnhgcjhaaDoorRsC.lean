/- The reference's files of chunks: 'next', 'take'. -/
import Derived.Test.YthkpoidnhgcjhaaDoorRsB
namespace Go.Proofs.YthkpoidnhgcjhaaDoor
set_option linter.unusedSimpArgs false
set_option linter.unusedVariables false
open Go.RowKit Plain

def NextPostS (g B : Nat) (f : SF) (dv : Value) (w : World) (e : Ending) (w' : World) : Prop := e = .returned (.int .i64 ((sNext f).1 : Nat)) ∧ Upd [g] w w' ∧ ∃ dv', FAt w' g B (sNext f).2 dv' ∧ ((sNext f).1 = 0 → dv' = .slice none 0 0)
def gCs (x0 x1 x2 x3 x4 x5 x6 x7 x8 x9 x10 x11 x12 x13 x14 x15 x16 x17 x18 x19 : Value) : Array Value := #[x0, x1, x2, x3, x4, x5, x6, x7, x8, x9, x10, x11, x12, x13, x14, x15, x16, x17, x18, x19]
theorem gset4 {w : World} {g : Nat} {x0 x1 x2 x3 x4 x5 x6 x7 x8 x9 x10 x11 x12 x13 x14 x15 x16 x17 x18 x19 : Value} (h : Blk w g 97 (gCs x0 x1 x2 x3 x4 x5 x6 x7 x8 x9 x10 x11 x12 x13 x14 x15 x16 x17 x18 x19)) (v : Value) : Blk (w.setCell ⟨g, 4, none⟩ v) g 97 (gCs x0 x1 x2 x3 v x5 x6 x7 x8 x9 x10 x11 x12 x13 x14 x15 x16 x17 x18 x19) := (h.set_ 4 v).to rfl rfl
theorem gset5 {w : World} {g : Nat} {x0 x1 x2 x3 x4 x5 x6 x7 x8 x9 x10 x11 x12 x13 x14 x15 x16 x17 x18 x19 : Value} (h : Blk w g 97 (gCs x0 x1 x2 x3 x4 x5 x6 x7 x8 x9 x10 x11 x12 x13 x14 x15 x16 x17 x18 x19)) (v : Value) : Blk (w.setCell ⟨g, 5, none⟩ v) g 97 (gCs x0 x1 x2 x3 x4 v x6 x7 x8 x9 x10 x11 x12 x13 x14 x15 x16 x17 x18 x19) := (h.set_ 5 v).to rfl rfl
theorem gset6 {w : World} {g : Nat} {x0 x1 x2 x3 x4 x5 x6 x7 x8 x9 x10 x11 x12 x13 x14 x15 x16 x17 x18 x19 : Value} (h : Blk w g 97 (gCs x0 x1 x2 x3 x4 x5 x6 x7 x8 x9 x10 x11 x12 x13 x14 x15 x16 x17 x18 x19)) (v : Value) : Blk (w.setCell ⟨g, 6, none⟩ v) g 97 (gCs x0 x1 x2 x3 x4 x5 v x7 x8 x9 x10 x11 x12 x13 x14 x15 x16 x17 x18 x19) := (h.set_ 6 v).to rfl rfl
theorem gset7 {w : World} {g : Nat} {x0 x1 x2 x3 x4 x5 x6 x7 x8 x9 x10 x11 x12 x13 x14 x15 x16 x17 x18 x19 : Value} (h : Blk w g 97 (gCs x0 x1 x2 x3 x4 x5 x6 x7 x8 x9 x10 x11 x12 x13 x14 x15 x16 x17 x18 x19)) (v : Value) : Blk (w.setCell ⟨g, 7, none⟩ v) g 97 (gCs x0 x1 x2 x3 x4 x5 x6 v x8 x9 x10 x11 x12 x13 x14 x15 x16 x17 x18 x19) := (h.set_ 7 v).to rfl rfl
theorem gset8 {w : World} {g : Nat} {x0 x1 x2 x3 x4 x5 x6 x7 x8 x9 x10 x11 x12 x13 x14 x15 x16 x17 x18 x19 : Value} (h : Blk w g 97 (gCs x0 x1 x2 x3 x4 x5 x6 x7 x8 x9 x10 x11 x12 x13 x14 x15 x16 x17 x18 x19)) (v : Value) : Blk (w.setCell ⟨g, 8, none⟩ v) g 97 (gCs x0 x1 x2 x3 x4 x5 x6 x7 v x9 x10 x11 x12 x13 x14 x15 x16 x17 x18 x19) := (h.set_ 8 v).to rfl rfl
theorem gset9 {w : World} {g : Nat} {x0 x1 x2 x3 x4 x5 x6 x7 x8 x9 x10 x11 x12 x13 x14 x15 x16 x17 x18 x19 : Value} (h : Blk w g 97 (gCs x0 x1 x2 x3 x4 x5 x6 x7 x8 x9 x10 x11 x12 x13 x14 x15 x16 x17 x18 x19)) (v : Value) : Blk (w.setCell ⟨g, 9, none⟩ v) g 97 (gCs x0 x1 x2 x3 x4 x5 x6 x7 x8 v x10 x11 x12 x13 x14 x15 x16 x17 x18 x19) := (h.set_ 9 v).to rfl rfl
theorem gset10 {w : World} {g : Nat} {x0 x1 x2 x3 x4 x5 x6 x7 x8 x9 x10 x11 x12 x13 x14 x15 x16 x17 x18 x19 : Value} (h : Blk w g 97 (gCs x0 x1 x2 x3 x4 x5 x6 x7 x8 x9 x10 x11 x12 x13 x14 x15 x16 x17 x18 x19)) (v : Value) : Blk (w.setCell ⟨g, 10, none⟩ v) g 97 (gCs x0 x1 x2 x3 x4 x5 x6 x7 x8 x9 v x11 x12 x13 x14 x15 x16 x17 x18 x19) := (h.set_ 10 v).to rfl rfl
theorem fsetCk {w : World} {g : Nat} {bv dv xv : Value} {told rd bad place : Int} {op hand odd : Bool} {ck : Ck} {form : List Nat} (h : Blk w g 97 (fCs bv told op hand ck dv xv rd bad place form odd)) (c : Ck) (v : Value) :
    Blk (((((((w.setCell ⟨g, 4, none⟩ (.int .u8 (c.id.getD 0 0 : Nat))).setCell ⟨g, 5, none⟩ (.int .u8 (c.id.getD 1 0 : Nat))).setCell ⟨g, 6, none⟩ (.int .u8 (c.id.getD 2 0 : Nat))).setCell ⟨g, 7, none⟩ (.int .u8 (c.id.getD 3 0 : Nat))).setCell ⟨g, 8, none⟩ (.int .i64 (c.len : Nat))).setCell ⟨g, 9, none⟩ v).setCell ⟨g, 10, none⟩ (.int .i64 (c.en : Nat))) g 97 (fCs bv told op hand c v xv rd bad place form odd) := by
  have h0 : Blk w g 97 (gCs bv (.int .i64 told) (.bool op) (.bool hand) (.int .u8 (ck.id.getD 0 0 : Nat)) (.int .u8 (ck.id.getD 1 0 : Nat)) (.int .u8 (ck.id.getD 2 0 : Nat)) (.int .u8 (ck.id.getD 3 0 : Nat)) (.int .i64 (ck.len : Nat)) dv (.int .i64 (ck.en : Nat)) xv (.int .i64 rd) (.int .i64 bad) (.int .i64 place) (.int .u8 (form.getD 0 0 : Nat)) (.int .u8 (form.getD 1 0 : Nat)) (.int .u8 (form.getD 2 0 : Nat)) (.int .u8 (form.getD 3 0 : Nat)) (.bool odd)) := h
  exact gset10 (gset9 (gset8 (gset7 (gset6 (gset5 (gset4 h0 _) _) _) _) _) _) _
theorem updCk {S : List Nat} {w0 w : World} {g : Nat} (h : Upd S w0 w) (hg : g ∈ S) (a0 a1 a2 a3 a4 a5 a6 : Value) :
    Upd S w0 (((((((w.setCell ⟨g, 4, none⟩ a0).setCell ⟨g, 5, none⟩ a1).setCell ⟨g, 6, none⟩ a2).setCell ⟨g, 7, none⟩ a3).setCell ⟨g, 8, none⟩ a4).setCell ⟨g, 9, none⟩ a5).setCell ⟨g, 10, none⟩ a6) :=
  updg (updg (updg (updg (updg (updg (updg h hg _ _) hg _ _) hg _ _) hg _ _) hg _ _) hg _ _) hg _ _
theorem file_cells {w : World} {g : Nat} {bv dv xv : Value} {told rd bad place : Int} {op hand odd : Bool} {ck : Ck} {form : List Nat} (h : Blk w g 97 (fCs bv told op hand ck dv xv rd bad place form odd)) :
    ∃ x4 x5 x6 x7 x8 x9 x10, w.cell? ⟨g, 4, none⟩ = some x4 ∧ w.cell? ⟨g, 5, none⟩ = some x5 ∧ w.cell? ⟨g, 6, none⟩ = some x6 ∧ w.cell? ⟨g, 7, none⟩ = some x7 ∧ w.cell? ⟨g, 8, none⟩ = some x8 ∧ w.cell? ⟨g, 9, none⟩ = some x9 ∧ w.cell? ⟨g, 10, none⟩ = some x10 ∧
      w.frozen? ⟨g, 4, none⟩ = false ∧ w.frozen? ⟨g, 5, none⟩ = false ∧ w.frozen? ⟨g, 6, none⟩ = false ∧ w.frozen? ⟨g, 7, none⟩ = false ∧ w.frozen? ⟨g, 8, none⟩ = false ∧ w.frozen? ⟨g, 9, none⟩ = false ∧ w.frozen? ⟨g, 10, none⟩ = false :=
  ⟨_, _, _, _, _, _, _, h.cell 4, h.cell 5, h.cell 6, h.cell 7, h.cell 8, h.cell 9, h.cell 10, h.frozen 4, h.frozen 5, h.frozen 6, h.frozen 7, h.frozen 8, h.frozen 9, h.frozen 10⟩
set_option maxRecDepth 100000 in
set_option maxHeartbeats 8000000 in
theorem next_spec (g B nb : Nat) (f : SF) (dv : Value) (w : World) (hF : FAt w g B f dv) (hI : FInv nb f) (hnb : (nb : Int) ≤ 1073741824) (hBw : B ≤ w.heap.size) (hBg : B ≤ g) :
    Calls Tryd.prog 32 #[.pointer (some ⟨g, 0, none⟩)] w (NextPostS g B f dv w) := by
  obtain ⟨A, c, A2, c2, h1, h2, h3, h4, h5, h6, h7⟩ := hF.h
  have c13 := h1.cell 13
  replace c13 : _ = some (Value.int .i64 (f.bad : Nat)) := c13
  have hu0 := hide (Upd.refl [g] w)
  have hgg : g ∈ [g] := by simp
  by_cases hb : f.bad ≠ 0
  · have hq : ((f.bad : Int) == 0) = false := beq_false_of_ne (by omega)
    have e : sNext f = (f.bad, f) := by unfold sNext; rw [if_pos hb]
    have hfin : NextPostS g B f dv w (.returned (.int .i64 (f.bad : Nat))) w := ⟨by rw [e], hu0.out, dv, by rw [e]; exact hF, fun h => by rw [e] at h; exact absurd h hb⟩
    have hb' : ¬ f.bad = 0 := hb
    replace hfin := hide hfin
    clear hF h1 h2 h4 h5 h7 e
    go_enter Tryd.func32, Tryd.ntmps32
    go_wp2_with fail
    go_ret
    exact hfin.out
  · have hb0 : f.bad = 0 := by omega
    have hq : ((f.bad : Int) == 0) = true := by rw [hb0]; rfl
    have cP := pass_any g B nb f dv w hF hI hb0 hnb hBw hBg
    have hIp := hI.pass
    have e0 : sNext f = if (sPass f).bad ≠ 0 then ((sPass f).bad, sPass f) else sHead (sPass f) := by unfold sNext; rw [if_neg hb]
    have hmk : ∀ e w', e = .returned (.int .i64 ((sNext f).1 : Nat)) → Upd [g] w w' → (∃ dv', FAt w' g B (sNext f).2 dv' ∧ ((sNext f).1 = 0 → dv' = .slice none 0 0)) → NextPostS g B f dv w e w' := fun e w' h1 h2 h3 => ⟨h1, h2, h3⟩
    rw [e0] at hmk
    unfold PassPost at cP
    clear e0 hF h1 h2 h4 h5 h7 h3 h6
    replace hmk := hide hmk
    replace cP := hide cP
    generalize sPass f = p at *
    have hbc : c13 = c13 := rfl
    clear hbc
    rw [hb0] at c13
    replace hb0 := hide hb0
    clear hb hq
    go_enter Tryd.func32, Tryd.ntmps32
    go_wp2_with fail
    (with_reducible refine (cP.out).mono ?_)
    rintro e w1 ⟨rfl, hu1, hF1⟩
    clear cP c13
    obtain ⟨A, c, A2, c2, h1, h2, h3, h4, h5, h6, h7⟩ := hF1.h
    have hBw1 : B ≤ w1.heap.size := Nat.le_trans hBw hu1.size
    have d0 := h1.cell 0
    have d1 := h1.cell 1
    have d13 := h1.cell 13
    have z13 := h1.frozen 13
    replace d0 : _ = some (Value.slice A p.b.length c) := d0
    replace d1 : _ = some (Value.int .i64 (p.told : Nat)) := d1
    replace d13 : _ = some (Value.int .i64 (p.bad : Nat)) := d13
    replace hu1 := hide hu1
    by_cases hpb : p.bad ≠ 0
    · have hq : ((p.bad : Int) == 0) = false := beq_false_of_ne (by omega)
      have hq2 : ¬ p.bad = 0 := hpb
      have hfin := hide (hmk.out (.returned (.int .i64 (p.bad : Nat))) w1 (by rw [if_pos hpb]) hu1.out ⟨dv, by rw [if_pos hpb]; exact hF1, fun h => by rw [if_pos hpb] at h; exact absurd h hpb⟩)
      clear hF1 h1 h2 h4 h5 h7 hmk
      go_wp2_with fail
      go_ret
      exact hfin.out
    · have hpb0 : p.bad = 0 := by omega
      obtain ⟨q, o, rfl⟩ := h4 hpb0
      have hmk2 := hmk.out
      simp only [hpb0, ne_eq, not_true_eq_false, if_false] at hmk2
      clear hmk
      have htl := hIp.told
      have hbl := hIp.bl
      by_cases ht0 : p.told = 0
      · have hX := fset13 h1 1
        have hU := updg hu1.out hgg 13 (.int .i64 1)
        have e1 : sHead p = (1, p.fail 1) := by unfold sHead; rw [if_pos ht0]
        rw [e1] at hmk2
        have hfin := hide (hmk2 (.returned (.int .i64 (1 : Nat))) _ rfl hU ⟨dv, ⟨⟨_, c, A2, c2, hX, h2.upd ((Upd.refl [g] w1).setCell (p := ⟨g, 13, none⟩) (.inl hgg) _) hBw1 (by simp; omega), h3, fun h => absurd h (by simp [SF.fail]), h5.upd ((Upd.refl [g] w1).setCell (p := ⟨g, 13, none⟩) (.inl hgg) _) hBw1 (by simp; omega), h6, h7⟩⟩, fun h => absurd h (by simp)⟩)
        rw [ht0] at d1
        rw [hpb0] at d13
        clear hF1 h1 h2 h4 h5 h7 hmk2 hX hU e1 hpb
        replace ht0 := hide ht0
        replace hpb0 := hide hpb0
        go_wp2_with fail
        go_ret
        exact hfin.out
      · have ht0q : ((p.told : Int) == 0) = false := beq_false_of_ne (by omega)
        have ht0' : ¬ p.told = 0 := ht0
        have htI : (p.told : Int) ≤ 4294967295 := by omega
        have hblI : (p.b.length : Int) ≤ (c : Int) := by omega
        rw [hpb0] at d13
        have herr : p.told < 8 ∨ p.b.length < 8 ∨ p.told - 8 < le4 (p.b.drop 4) → ∀ n wz, wz = (w1.drewN n).setCell ⟨g, 13, none⟩ (.int .i64 2) → NextPostS g B f dv w (.returned (.int .i64 2)) wz := fun hc n wz hz => by
          subst hz
          have e1 : sHead p = (2, p.fail 2) := by unfold sHead; rw [if_neg ht0, if_pos hc]
          rw [e1] at hmk2
          have hX := fset13 (Blk.drewN h1 n) 2
          have hU := updg (hu1.out.drewN n) hgg 13 (.int .i64 2)
          have hU1 := updg ((Upd.refl [g] w1).drewN n) hgg 13 (.int .i64 2)
          exact hmk2 (.returned (.int .i64 (2 : Nat))) _ rfl hU ⟨dv, ⟨⟨_, c, A2, c2, hX, h2.upd hU1 hBw1 (by simp; omega), h3, fun h => absurd h (by simp [SF.fail]), h5.upd hU1 hBw1 (by simp; omega), h6, h7⟩⟩, fun h => absurd h (by simp)⟩
        by_cases ht8 : p.told < 8
        · have ht8I : (p.told : Int) < 8 := by omega
          replace herr := hide (herr (.inl ht8))
          clear hF1 h1 h2 h4 h5 h7 hmk2 hpb
          replace hpb0 := hide hpb0
          go_wp2_with fail
          go_quiet (fail)
          go_wp2_with fail
          go_ret
          exact herr.out _ _ rfl
        · have ht8I : ¬ (p.told : Int) < 8 := by omega
          have hd8 : decide ((p.told : Int) < 8) = false := decide_eq_false ht8I
          by_cases hb8 : p.b.length < 8
          · have hb8I : (p.b.length : Int) < 8 := by omega
            have hdb : decide ((p.b.length : Int) < 8) = true := decide_eq_true hb8I
            replace herr := hide (herr (.inr (.inl hb8)))
            clear hF1 h1 h2 h4 h5 h7 hmk2 hpb
            replace hpb0 := hide hpb0
            go_wp2_with fail
            go_quiet (fail)
            go_wp2_with fail
            go_ret
            exact herr.out _ _ rfl
          · have hb8I : ¬ (p.b.length : Int) < 8 := by omega
            have hdb : decide ((p.b.length : Int) < 8) = false := decide_eq_false hb8I
            have s4 : (4 : Int) ≤ (p.b.length : Int) := by omega
            have s8 : (8 : Int) ≤ (p.b.length : Int) := by omega
            have t4 : (4 : Int) < (c : Int) := by omega
            have t8 : (8 : Int) ≤ (c : Int) := by omega
            have v4 : ¬ c = 4 := by omega
            have hr4 : Rd .u8 w1 B (some ⟨q, o + 4, none⟩) (ofNr (p.b.drop 4)) := rd_drop h2 (fun _ => rfl)
            have l4 : (p.b.drop 4).length = p.b.length - 4 := List.length_drop
            have cM := fun n => snum_any _ (c - 4) B (p.b.drop 4) (w1.drewN n) (by omega) (hr4.drewN n) (fun x hx => hIp.byt x (List.mem_of_mem_drop hx))
            have cN := fun (W : World) (u : Upd [g] w1 W) => snum_any _ (c - 4) B (p.b.drop 4) W (by omega) (hr4.upd u hBw1 (by simp; omega)) (fun x hx => hIp.byt x (List.mem_of_mem_drop hx))
            have cF := fun (W : World) (u : Upd [g] w1 W) => sfour_any _ c B p.b W (by omega) (h2.upd u hBw1 (by simp; omega)) (Nat.le_trans hBw1 u.size)
            rw [l4] at cM cN
            unfold four at cF
            have hle := le4_lt (p.b.drop 4) (fun x hx => hIp.byt x (List.mem_of_mem_drop hx))
            obtain ⟨n, hn⟩ : ∃ n, n = le4 (p.b.drop 4) := ⟨_, rfl⟩
            rw [← hn] at hle cM cN herr
            have hok : ¬ p.told - 8 < n → ∀ (b0 b1 b2 b3 : Nat), p.b.getD 0 0 = b0 → p.b.getD 1 0 = b1 → p.b.getD 2 0 = b2 → p.b.getD 3 0 = b3 → ∀ (A' : Option Addr) (L C M : Nat) (tv : Int) (wz : World), Blk wz g 97 (fCs (.slice A' L C) tv true true ⟨[b0, b1, b2, b3], n, [], 2⟩ (.slice none 0 0) (.slice A' M C) 0 (0 : Nat) p.place p.form p.odd) → L = p.b.length - 8 → M = min n L → tv = (p.told : Int) - 8 → L ≤ C → (8 < p.b.length → A' = some ⟨q, o + 8, none⟩) → (∃ q o, A' = some ⟨q, o, none⟩) → Upd [g] w1 wz → NextPostS g B f dv w (.returned (.int .i64 0)) wz := by
              intro hc b0 b1 b2 b3 e0 e1 e2 e3 A' L C M tv wz hX hL hM ht hC hA hA2 hU
              have eh : sHead p = (0, ⟨p.b.drop 8, p.told - 8, true, true, ⟨p.b.take 4, n, [], 2⟩, (p.b.drop 8).take n, 0, p.bad, p.place, p.form, p.odd⟩) := by
                unfold sHead
                rw [if_neg ht0, ← hn, if_neg (by omega)]
              rw [eh] at hmk2
              have hRb := rd_drop (n := 8) (h2.upd hU hBw1 (by simp; omega)) hA
              subst hL hM ht
              refine hmk2 (.returned (.int .i64 (0 : Nat))) _ rfl (hu1.out.trans hU) ⟨.slice none 0 0, ⟨⟨A', C, A', C, ?_, hRb, ?_, fun _ => hA2, rd_take hRb, ?_, fun _ => hA2⟩⟩, fun _ => rfl⟩
              · refine hX.to rfl ?_
                have g0 : (p.b.take 4).getD 0 0 = b0 := by rw [← e0]; simp [List.getD_eq_getElem?_getD, List.getElem?_take]
                have g1 : (p.b.take 4).getD 1 0 = b1 := by rw [← e1]; simp [List.getD_eq_getElem?_getD, List.getElem?_take]
                have g2 : (p.b.take 4).getD 2 0 = b2 := by rw [← e2]; simp [List.getD_eq_getElem?_getD, List.getElem?_take]
                have g3 : (p.b.take 4).getD 3 0 = b3 := by rw [← e3]; simp [List.getD_eq_getElem?_getD, List.getElem?_take]
                have et : ((p.told - 8 : Nat) : Int) = (p.told : Int) - 8 := by omega
                simp only [List.length_drop, List.length_take, hpb0, et]
                unfold fCs
                rw [g0, g1, g2, g3]
                rfl
              · show (p.b.drop 8).length ≤ C
                rw [List.length_drop]; exact hC
              · show ((p.b.drop 8).take n).length ≤ C
                rw [List.length_take, List.length_drop]; omega
            clear hn
            have hleI : (n : Int) ≤ 4294967295 := by omega
            have hw0 : IntKind.i64.wrap ((p.told : Int) - 8) = (p.told : Int) - 8 := IntWalk.i64_in _ (by omega)
            replace cM := hide cM
            replace cN := hide cN
            replace cF := hide cF
            by_cases hng : p.told - 8 < n
            · have hngI : (p.told : Int) - 8 < (n : Int) := by omega
              replace herr := hide (herr (.inr (.inr hng)))
              clear hF1 h1 h2 h4 h5 h7 hmk2 hpb hok hr4 l4 cN cF
              replace hpb0 := hide hpb0
              go_wp2_with fail
              go_quiet ((go_at_call 38; first | (with_reducible exact quietB_after (cM.out _)) | (with_reducible exact quietB_first (cM.out _))))
              go_wp2_with fail
              go_ret
              exact herr.out _ _ rfl
            · have hngI : ¬ (p.told : Int) - 8 < (n : Int) := by omega
              replace hok := hok hng
              clear herr hmk2
              generalize p.b.getD 0 0 = b0 at *
              generalize p.b.getD 1 0 = b1 at *
              generalize p.b.getD 2 0 = b2 at *
              generalize p.b.getD 3 0 = b3 at *
              replace hok := hide (hok b0 b1 b2 b3 rfl rfl rfl rfl)
              clear hF1 h2 h4 h5 h7 hpb hr4 l4
              rw [hpb0] at h1
              replace hpb0 := hide hpb0
              replace h1 := hide h1
              go_wp2_with fail
              go_quiet ((go_at_call 38; first | (with_reducible exact quietB_after (cM.out _)) | (with_reducible exact quietB_first (cM.out _))))
              go_wp2_with fail
              have hu2 := hide ((Upd.refl [g] w1).drewN nq)
              have h2' := hide (Blk.drewN h1.out nq)
              have e0 : (w1.drewN nq).cell? ⟨g, 0, none⟩ = some (Value.slice (some ⟨q, o, none⟩) p.b.length c) := d0
              clear d0 d1 d13 z13 h1
              generalize w1.drewN nq = w2 at *
              have e0d : w2.drew.cell? ⟨g, 0, none⟩ = some (Value.slice (some ⟨q, o, none⟩) p.b.length c) := e0
              go_region_held3 (fun W => W.cell? ⟨g, 0, none⟩ = some (Value.slice (some ⟨q, o, none⟩) p.b.length c)) (first | with_reducible exact kN | with_reducible exact e0d | with_reducible exact kZ) (first
                | (go_at_call 38; first | (with_reducible refine (cN.out _ huN.out).mono ?_) | (with_reducible refine (cN.out _ hu2.out.drew).mono ?_)
                   rintro e wN ⟨rfl, nN, hwN⟩
                   have hbN : Hid (Blk wN g 97 (fCs (.slice (some ⟨q, o, none⟩) p.b.length c) (p.told : Nat) p.op p.hand p.ck dv (.slice A2 p.data.length c2) p.rd (0 : Nat) p.place p.form p.odd)) := hide (by rw [← hwN]; first | exact hbN.out.drewN nN | exact h2'.out.drew.drewN nN)
                   have huN : Hid (Upd [g] w1 wN) := hide (by rw [← hwN]; first | exact huN.out.drewN nN | exact hu2.out.drew.drewN nN)
                   have kN : wN.cell? ⟨g, 0, none⟩ = some (Value.slice (some ⟨q, o, none⟩) p.b.length c) := hbN.out.cell 0
                   obtain ⟨x4, x5, x6, x7, x8, x9, x10, a4, a5, a6, a7, a8, a9, a10, y4, y5, y6, y7, y8, y9, y10⟩ := file_cells hbN.out
                   have kZ : (World.setCell (World.setCell (World.setCell (World.setCell (World.setCell (World.setCell (World.setCell wN ⟨g, 4, none⟩ (.int .u8 (b0 : Nat))) ⟨g, 5, none⟩ (.int .u8 (b1 : Nat))) ⟨g, 6, none⟩ (.int .u8 (b2 : Nat))) ⟨g, 7, none⟩ (.int .u8 (b3 : Nat))) ⟨g, 8, none⟩ (.int .i64 (n : Nat))) ⟨g, 9, none⟩ (.slice none 0 0)) ⟨g, 10, none⟩ (.int .i64 2)).cell? ⟨g, 0, none⟩ = some (Value.slice (some ⟨q, o, none⟩) p.b.length c) := (fsetCk hbN.out ⟨[b0, b1, b2, b3], n, [], 2⟩ (.slice none 0 0)).cell 0
                   clear hwN)
                | (go_at_call 37; first | (with_reducible refine (cF.out _ huN.out).mono ?_) | (with_reducible refine (cF.out _ hu2.out.drew).mono ?_)
                   rintro e wN ⟨rfl, hwN⟩
                   have hbN : Hid (Blk wN g 97 (fCs (.slice (some ⟨q, o, none⟩) p.b.length c) (p.told : Nat) p.op p.hand p.ck dv (.slice A2 p.data.length c2) p.rd (0 : Nat) p.place p.form p.odd)) := hide (by first | exact hbN.out.upd hwN (by simp) | exact h2'.out.drew.upd hwN (by simp))
                   have huN : Hid (Upd [g] w1 wN) := hide (by first | exact huN.out.trans (hwN.wide (by simp)) | exact hu2.out.drew.trans (hwN.wide (by simp)))
                   have kN : wN.cell? ⟨g, 0, none⟩ = some (Value.slice (some ⟨q, o, none⟩) p.b.length c) := hbN.out.cell 0
                   obtain ⟨x4, x5, x6, x7, x8, x9, x10, a4, a5, a6, a7, a8, a9, a10, y4, y5, y6, y7, y8, y9, y10⟩ := file_cells hbN.out
                   have kZ : (World.setCell (World.setCell (World.setCell (World.setCell (World.setCell (World.setCell (World.setCell wN ⟨g, 4, none⟩ (.int .u8 (b0 : Nat))) ⟨g, 5, none⟩ (.int .u8 (b1 : Nat))) ⟨g, 6, none⟩ (.int .u8 (b2 : Nat))) ⟨g, 7, none⟩ (.int .u8 (b3 : Nat))) ⟨g, 8, none⟩ (.int .i64 (n : Nat))) ⟨g, 9, none⟩ (.slice none 0 0)) ⟨g, 10, none⟩ (.int .i64 2)).cell? ⟨g, 0, none⟩ = some (Value.slice (some ⟨q, o, none⟩) p.b.length c) := (fsetCk hbN.out ⟨[b0, b1, b2, b3], n, [], 2⟩ (.slice none 0 0)).cell 0
                   clear hwN))
              have hX2 := hide (fsetCk hbN.out ⟨[b0, b1, b2, b3], n, [], 2⟩ (.slice none 0 0))
              have hU2 := hide (updCk huN.out hgg (.int .u8 (b0 : Nat)) (.int .u8 (b1 : Nat)) (.int .u8 (b2 : Nat)) (.int .u8 (b3 : Nat)) (.int .i64 (n : Nat)) (.slice none 0 0) (.int .i64 2))
              clear hbN huN kN kZ a4 a5 a6 a7 a8 a9 a10 y4 y5 y6 y7 y8 y9 y10 hu2 h2' e0 e0d
              have m0 := hX2.out.cell 0
              have m1 := hX2.out.cell 1
              have m8 := hX2.out.cell 8
              have z0 := hX2.out.frozen 0
              have z1 := hX2.out.frozen 1
              have z2 := hX2.out.frozen 2
              have z3 := hX2.out.frozen 3
              have z11 := hX2.out.frozen 11
              have z12 := hX2.out.frozen 12
              have m2 := hX2.out.cell 2
              have m3 := hX2.out.cell 3
              have m11 := hX2.out.cell 11
              have m12 := hX2.out.cell 12
              simp only [List.getD_cons_zero, List.getD_cons_succ] at m0 m1 m8 z0 z1 z2 z3 z11 z12 m2 m3 m11 m12 hX2
              generalize (World.setCell (World.setCell (World.setCell (World.setCell (World.setCell (World.setCell (World.setCell wN ⟨g, 4, none⟩ (.int .u8 (b0 : Nat))) ⟨g, 5, none⟩ (.int .u8 (b1 : Nat))) ⟨g, 6, none⟩ (.int .u8 (b2 : Nat))) ⟨g, 7, none⟩ (.int .u8 (b3 : Nat))) ⟨g, 8, none⟩ (.int .i64 (n : Nat))) ⟨g, 9, none⟩ (.slice none 0 0)) ⟨g, 10, none⟩ (.int .i64 2)) = w3 at *
              replace m0 : w3.cell? _ = some (Value.slice (some ⟨q, o, none⟩) p.b.length c) := m0
              replace m1 : w3.cell? _ = some (Value.int .i64 (p.told : Nat)) := m1
              replace m8 : w3.cell? _ = some (Value.int .i64 (n : Nat)) := m8
              by_cases hc8 : c = 8
              · subst hc8
                go_wp2_with fail
                go_region
                have hX3 := hide (fset1 (fset0 hX2.out (.slice (some ⟨q, o, none⟩) 0 0)) ((p.told : Int) - 8))
                have hU3 := hide (updg (updg hU2.out hgg 0 (.slice (some ⟨q, o, none⟩) 0 0)) hgg 1 (.int .i64 ((p.told : Int) - 8)))
                have hX4 := hide (Blk.drew hX3.out)
                have hU4 := hide (Upd.drew hU3.out)
                clear m0 m1 m8 z0 z1 z2 z3 z11 z12 m2 m3 m11 m12 hX2 hU2 hX3 hU3
                generalize (World.drew (World.setCell (World.setCell w3 ⟨g, 0, none⟩ (.slice (some ⟨q, o, none⟩) 0 0)) ⟨g, 1, none⟩ (.int .i64 ((p.told : Int) - 8)))) = w4 at *
                have m0 : w4.cell? ⟨g, 0, none⟩ = some (.slice (some ⟨q, o, none⟩) 0 0) := hX4.out.cell 0
                have m8 : w4.cell? ⟨g, 8, none⟩ = some (.int .i64 (n : Nat)) := hX4.out.cell 8
                obtain ⟨x2, m2⟩ : ∃ x, w4.cell? ⟨g, 2, none⟩ = some x := ⟨_, hX4.out.cell 2⟩
                obtain ⟨x3, m3⟩ : ∃ x, w4.cell? ⟨g, 3, none⟩ = some x := ⟨_, hX4.out.cell 3⟩
                obtain ⟨x11, m11⟩ : ∃ x, w4.cell? ⟨g, 11, none⟩ = some x := ⟨_, hX4.out.cell 11⟩
                obtain ⟨x12, m12⟩ : ∃ x, w4.cell? ⟨g, 12, none⟩ = some x := ⟨_, hX4.out.cell 12⟩
                have z2 := hX4.out.frozen 2
                have z3 := hX4.out.frozen 3
                have z11 := hX4.out.frozen 11
                have z12 := hX4.out.frozen 12
                by_cases hnl : n = 0
                · subst hnl
                  go_wp2_with fail
                  go_region
                  go_wp2_with fail
                  go_ret
                  exact hok.out (some ⟨q, o, none⟩) 0 0 0 _ _ (Blk.drew (fset3 (fset2 (fset12 (fset11 hX4.out (.slice (some ⟨q, o, none⟩) 0 0)) 0) true) true)) (by omega) (by omega) rfl (by omega) (fun h => by omega) ⟨_, _, rfl⟩ (Upd.drew (updg (updg (updg (updg hU4.out hgg 11 (.slice (some ⟨q, o, none⟩) 0 0)) hgg 12 (.int .i64 0)) hgg 2 (.bool true)) hgg 3 (.bool true)))
                · have hnl0 : ¬ (n : Int) ≤ 0 := by omega
                  have hnl1 : (0 : Int) < (n : Int) := by omega
                  go_wp2_with fail
                  go_region
                  go_wp2_with fail
                  go_ret
                  exact hok.out (some ⟨q, o, none⟩) 0 0 0 _ _ (Blk.drew (fset3 (fset2 (fset12 (fset11 hX4.out (.slice (some ⟨q, o, none⟩) 0 0)) 0) true) true)) (by omega) (by omega) rfl (by omega) (fun h => by omega) ⟨_, _, rfl⟩ (Upd.drew (updg (updg (updg (updg hU4.out hgg 11 (.slice (some ⟨q, o, none⟩) 0 0)) hgg 12 (.int .i64 0)) hgg 2 (.bool true)) hgg 3 (.bool true)))
              · have hc8I : (8 : Int) < (c : Int) := by omega
                go_wp2_with fail
                go_region
                have hX3 := hide (fset1 (fset0 hX2.out (.slice (some ⟨q, o + 8, none⟩) (p.b.length - 8) (c - 8))) ((p.told : Int) - 8))
                have hU3 := hide (updg (updg hU2.out hgg 0 (.slice (some ⟨q, o + 8, none⟩) (p.b.length - 8) (c - 8))) hgg 1 (.int .i64 ((p.told : Int) - 8)))
                have hX4 := hide (Blk.drew hX3.out)
                have hU4 := hide (Upd.drew hU3.out)
                clear m0 m1 m8 z0 z1 z2 z3 z11 z12 m2 m3 m11 m12 hX2 hU2 hX3 hU3
                generalize (World.drew (World.setCell (World.setCell w3 ⟨g, 0, none⟩ (.slice (some ⟨q, o + 8, none⟩) (p.b.length - 8) (c - 8))) ⟨g, 1, none⟩ (.int .i64 ((p.told : Int) - 8)))) = w4 at *
                have m0 : w4.cell? ⟨g, 0, none⟩ = some (.slice (some ⟨q, o + 8, none⟩) (p.b.length - 8) (c - 8)) := hX4.out.cell 0
                have m8 : w4.cell? ⟨g, 8, none⟩ = some (.int .i64 (n : Nat)) := hX4.out.cell 8
                obtain ⟨x2, m2⟩ : ∃ x, w4.cell? ⟨g, 2, none⟩ = some x := ⟨_, hX4.out.cell 2⟩
                obtain ⟨x3, m3⟩ : ∃ x, w4.cell? ⟨g, 3, none⟩ = some x := ⟨_, hX4.out.cell 3⟩
                obtain ⟨x11, m11⟩ : ∃ x, w4.cell? ⟨g, 11, none⟩ = some x := ⟨_, hX4.out.cell 11⟩
                obtain ⟨x12, m12⟩ : ∃ x, w4.cell? ⟨g, 12, none⟩ = some x := ⟨_, hX4.out.cell 12⟩
                have z2 := hX4.out.frozen 2
                have z3 := hX4.out.frozen 3
                have z11 := hX4.out.frozen 11
                have z12 := hX4.out.frozen 12
                obtain ⟨L, hL⟩ : ∃ L, L = p.b.length - 8 := ⟨_, rfl⟩
                obtain ⟨C, hC⟩ : ∃ C, C = c - 8 := ⟨_, rfl⟩
                rw [← hL, ← hC] at m0 hX4
                have hLC : (L : Int) ≤ (C : Int) := by omega
                replace hL := hide hL
                replace hC := hide hC
                by_cases hnl : n ≤ L
                · have hnlI : (n : Int) ≤ (L : Int) := by omega
                  have hnlC : (n : Int) ≤ (C : Int) := by omega
                  go_wp2_with fail
                  go_region
                  go_wp2_with fail
                  go_ret
                  exact hok.out (some ⟨q, o + 8, none⟩) L C n _ _ (Blk.drew (fset3 (fset2 (fset12 (fset11 hX4.out (.slice (some ⟨q, o + 8, none⟩) n C)) 0) true) true)) (hL.out) (by omega) rfl (by omega) (fun _ => rfl) ⟨_, _, rfl⟩ (Upd.drew (updg (updg (updg (updg hU4.out hgg 11 (.slice (some ⟨q, o + 8, none⟩) n C)) hgg 12 (.int .i64 0)) hgg 2 (.bool true)) hgg 3 (.bool true)))
                · have hnlI : (L : Int) < (n : Int) := by omega
                  have hnlJ : ¬ (n : Int) ≤ (L : Int) := by omega
                  go_wp2_with fail
                  go_region
                  go_wp2_with fail
                  go_ret
                  exact hok.out (some ⟨q, o + 8, none⟩) L C L _ _ (Blk.drew (fset3 (fset2 (fset12 (fset11 hX4.out (.slice (some ⟨q, o + 8, none⟩) L C)) 0) true) true)) (hL.out) (by omega) rfl (by omega) (fun _ => rfl) ⟨_, _, rfl⟩ (Upd.drew (updg (updg (updg (updg hU4.out hgg 11 (.slice (some ⟨q, o + 8, none⟩) L C)) hgg 12 (.int .i64 0)) hgg 2 (.bool true)) hgg 3 (.bool true)))
end Go.Proofs.YthkpoidnhgcjhaaDoor

namespace Go.Proofs.YthkpoidnhgcjhaaDoor
set_option linter.unusedSimpArgs false
set_option linter.unusedVariables false
open Go.RowKit Plain

def TakePostS (g B : Nat) (f : SF) (n : Int) (dv : Value) (w : World) (e : Ending) (w' : World) : Prop :=
  e = .returned (.tuple #[]) ∧ ∃ dv', Upd (g :: dv.ownBlock.toList) w w' ∧ FAt w' g B (sTake n f) dv' ∧ w'.ownsRow B 5 1 dv' (sTake n f).ck.data.length ((ofNr (sTake n f).ck.data).map (Value.int .u8)) ∧ (∀ k, dv'.ownBlock = some k → dv.ownBlock = some k ∨ w.heap.size ≤ k)
theorem fset10 {w : World} {g : Nat} {bv dv xv : Value} {told rd bad place : Int} {op hand odd : Bool} {id data : List Nat} {len en : Nat} {form : List Nat} (h : Blk w g 97 (fCs bv told op hand ⟨id, len, data, en⟩ dv xv rd bad place form odd)) (v : Nat) : Blk (w.setCell ⟨g, 10, none⟩ (.int .i64 (v : Int))) g 97 (fCs bv told op hand ⟨id, len, data, v⟩ dv xv rd bad place form odd) := (h.set_ 10 _).to rfl (fCs_set10 v).symm
theorem stake_close {g B m : Nat} {n : Int} {f : SF} {dv v' : Value} {w w6 wz : World} {full : Bool} (hF : FAt w g B f dv) (hh : f.hand = true) (hm : min n.toNat f.left.length = m) (hfull : full = decide (n.toNat ≤ f.left.length)) (hBw : B ≤ w.heap.size) (hBg : B ≤ g)
    (hown : w.ownsRow B 5 1 dv f.ck.data.length ((ofNr f.ck.data).map (Value.int .u8))) (hown6 : w6.ownsRow B 5 1 v' (f.ck.data.length + m) ((ofNr f.ck.data).map (Value.int .u8) ++ (ofNr (f.left.take m)).map (Value.int .u8))) (hg6' : w.drew.grownBy w6 dv.ownBlock) (hat : v'.ownBlock = dv.ownBlock ∨ v'.ownBlock = some w.heap.size)
    (hz : wz = if full then (w6.setCell ⟨g, 9, none⟩ v').setCell ⟨g, 12, none⟩ (.int .i64 ((f.rd : Int) + m)) else ((w6.setCell ⟨g, 9, none⟩ v').setCell ⟨g, 12, none⟩ (.int .i64 ((f.rd : Int) + m))).setCell ⟨g, 10, none⟩ (.int .i64 0)) :
    TakePostS g B f n dv w (.returned (.tuple #[])) wz := by
  have hg6 : w.grownBy w6 dv.ownBlock := ⟨hg6'.os, hg6'.tape, hg6'.output, hg6'.size, hg6'.block⟩
  have ut : f.left.take n.toNat = f.left.take m := by
    rw [← hm]
    rcases Nat.le_total n.toNat f.left.length with h | h
    · rw [Nat.min_eq_left h]
    · rw [Nat.min_eq_right h, List.take_of_length_le h, List.take_of_length_le (Nat.le_refl _)]
  obtain ⟨A, c, A2, c2, h1, h2, h3, h4, h5, h6, h7⟩ := hF.h
  have hce := own_ne hown h1 (by decide)
  have h1b := h1.grown hg6 hce
  have hne6 := own_ne hown6 h1b (by decide)
  have u6 : Upd (g :: dv.ownBlock.toList) w w6 := (Upd.refl _ w).grown hg6 (fun g' h => .inl (by rw [h]; simp))
  have hSB : ∀ s ∈ g :: dv.ownBlock.toList, B ≤ s := fun s hs => by
    rcases List.mem_cons.1 hs with h | h
    · omega
    · exact (hown.lt s (by simpa using h)).1
  have hgm : g ∈ g :: dv.ownBlock.toList := by simp
  have hat' : ∀ k, v'.ownBlock = some k → dv.ownBlock = some k ∨ w.heap.size ≤ k := fun k hk => by
    rcases hat with h | h
    · exact .inl (h ▸ hk)
    · rw [h] at hk
      injection hk with hk
      exact .inr (by omega)
  have hlen : (f.ck.data ++ f.left.take m).length = f.ck.data.length + m := by rw [List.length_append, List.length_take]; omega
  have hmap : (ofNr (f.ck.data ++ f.left.take m)).map (Value.int .u8) = (ofNr f.ck.data).map (Value.int .u8) ++ (ofNr (f.left.take m)).map (Value.int .u8) := by simp [ofNr]
  have hrd : ((f.rd + m : Nat) : Int) = (f.rd : Int) + m := by omega
  unfold TakePostS sTake
  simp only [ut, hm]
  cases hfu : full with
  | true =>
    rw [hfu, if_pos rfl] at hz
    rw [hfu] at hfull
    have hle : ¬ f.left.length < n.toNat := by have := of_decide_eq_true hfull.symm; omega
    rw [if_neg hle]
    subst hz
    have hX := fset12 (fset9 h1b v') ((f.rd : Int) + m)
    have hU := updg (updg u6 hgm 9 v') hgm 12 (.int .i64 ((f.rd : Int) + m))
    refine ⟨by trivial, v', hU, ⟨⟨A, c, A2, c2, ?_, h2.upd hU hBw hSB, h3, h4, h5.upd hU hBw hSB, h6, h7⟩⟩, ?_, hat'⟩
    · simp only [hrd]
      exact hX
    · rw [hlen, hmap]
      exact own_set_far (own_set_far hown6 hne6 _) hne6 _
  | false =>
    rw [hfu, if_neg (by decide)] at hz
    rw [hfu] at hfull
    have hle : f.left.length < n.toNat := by have := of_decide_eq_false hfull.symm; omega
    rw [if_pos hle]
    subst hz
    have hX := fset10 (id := f.ck.id) (len := f.ck.len) (data := f.ck.data) (en := f.ck.en) (fset12 (fset9 h1b v') ((f.rd : Int) + m)) 0
    have hU := updg (updg (updg u6 hgm 9 v') hgm 12 (.int .i64 ((f.rd : Int) + m))) hgm 10 (.int .i64 0)
    refine ⟨by trivial, v', hU, ⟨⟨A, c, A2, c2, ?_, h2.upd hU hBw hSB, h3, h4, h5.upd hU hBw hSB, h6, h7⟩⟩, ?_, hat'⟩
    · simp only [hrd]
      exact hX
    · rw [hlen, hmap]
      exact own_set_far (own_set_far (own_set_far hown6 hne6 _) hne6 _) hne6 _
set_option maxRecDepth 100000 in
set_option maxHeartbeats 8000000 in
theorem take_spec (g B nb : Nat) (f : SF) (n : Int) (dv : Value) (w : World) (hF : FAt w g B f dv) (hI : FInv nb f) (hh : f.hand = true) (hn : -9223372036854775808 ≤ n ∧ n ≤ 9223372036854775807) (hnb : (nb : Int) ≤ 1073741824) (hBw : B ≤ w.heap.size) (hBg : B ≤ g)
    (hown : w.ownsRow B 5 1 dv f.ck.data.length ((ofNr f.ck.data).map (Value.int .u8))) :
    Calls Tryd.prog 33 #[.pointer (some ⟨g, 0, none⟩), .int .i64 n] w (TakePostS g B f n dv w) := by
  obtain ⟨A, c, A2, c2, h1, h2, h3, h4, h5, h6, h7⟩ := hF.h
  obtain ⟨q, o, rfl⟩ := h7 hh
  have hgg : g ∈ [g] := by simp
  have hce := own_ne hown h1 (by decide)
  have hrd := hI.rd
  have hdl := hI.dl
  have hcl := hI.hand hh
  have hll : f.left.length = f.data.length - f.rd := List.length_drop
  obtain ⟨m, hm⟩ : ∃ m, min n.toNat f.left.length = m := ⟨_, rfl⟩
  have hcl9 := fun (v' : Value) (w6 wz : World) (full : Bool) (hfull : full = decide (n.toNat ≤ f.left.length)) => stake_close (v' := v') (w6 := w6) (wz := wz) (n := n) hF hh hm hfull hBw hBg hown
  have hnews : ∀ (ad : Addr), (m ≠ 0 → ad = ⟨q, o + f.rd, none⟩) → ∀ j u, ((ofNr (f.left.take m)).map (Value.int .u8))[j]? = some u → w.drew.cell? (ad.add j) = some u := fun ad had j u hu => by
    obtain ⟨hj, rfl⟩ := nr_at hu
    rw [List.length_take] at hj
    rw [had (by omega), Addr.add_lit]
    obtain ⟨b', o', e, hb', hc'⟩ := h5.at_ (j := 0) (by rw [ofNr_len]; omega)
    cases e
    have e2 : (f.left.take m).getD j 0 = f.data.getD (f.rd + j) 0 := by
      unfold SF.left
      simp [List.getD_eq_getElem?_getD, List.getElem?_take, (by omega : j < m)]
    rw [e2, show o + f.rd + j = o + (f.rd + j) by omega]
    have := hc' (f.rd + j) (by rw [ofNr_len]; omega)
    rw [ofNr_get] at this
    exact this
  have hnl : ((ofNr (f.left.take m)).map (Value.int .u8)).length = m := by rw [List.length_map, ofNr_len, List.length_take]; omega
  have hn1 : ∀ u ∈ (ofNr (f.left.take m)).map (Value.int .u8), u.oneCell' = true := fun u hu => by
    obtain ⟨x, _, rfl⟩ := List.mem_map.1 hu
    rfl
  obtain ⟨av, hav⟩ : ∃ av : Nat, (f.data.length : Int) - (f.rd : Int) = (av : Int) := ⟨f.data.length - f.rd, by omega⟩
  have havI : (av : Int) ≤ 1073741824 := by omega
  have hw0 : IntKind.i64.wrap (av : Int) = (av : Int) := IntWalk.i64_in _ (by omega)
  have hmI : (m : Int) ≤ (av : Int) := by omega
  have hwr : IntKind.i64.wrap ((f.rd : Int) + (m : Int)) = (f.rd : Int) + (m : Int) := IntWalk.i64_in _ (by omega)
  have hs1 : (0 : Int) ≤ (f.rd : Int) := by omega
  have hlen9 : ((f.rd : Int) + (m : Int)).toNat - f.rd = m := by omega
  have hs2 : (f.rd : Int) ≤ (f.rd : Int) + (m : Int) := by omega
  have hs3 : (f.rd : Int) + (m : Int) ≤ (c2 : Int) := by omega
  have c9 : w.cell? ⟨g, 9, none⟩ = some dv := h1.cell 9
  have c11 : w.cell? ⟨g, 11, none⟩ = some (.slice (some ⟨q, o, none⟩) f.data.length c2) := h1.cell 11
  have c12 : w.cell? ⟨g, 12, none⟩ = some (.int .i64 (f.rd : Nat)) := h1.cell 12
  obtain ⟨x10, c10⟩ : ∃ x, w.cell? ⟨g, 10, none⟩ = some x := ⟨_, h1.cell 10⟩
  have hdec : (n < 0 ∧ m = 0 ∧ true = decide (n.toNat ≤ f.left.length)) ∨ (n = 0 ∧ m = 0 ∧ true = decide (n.toNat ≤ f.left.length)) ∨ (0 < n ∧ n = (m : Int) ∧ true = decide (n.toNat ≤ f.left.length)) ∨ (0 < n ∧ (av : Int) = (m : Int) ∧ (m : Int) < n ∧ false = decide (n.toNat ≤ f.left.length)) := by
    by_cases a1 : n < 0
    · exact .inl ⟨a1, by omega, (decide_eq_true (by omega)).symm⟩
    · by_cases a0 : n = 0
      · exact .inr (.inl ⟨a0, by omega, (decide_eq_true (by omega)).symm⟩)
      · by_cases a2 : n.toNat ≤ f.left.length
        · exact .inr (.inr (.inl ⟨by omega, by omega, (decide_eq_true a2).symm⟩))
        · exact .inr (.inr (.inr ⟨by omega, by omega, by omega, (decide_eq_false a2).symm⟩))
  have hown0 := hide hown
  have h1h := hide h1
  replace hcl9 := hide hcl9
  replace hnews := hide hnews
  replace hnl := hide hnl
  replace hn1 := hide hn1
  replace hm := hide hm
  replace hce := hide hce
  clear hF hI h2 h4 h5 h7 hown h1 hll
  obtain ⟨hn0, hn9⟩ := hn
  have hcI : (f.ck.data.length : Int) ≤ 1073741824 := by omega
  clear hcl
  have c9d : w.drew.cell? ⟨g, 9, none⟩ = some dv := c9
  have kV : w.drew.drew.cell? ⟨g, 11, none⟩ = some (.slice (some ⟨q, o, none⟩) f.data.length c2) ∧ w.drew.drew.cell? ⟨g, 12, none⟩ = some (.int .i64 (f.rd : Nat)) := ⟨c11, c12⟩
  go_enter Tryd.func33, Tryd.ntmps33
  go_upto_region 0 with fail
  go_cut [4] (fun v4 wc => v4 = .int .i64 (m : Nat) ∧ wc = w.drew)
  case first =>
    clear kV c9d
    rcases hdec with ⟨a1, hm0, hfu⟩ | ⟨a0, hm0, hfu⟩ | ⟨a1, a2, hfu⟩ | ⟨a1, a2, a3, hfu⟩
    · have a4 : ¬ (av : Int) < 0 := by omega
      have a5 : (0 : Int) ≤ (av : Int) := by omega
      replace hm0 := hide hm0
      replace hfu := hide hfu
      go_wp2_with fail
      go_region
      go_wp2_with fail
      go_meet
      exact ⟨by rw [hm0.out]; rfl, rfl⟩
    · have a4 : ¬ (av : Int) < 0 := by omega
      have a5 : (0 : Int) ≤ (av : Int) := by omega
      subst a0
      replace hm0 := hide hm0
      replace hfu := hide hfu
      go_wp2_with fail
      go_region
      go_wp2_with fail
      go_meet
      exact ⟨by rw [hm0.out]; rfl, rfl⟩
    · have a4 : ¬ n < 0 := by omega
      have a5 : n ≤ (av : Int) := by omega
      have a6 : ¬ (av : Int) < n := by omega
      replace a2 := hide a2
      replace hfu := hide hfu
      go_wp2_with fail
      go_region
      go_wp2_with fail
      go_meet
      exact ⟨by rw [← a2.out], rfl⟩
    · have a4 : ¬ n < 0 := by omega
      have a5 : ¬ n ≤ (av : Int) := by omega
      have a6 : (av : Int) < n := by omega
      replace a2 := hide a2
      replace hfu := hide hfu
      go_wp2_with fail
      go_region
      go_wp2_with fail
      go_meet
      exact ⟨by rw [a2.out], rfl⟩
  case rest =>
    obtain ⟨rfl, rfl⟩ := hcut
    have hadx : ∃ ad : Addr, (if c2 = f.rd then some (⟨q, o, none⟩ : Addr) else some ⟨q, o + f.rd, none⟩) = some ad ∧ (m ≠ 0 → ad = ⟨q, o + f.rd, none⟩) := by
      by_cases hrc : c2 = f.rd
      · exact ⟨⟨q, o, none⟩, by rw [if_pos hrc], fun h => absurd (by omega : m = 0) h⟩
      · exact ⟨⟨q, o + f.rd, none⟩, by rw [if_neg hrc], fun _ => rfl⟩
    obtain ⟨ad, had, hadm⟩ := hadx
    replace hadm := hide hadm
    go_upto_region 1 with fail
    go_cut [] from 18 to 42 (fun wc => ∃ (A' : Option Addr) (c' : Nat) (w6 : World), wc = w6.setCell ⟨g, 9, none⟩ (.slice A' (f.ck.data.length + m) c') ∧ w6.ownsRow B 5 1 (.slice A' (f.ck.data.length + m) c') (f.ck.data.length + m) ((ofNr f.ck.data).map (Value.int .u8) ++ (ofNr (f.left.take m)).map (Value.int .u8)) ∧ w.drew.grownBy w6 dv.ownBlock ∧ ((Value.slice A' (f.ck.data.length + m) c').ownBlock = dv.ownBlock ∨ (Value.slice A' (f.ck.data.length + m) c').ownBlock = some w.heap.size))
    case first =>
      clear hcl9 hdec
      go_wp2_with fail
      go_region_law (refine step_pushAt (.tmp 23) (.tmp 38) 25 B 5 (.int .u8 0) 1 Tryd.underlying25 info_u8s rfl dv f.ck.data.length ((ofNr f.ck.data).map (Value.int .u8)) ad m (c2 - f.rd) ((ofNr (f.left.take m)).map (Value.int .u8)) hnl.out hn1.out (by simp only [maxLen]; omega) (by omega) ?_; refine ⟨⟨rfl, rfl, rfl, hown0.out, rfl, hnews.out _ hadm.out, by exact hBw⟩, ?_⟩; intro v' w6 hown6 hg6 hat; obtain ⟨A', c', rfl, _, _⟩ := own_len hown6; have hg6b := Blk.grown (by exact h1h.out) (⟨hg6.os, hg6.tape, hg6.output, hg6.size, hg6.block⟩ : w.grownBy w6 dv.ownBlock) hce.out; have k9 : w6.cell? ⟨g, 9, none⟩ = some dv := hg6b.cell 9; have k12 : w6.cell? ⟨g, 12, none⟩ = some (.int .i64 (f.rd : Nat)) := hg6b.cell 12; have k9f := hg6b.frozen 9; replace hown6 := hide hown6; replace hg6 := hide hg6; replace hat := hide hat; clear hg6b)
      all_goals
        go_wp2_with fail
        go_meet
        exact ⟨_, _, _, rfl, hown6.out, ⟨hg6.out.os, hg6.out.tape, hg6.out.output, hg6.out.size, hg6.out.block⟩, hat.out⟩
    case rest =>
      obtain ⟨A', c', w6, rfl, hown6, hg6, hat⟩ := hcut
      have hg6b := Blk.grown (by exact h1h.out) (⟨hg6.os, hg6.tape, hg6.output, hg6.size, hg6.block⟩ : w.grownBy w6 dv.ownBlock) hce.out
      have hX := fset9 hg6b (.slice A' (f.ck.data.length + m) c')
      have k12 : (w6.setCell ⟨g, 9, none⟩ (.slice A' (f.ck.data.length + m) c')).cell? ⟨g, 12, none⟩ = some (.int .i64 (f.rd : Nat)) := hX.cell 12
      obtain ⟨x10', k10⟩ : ∃ x, (w6.setCell ⟨g, 9, none⟩ (.slice A' (f.ck.data.length + m) c')).cell? ⟨g, 10, none⟩ = some x := ⟨_, hX.cell 10⟩
      have k12f := hX.frozen 12
      have k10f := hX.frozen 10
      have hfin := fun wz full hfull hz => hcl9.out (.slice A' (f.ck.data.length + m) c') w6 wz full hfull hown6 hg6 hat hz
      replace hfin := hide hfin
      clear hX hg6b hown6 hg6 hat hcl9 c9d kV
      obtain ⟨w7, hw7⟩ : ∃ w7, w7 = w6.setCell ⟨g, 9, none⟩ (.slice A' (f.ck.data.length + m) c') := ⟨_, rfl⟩
      rw [← hw7] at k12 k10 k12f k10f hfin ⊢
      replace hw7 := hide hw7
      by_cases hlt : (m : Int) < n
      · have hfu : false = decide (n.toNat ≤ f.left.length) := (decide_eq_false (by have := hm.out; omega)).symm
        replace hfu := hide hfu
        clear hdec
        go_wp2_with fail
        exact bodyPost_ret (results_none rfl _ _ _) rfl (by exact hfin.out _ false hfu.out (by rfl))
      · have hfu : true = decide (n.toNat ≤ f.left.length) := (decide_eq_true (by have := hm.out; omega)).symm
        replace hfu := hide hfu
        clear hdec
        go_wp2_with fail
        exact bodyPost_ret (results_none rfl _ _ _) rfl (by exact hfin.out _ true hfu.out (by rfl))
end Go.Proofs.YthkpoidnhgcjhaaDoor

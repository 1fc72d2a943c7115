/- The reference's files of chunks: 'pass', 'opened', 'listed'. -/
import Derived.Test.YthkpoidnhgcjhaaDoorRsA
namespace Go.Proofs.YthkpoidnhgcjhaaDoor
set_option linter.unusedSimpArgs false
set_option linter.unusedVariables false
open Go.RowKit Plain

theorem sPass_off {f : SF} (h : f.op = false) : sPass f = f := by unfold sPass; rw [if_pos h]
theorem sPass_short {f : SF} (h : f.op = true) (hs : f.b.length < f.ck.len) : sPass f = ⟨[], f.told, false, false, f.ck, f.data, f.rd, 2, f.place, f.form, f.odd⟩ := by unfold sPass; rw [if_neg (by simp [h]), if_pos hs]
theorem sPass_even {f : SF} (h : f.op = true) (hs : ¬ f.b.length < f.ck.len) (hq : f.ck.len % 2 = 0 ∨ f.told - f.ck.len = 0) : sPass f = ⟨f.b.drop f.ck.len, f.told - f.ck.len, false, false, f.ck, f.data, f.rd, f.bad, f.place, f.form, f.odd || decide (f.ck.len % 2 = 1 ∧ f.told - f.ck.len = 0)⟩ := by unfold sPass; rw [if_neg (by simp [h]), if_neg hs, if_pos hq]
theorem sPass_end {f : SF} (h : f.op = true) (hs : ¬ f.b.length < f.ck.len) (hq : ¬ (f.ck.len % 2 = 0 ∨ f.told - f.ck.len = 0)) (hl : f.b.length = f.ck.len) : sPass f = ⟨[], f.told - f.ck.len - 1, false, false, f.ck, f.data, f.rd, 2, f.place, f.form, f.odd⟩ := by unfold sPass; rw [if_neg (by simp [h]), if_neg hs, if_neg hq, if_pos hl]
theorem sPass_pad {f : SF} (h : f.op = true) (hs : ¬ f.b.length < f.ck.len) (hq : ¬ (f.ck.len % 2 = 0 ∨ f.told - f.ck.len = 0)) (hl : ¬ f.b.length = f.ck.len) : sPass f = ⟨f.b.drop (f.ck.len + 1), f.told - f.ck.len - 1, false, false, f.ck, f.data, f.rd, f.bad, f.place, f.form, f.odd⟩ := by unfold sPass; rw [if_neg (by simp [h]), if_neg hs, if_neg hq, if_neg hl]
/-- A file's cells, one by one. -/
theorem fCs_set0 {bv told op hand ck dv xv rd bad place form odd} (v : Value) : (fCs bv told op hand ck dv xv rd bad place form odd).setIfInBounds 0 v = fCs v told op hand ck dv xv rd bad place form odd := rfl
theorem fCs_set1 {bv told op hand ck dv xv rd bad place form odd} (v : Int) : (fCs bv told op hand ck dv xv rd bad place form odd).setIfInBounds 1 (.int .i64 v) = fCs bv v op hand ck dv xv rd bad place form odd := rfl
theorem fCs_set2 {bv told op hand ck dv xv rd bad place form odd} (v : Bool) : (fCs bv told op hand ck dv xv rd bad place form odd).setIfInBounds 2 (.bool v) = fCs bv told v hand ck dv xv rd bad place form odd := rfl
theorem fCs_set3 {bv told op hand ck dv xv rd bad place form odd} (v : Bool) : (fCs bv told op hand ck dv xv rd bad place form odd).setIfInBounds 3 (.bool v) = fCs bv told op v ck dv xv rd bad place form odd := rfl
theorem fCs_set9 {bv told op hand ck dv xv rd bad place form odd} (v : Value) : (fCs bv told op hand ck dv xv rd bad place form odd).setIfInBounds 9 v = fCs bv told op hand ck v xv rd bad place form odd := rfl
theorem fCs_set10 {bv told op hand dv xv rd bad place form odd} {i : List Nat} {n e : Nat} {d : List Nat} (v : Nat) : (fCs bv told op hand ⟨i, n, d, e⟩ dv xv rd bad place form odd).setIfInBounds 10 (.int .i64 (v : Int)) = fCs bv told op hand ⟨i, n, d, v⟩ dv xv rd bad place form odd := rfl
theorem fCs_set11 {bv told op hand ck dv xv rd bad place form odd} (v : Value) : (fCs bv told op hand ck dv xv rd bad place form odd).setIfInBounds 11 v = fCs bv told op hand ck dv v rd bad place form odd := rfl
theorem fCs_set12 {bv told op hand ck dv xv rd bad place form odd} (v : Int) : (fCs bv told op hand ck dv xv rd bad place form odd).setIfInBounds 12 (.int .i64 v) = fCs bv told op hand ck dv xv v bad place form odd := rfl
theorem fCs_set13 {bv told op hand ck dv xv rd bad place form odd} (v : Int) : (fCs bv told op hand ck dv xv rd bad place form odd).setIfInBounds 13 (.int .i64 v) = fCs bv told op hand ck dv xv rd v place form odd := rfl
theorem fCs_set14 {bv told op hand ck dv xv rd bad place form odd} (v : Int) : (fCs bv told op hand ck dv xv rd bad place form odd).setIfInBounds 14 (.int .i64 v) = fCs bv told op hand ck dv xv rd bad v form odd := rfl
theorem fCs_set19 {bv told op hand ck dv xv rd bad place form odd} (v : Bool) : (fCs bv told op hand ck dv xv rd bad place form odd).setIfInBounds 19 (.bool v) = fCs bv told op hand ck dv xv rd bad place form v := rfl
section
variable {w : World} {g : Nat} {bv dv xv : Value} {told rd bad place : Int} {op hand odd : Bool} {ck : Ck} {form : List Nat}
theorem fset0 (h : Blk w g 97 (fCs bv told op hand ck dv xv rd bad place form odd)) (v : Value) : Blk (w.setCell ⟨g, 0, none⟩ v) g 97 (fCs v told op hand ck dv xv rd bad place form odd) := (h.set_ 0 v).to rfl (fCs_set0 v).symm
theorem fset1 (h : Blk w g 97 (fCs bv told op hand ck dv xv rd bad place form odd)) (v : Int) : Blk (w.setCell ⟨g, 1, none⟩ (.int .i64 v)) g 97 (fCs bv v op hand ck dv xv rd bad place form odd) := (h.set_ 1 _).to rfl (fCs_set1 v).symm
theorem fset2 (h : Blk w g 97 (fCs bv told op hand ck dv xv rd bad place form odd)) (v : Bool) : Blk (w.setCell ⟨g, 2, none⟩ (.bool v)) g 97 (fCs bv told v hand ck dv xv rd bad place form odd) := (h.set_ 2 _).to rfl (fCs_set2 v).symm
theorem fset3 (h : Blk w g 97 (fCs bv told op hand ck dv xv rd bad place form odd)) (v : Bool) : Blk (w.setCell ⟨g, 3, none⟩ (.bool v)) g 97 (fCs bv told op v ck dv xv rd bad place form odd) := (h.set_ 3 _).to rfl (fCs_set3 v).symm
theorem fset9 (h : Blk w g 97 (fCs bv told op hand ck dv xv rd bad place form odd)) (v : Value) : Blk (w.setCell ⟨g, 9, none⟩ v) g 97 (fCs bv told op hand ck v xv rd bad place form odd) := (h.set_ 9 v).to rfl (fCs_set9 v).symm
theorem fset11 (h : Blk w g 97 (fCs bv told op hand ck dv xv rd bad place form odd)) (v : Value) : Blk (w.setCell ⟨g, 11, none⟩ v) g 97 (fCs bv told op hand ck dv v rd bad place form odd) := (h.set_ 11 v).to rfl (fCs_set11 v).symm
theorem fset12 (h : Blk w g 97 (fCs bv told op hand ck dv xv rd bad place form odd)) (v : Int) : Blk (w.setCell ⟨g, 12, none⟩ (.int .i64 v)) g 97 (fCs bv told op hand ck dv xv v bad place form odd) := (h.set_ 12 _).to rfl (fCs_set12 v).symm
theorem fset13 (h : Blk w g 97 (fCs bv told op hand ck dv xv rd bad place form odd)) (v : Int) : Blk (w.setCell ⟨g, 13, none⟩ (.int .i64 v)) g 97 (fCs bv told op hand ck dv xv rd v place form odd) := (h.set_ 13 _).to rfl (fCs_set13 v).symm
theorem fset14 (h : Blk w g 97 (fCs bv told op hand ck dv xv rd bad place form odd)) (v : Int) : Blk (w.setCell ⟨g, 14, none⟩ (.int .i64 v)) g 97 (fCs bv told op hand ck dv xv rd bad v form odd) := (h.set_ 14 _).to rfl (fCs_set14 v).symm
theorem fset19 (h : Blk w g 97 (fCs bv told op hand ck dv xv rd bad place form odd)) (v : Bool) : Blk (w.setCell ⟨g, 19, none⟩ (.bool v)) g 97 (fCs bv told op hand ck dv xv rd bad place form v) := (h.set_ 19 _).to rfl (fCs_set19 v).symm
theorem updg {S : List Nat} {w0 : World} (h : Upd S w0 w) (hg : g ∈ S) (i : Nat) (v : Value) : Upd S w0 (w.setCell ⟨g, i, none⟩ v) := h.setCell (p := ⟨g, i, none⟩) (.inl hg) v
end
def PassPost (g B : Nat) (f : SF) (dv : Value) (w : World) (e : Ending) (w' : World) : Prop := e = .returned (.tuple #[]) ∧ Upd [g] w w' ∧ FAt w' g B (sPass f) dv
theorem tmod2 (n : Nat) : (n : Int).tmod 2 = ((n % 2 : Nat) : Int) := by rw [Int.tmod_eq_emod_of_nonneg (by omega)]; omega
theorem pass_fin {g B c c2 q o n L C : Nat} {f : SF} {dv : Value} {w wz : World} {A A2 A' : Option Addr} {t : Int} {od : Bool} (h2 : Rd .u8 w B (some ⟨q, o, none⟩) (ofNr f.b)) (h5 : Rd .u8 w B A2 (ofNr f.data)) (h6 : f.data.length ≤ c2) (hBw : B ≤ w.heap.size) (hBg : B ≤ g)
    {p : SF} (hp : sPass f = p) (hpb : p.b = f.b.drop n) (hL : L = f.b.length - n) (ht : t = (p.told : Nat)) (hod : od = p.odd) (hph : p.hand = false) (hpo : p.op = false) (hpc : p.ck = f.ck) (hpd : p.data = f.data) (hpr : p.rd = f.rd) (hpp : p.place = f.place) (hpf : p.form = f.form)
    (hA : n < f.b.length → A' = some ⟨q, o + n, none⟩) (hA2 : ∃ q o, A' = some ⟨q, o, none⟩) (hC : L ≤ C) {bad : Int} (hb : bad = (p.bad : Nat))
    (hX : Blk wz g 97 (fCs (.slice A' L C) t false false f.ck dv (.slice A2 f.data.length c2) f.rd bad f.place f.form od)) (hU : Upd [g] w wz) : PassPost g B f dv w (.returned (.tuple #[])) wz := by
  refine ⟨rfl, hU, ?_⟩
  rw [hp]
  subst hL ht hod hb
  refine ⟨A', C, A2, c2, ?_, ?_, ?_, fun _ => hA2, ?_, ?_, fun h => by rw [hph] at h; cases h⟩
  · rw [hpb, hpo, hph, hpc, hpd, hpr, hpp, hpf, List.length_drop]
    exact hX
  · rw [hpb]
    exact rd_drop (h2.upd hU hBw (by simp; omega)) hA
  · rw [hpb, List.length_drop]; exact hC
  · rw [hpd]; exact h5.upd hU hBw (by simp; omega)
  · rw [hpd]; exact h6
set_option maxRecDepth 100000 in
set_option maxHeartbeats 8000000 in
theorem pass_any (g B nb : Nat) (f : SF) (dv : Value) (w : World) (hF : FAt w g B f dv) (hI : FInv nb f) (hbad : f.bad = 0) (hnb : (nb : Int) ≤ 1073741824) (hBw : B ≤ w.heap.size) (hBg : B ≤ g) :
    Calls Tryd.prog 39 #[.pointer (some ⟨g, 0, none⟩)] w (PassPost g B f dv w) := by
  obtain ⟨A, c, A2, c2, h1, h2, h3, h4, h5, h6, h7⟩ := hF.h
  obtain ⟨q, o, rfl⟩ := h4 hbad
  have hbl := hI.bl
  have htl := hI.told
  have hll := hI.len
  have hfit := hI.fit
  have hgg : g ∈ [g] := by simp
  have c0 := h1.cell 0
  have c1 := h1.cell 1
  have c2' := h1.cell 2
  have c3 := h1.cell 3
  have c8 := h1.cell 8
  have z0 := h1.frozen 0
  have z1 := h1.frozen 1
  have z2 := h1.frozen 2
  have z3 := h1.frozen 3
  have z13 := h1.frozen 13
  have c13 := h1.cell 13
  replace c0 : _ = some (Value.slice (some ⟨q, o, none⟩) f.b.length c) := c0
  replace c1 : _ = some (Value.int .i64 (f.told : Nat)) := c1
  replace c2' : _ = some (Value.bool f.op) := c2'
  replace c3 : _ = some (Value.bool f.hand) := c3
  replace c8 : _ = some (Value.int .i64 (f.ck.len : Nat)) := c8
  replace c13 : _ = some (Value.int .i64 (f.bad : Nat)) := c13
  have hu0 := hide (Upd.refl [g] w)
  have h1' := hide h1
  clear h1
  replace hF := hide hF
  replace hI := hide hI
  replace h2 := hide h2
  replace h5 := hide h5
  replace h4 := hide h4
  replace h7 := hide h7
  cases hop : f.op with
  | false =>
    rw [hop] at c2'
    have e := hide (sPass_off hop)
    replace hop := hide hop
    go_enter Tryd.func39, Tryd.ntmps39
    go_wp2_with fail
    exact bodyPost_ret (results_none rfl _ _ _) rfl ⟨rfl, hu0.out, by rw [e.out]; exact hF.out⟩
  | true =>
    rw [hop] at c2'
    have hft := hfit hop
    have hftI : (f.ck.len : Int) ≤ (f.told : Int) := by omega
    have htlI : (f.told : Int) ≤ 4294967295 := by omega
    have hllI : (f.ck.len : Int) ≤ 4294967295 := by omega
    have hblI : (f.b.length : Int) ≤ 1073741824 := by omega
    clear hfit
    by_cases hs : f.b.length < f.ck.len
    · have hsI : (f.b.length : Int) < (f.ck.len : Int) := by omega
      have e := hide (sPass_short hop hs)
      replace hop := hide hop
      go_enter Tryd.func39, Tryd.ntmps39
      go_wp2_with fail
      have hX := fset13 (fset0 (fset3 (fset2 h1'.out false) false) (.slice none 0 0)) 2
      have hU := updg (updg (updg (updg hu0.out hgg 2 (.bool false)) hgg 3 (.bool false)) hgg 0 (.slice none 0 0)) hgg 13 (.int .i64 2)
      refine bodyPost_ret (results_none rfl _ _ _) rfl ⟨rfl, hU, ?_⟩
      rw [e.out]
      exact ⟨⟨_, 0, A2, c2, hX, Rd.nil, Nat.le_refl _, fun h => absurd h (by simp), h5.out.upd hU hBw (by simp; omega), h6, fun h => absurd h (by simp)⟩⟩
    · have hsI : ¬ (f.b.length : Int) < (f.ck.len : Int) := by omega
      have hsI2 : (f.ck.len : Int) ≤ (f.b.length : Int) := by omega
      have hcI : (f.b.length : Int) ≤ (c : Int) := by omega
      have hlc : (f.ck.len : Int) ≤ (c : Int) := by omega
      have htm := tmod2 f.ck.len
      have hsub : ((f.told : Int) - (f.ck.len : Int)) = ((f.told - f.ck.len : Nat) : Int) := by omega
      have hw0 : IntKind.i64.wrap ((f.told : Int) - (f.ck.len : Int)) = (f.told : Int) - (f.ck.len : Int) := IntWalk.i64_in _ (by omega)
      replace hsub := hide hsub
      have e1 := fun hq => hide (sPass_even hop hs hq)
      have e2 := fun hq hl => hide (sPass_end hop hs hq hl)
      have e3 := fun hq hl => hide (sPass_pad hop hs hq hl)
      replace e1 := hide e1
      replace e2 := hide e2
      replace e3 := hide e3
      replace hop := hide hop
      replace htm := hide htm
      by_cases hcm : f.ck.len = c
      · obtain rfl : c = f.ck.len := hcm.symm
        have hbc := hide (show f.b.length = f.ck.len by omega)
        clear hcm
        go_enter Tryd.func39, Tryd.ntmps39
        go_upto_region 5 with fail
        go_region
        have hX5 := hide (Blk.drew (fset1 (fset0 (fset3 (fset2 h1'.out false) false) (Value.slice (some ⟨q, o, none⟩) 0 0)) ((f.told : Int) - (f.ck.len : Int))))
        have hU5 := hide (Upd.drew (updg (updg (updg (updg hu0.out hgg 2 (.bool false)) hgg 3 (.bool false)) hgg 0 (Value.slice (some ⟨q, o, none⟩) 0 0)) hgg 1 (.int .i64 ((f.told : Int) - (f.ck.len : Int)))))
        clear h1' c0 c1 c2' c3 c8 c13 z0 z1 z2 z3 z13 hu0
        generalize (World.drew (World.setCell (World.setCell (World.setCell (World.setCell w ⟨g, 2, none⟩ (.bool false)) ⟨g, 3, none⟩ (.bool false)) ⟨g, 0, none⟩ (Value.slice (some ⟨q, o, none⟩) 0 0)) ⟨g, 1, none⟩ (.int .i64 ((f.told : Int) - (f.ck.len : Int))))) = w5 at *
        have c0 := hX5.out.cell 0
        have c1 := hX5.out.cell 1
        have c19 := hX5.out.cell 19
        have c13 := hX5.out.cell 13
        have z0 := hX5.out.frozen 0
        have z1 := hX5.out.frozen 1
        have z13 := hX5.out.frozen 13
        have z19 := hX5.out.frozen 19
        replace c0 : _ = some (Value.slice (some ⟨q, o, none⟩) 0 0) := c0
        replace c1 : _ = some (Value.int .i64 ((f.told : Int) - (f.ck.len : Int))) := c1
        replace c19 : _ = some (Value.bool f.odd) := c19
        replace c13 : _ = some (Value.int .i64 (f.bad : Nat)) := c13
        by_cases hev : f.ck.len % 2 = 0
        · have htm2 : (f.ck.len : Int).tmod 2 = 0 := by rw [htm.out]; omega
          have e := hide ((e1.out (.inl hev)).out)
          have ho : f.odd = (f.odd || decide (f.ck.len % 2 = 1 ∧ f.told - f.ck.len = 0)) := by rw [show decide (f.ck.len % 2 = 1 ∧ f.told - f.ck.len = 0) = false from decide_eq_false (by omega), Bool.or_false]
          replace ho := hide ho
          have hX6 := hide (fset19 hX5.out f.odd)
          have hU6 := hide (updg hU5.out hgg 19 (.bool f.odd))
          cases hod : f.odd with
          | false =>
            rw [hod] at c19 hX6 hU6
            replace hod := hide hod
            go_wp2_with fail
            exact bodyPost_ret (results_none rfl _ _ _) rfl (pass_fin h2.out h5.out h6 hBw hBg (n := f.ck.len) (L := 0) (C := 0) (c := 0) (A := none) e.out (by rfl) (by omega) (by exact hsub.out) (by rw [← hod.out]; exact ho.out) rfl rfl rfl rfl rfl rfl rfl (fun h => by have := hbc.out; omega) ⟨_, _, rfl⟩ (by omega) rfl (hX6.out) (hU6.out))
          | true =>
            rw [hod] at c19 hX6 hU6
            replace hod := hide hod
            go_wp2_with fail
            exact bodyPost_ret (results_none rfl _ _ _) rfl (pass_fin h2.out h5.out h6 hBw hBg (n := f.ck.len) (L := 0) (C := 0) (c := 0) (A := none) e.out (by rfl) (by omega) (by exact hsub.out) (by rw [← hod.out]; exact ho.out) rfl rfl rfl rfl rfl rfl rfl (fun h => by have := hbc.out; omega) ⟨_, _, rfl⟩ (by omega) rfl (hX6.out) (hU6.out))
        · have htm2 : (f.ck.len : Int).tmod 2 = 1 := by rw [htm.out]; omega
          by_cases ht0 : f.told - f.ck.len = 0
          · have ht0I : (f.told : Int) - (f.ck.len : Int) = 0 := by omega
            have e := hide ((e1.out (.inr ht0)).out)
            have ho : true = (f.odd || decide (f.ck.len % 2 = 1 ∧ f.told - f.ck.len = 0)) := by rw [show decide (f.ck.len % 2 = 1 ∧ f.told - f.ck.len = 0) = true from decide_eq_true (by omega), Bool.or_true]
            replace ho := hide ho
            have hX6 := hide (fset19 hX5.out true)
            have hU6 := hide (updg hU5.out hgg 19 (.bool true))
            rw [ht0I] at c1
            cases hod : f.odd with
            | false =>
              rw [hod] at c19
              replace hod := hide hod
              go_wp2_with fail
              exact bodyPost_ret (results_none rfl _ _ _) rfl (pass_fin h2.out h5.out h6 hBw hBg (n := f.ck.len) (L := 0) (C := 0) (c := 0) (A := none) e.out (by rfl) (by omega) (by exact hsub.out) ho.out rfl rfl rfl rfl rfl rfl rfl (fun h => by have := hbc.out; omega) ⟨_, _, rfl⟩ (by omega) rfl (hX6.out) (hU6.out))
            | true =>
              rw [hod] at c19
              replace hod := hide hod
              go_wp2_with fail
              exact bodyPost_ret (results_none rfl _ _ _) rfl (pass_fin h2.out h5.out h6 hBw hBg (n := f.ck.len) (L := 0) (C := 0) (c := 0) (A := none) e.out (by rfl) (by omega) (by exact hsub.out) ho.out rfl rfl rfl rfl rfl rfl rfl (fun h => by have := hbc.out; omega) ⟨_, _, rfl⟩ (by omega) rfl (hX6.out) (hU6.out))
          · have ht0I : ¬ (f.told : Int) - (f.ck.len : Int) = 0 := by omega
            have ht0q : (((f.told : Int) - (f.ck.len : Int)) == 0) = false := beq_false_of_ne ht0I
            have hw1 : IntKind.i64.wrap ((f.told : Int) - (f.ck.len : Int) - 1) = (f.told : Int) - (f.ck.len : Int) - 1 := IntWalk.i64_in _ (by omega)
            have hX6 := hide (fset1 (fset19 hX5.out f.odd) ((f.told : Int) - (f.ck.len : Int) - 1))
            have hU6 := hide (updg (updg hU5.out hgg 19 (.bool f.odd)) hgg 1 (.int .i64 ((f.told : Int) - (f.ck.len : Int) - 1)))
            have hle := hbc.out
            have e := hide ((e2.out (by omega) hle).out)
            replace hle := hide hle
            have hX7 := hide (fset13 hX6.out 2)
            have hU7 := hide (updg hU6.out hgg 13 (.int .i64 2))
            cases hod : f.odd with
            | false =>
              rw [hod] at c19 hX7 hU7
              replace hod := hide hod
              go_wp2_with fail
              exact bodyPost_ret (results_none rfl _ _ _) rfl (pass_fin h2.out h5.out h6 hBw hBg (n := f.ck.len) (L := 0) (C := 0) (c := 0) (A := none) e.out (List.drop_eq_nil_of_le (by have := hle.out; omega)).symm (by have := hle.out; omega) (by show _ = ((f.told - f.ck.len - 1 : Nat) : Int); omega) hod.out.symm rfl rfl rfl rfl rfl rfl rfl (fun h => by have := hle.out; omega) ⟨_, _, rfl⟩ (by omega) rfl (hX7.out) (hU7.out))
            | true =>
              rw [hod] at c19 hX7 hU7
              replace hod := hide hod
              go_wp2_with fail
              exact bodyPost_ret (results_none rfl _ _ _) rfl (pass_fin h2.out h5.out h6 hBw hBg (n := f.ck.len) (L := 0) (C := 0) (c := 0) (A := none) e.out (List.drop_eq_nil_of_le (by have := hle.out; omega)).symm (by have := hle.out; omega) (by show _ = ((f.told - f.ck.len - 1 : Nat) : Int); omega) hod.out.symm rfl rfl rfl rfl rfl rfl rfl (fun h => by have := hle.out; omega) ⟨_, _, rfl⟩ (by omega) rfl (hX7.out) (hU7.out))
      · have hcm2 : (f.ck.len : Int) < (c : Int) := by omega
        go_enter Tryd.func39, Tryd.ntmps39
        go_upto_region 5 with fail
        go_region
        have hX5 := hide (Blk.drew (fset1 (fset0 (fset3 (fset2 h1'.out false) false) (Value.slice (some ⟨q, o + f.ck.len, none⟩) (f.b.length - f.ck.len) (c - f.ck.len))) ((f.told : Int) - (f.ck.len : Int))))
        have hU5 := hide (Upd.drew (updg (updg (updg (updg hu0.out hgg 2 (.bool false)) hgg 3 (.bool false)) hgg 0 (Value.slice (some ⟨q, o + f.ck.len, none⟩) (f.b.length - f.ck.len) (c - f.ck.len))) hgg 1 (.int .i64 ((f.told : Int) - (f.ck.len : Int)))))
        clear h1' c0 c1 c2' c3 c8 c13 z0 z1 z2 z3 z13 hu0
        generalize (World.drew (World.setCell (World.setCell (World.setCell (World.setCell w ⟨g, 2, none⟩ (.bool false)) ⟨g, 3, none⟩ (.bool false)) ⟨g, 0, none⟩ (Value.slice (some ⟨q, o + f.ck.len, none⟩) (f.b.length - f.ck.len) (c - f.ck.len))) ⟨g, 1, none⟩ (.int .i64 ((f.told : Int) - (f.ck.len : Int))))) = w5 at *
        have c0 := hX5.out.cell 0
        have c1 := hX5.out.cell 1
        have c19 := hX5.out.cell 19
        have c13 := hX5.out.cell 13
        have z0 := hX5.out.frozen 0
        have z1 := hX5.out.frozen 1
        have z13 := hX5.out.frozen 13
        have z19 := hX5.out.frozen 19
        replace c0 : _ = some (Value.slice (some ⟨q, o + f.ck.len, none⟩) (f.b.length - f.ck.len) (c - f.ck.len)) := c0
        replace c1 : _ = some (Value.int .i64 ((f.told : Int) - (f.ck.len : Int))) := c1
        replace c19 : _ = some (Value.bool f.odd) := c19
        replace c13 : _ = some (Value.int .i64 (f.bad : Nat)) := c13
        by_cases hev : f.ck.len % 2 = 0
        · have htm2 : (f.ck.len : Int).tmod 2 = 0 := by rw [htm.out]; omega
          have e := hide ((e1.out (.inl hev)).out)
          have ho : f.odd = (f.odd || decide (f.ck.len % 2 = 1 ∧ f.told - f.ck.len = 0)) := by rw [show decide (f.ck.len % 2 = 1 ∧ f.told - f.ck.len = 0) = false from decide_eq_false (by omega), Bool.or_false]
          replace ho := hide ho
          have hX6 := hide (fset19 hX5.out f.odd)
          have hU6 := hide (updg hU5.out hgg 19 (.bool f.odd))
          cases hod : f.odd with
          | false =>
            rw [hod] at c19 hX6 hU6
            replace hod := hide hod
            go_wp2_with fail
            exact bodyPost_ret (results_none rfl _ _ _) rfl (pass_fin h2.out h5.out h6 hBw hBg (n := f.ck.len) (L := (f.b.length - f.ck.len)) (C := (c - f.ck.len)) (c := 0) (A := none) e.out (by rfl) (by omega) (by exact hsub.out) (by rw [← hod.out]; exact ho.out) rfl rfl rfl rfl rfl rfl rfl (fun _ => rfl) ⟨_, _, rfl⟩ (by omega) rfl (hX6.out) (hU6.out))
          | true =>
            rw [hod] at c19 hX6 hU6
            replace hod := hide hod
            go_wp2_with fail
            exact bodyPost_ret (results_none rfl _ _ _) rfl (pass_fin h2.out h5.out h6 hBw hBg (n := f.ck.len) (L := (f.b.length - f.ck.len)) (C := (c - f.ck.len)) (c := 0) (A := none) e.out (by rfl) (by omega) (by exact hsub.out) (by rw [← hod.out]; exact ho.out) rfl rfl rfl rfl rfl rfl rfl (fun _ => rfl) ⟨_, _, rfl⟩ (by omega) rfl (hX6.out) (hU6.out))
        · have htm2 : (f.ck.len : Int).tmod 2 = 1 := by rw [htm.out]; omega
          by_cases ht0 : f.told - f.ck.len = 0
          · have ht0I : (f.told : Int) - (f.ck.len : Int) = 0 := by omega
            have e := hide ((e1.out (.inr ht0)).out)
            have ho : true = (f.odd || decide (f.ck.len % 2 = 1 ∧ f.told - f.ck.len = 0)) := by rw [show decide (f.ck.len % 2 = 1 ∧ f.told - f.ck.len = 0) = true from decide_eq_true (by omega), Bool.or_true]
            replace ho := hide ho
            have hX6 := hide (fset19 hX5.out true)
            have hU6 := hide (updg hU5.out hgg 19 (.bool true))
            rw [ht0I] at c1
            cases hod : f.odd with
            | false =>
              rw [hod] at c19
              replace hod := hide hod
              go_wp2_with fail
              exact bodyPost_ret (results_none rfl _ _ _) rfl (pass_fin h2.out h5.out h6 hBw hBg (n := f.ck.len) (L := (f.b.length - f.ck.len)) (C := (c - f.ck.len)) (c := 0) (A := none) e.out (by rfl) (by omega) (by exact hsub.out) ho.out rfl rfl rfl rfl rfl rfl rfl (fun _ => rfl) ⟨_, _, rfl⟩ (by omega) rfl (hX6.out) (hU6.out))
            | true =>
              rw [hod] at c19
              replace hod := hide hod
              go_wp2_with fail
              exact bodyPost_ret (results_none rfl _ _ _) rfl (pass_fin h2.out h5.out h6 hBw hBg (n := f.ck.len) (L := (f.b.length - f.ck.len)) (C := (c - f.ck.len)) (c := 0) (A := none) e.out (by rfl) (by omega) (by exact hsub.out) ho.out rfl rfl rfl rfl rfl rfl rfl (fun _ => rfl) ⟨_, _, rfl⟩ (by omega) rfl (hX6.out) (hU6.out))
          · have ht0I : ¬ (f.told : Int) - (f.ck.len : Int) = 0 := by omega
            have ht0q : (((f.told : Int) - (f.ck.len : Int)) == 0) = false := beq_false_of_ne ht0I
            have hw1 : IntKind.i64.wrap ((f.told : Int) - (f.ck.len : Int) - 1) = (f.told : Int) - (f.ck.len : Int) - 1 := IntWalk.i64_in _ (by omega)
            have hX6 := hide (fset1 (fset19 hX5.out f.odd) ((f.told : Int) - (f.ck.len : Int) - 1))
            have hU6 := hide (updg (updg hU5.out hgg 19 (.bool f.odd)) hgg 1 (.int .i64 ((f.told : Int) - (f.ck.len : Int) - 1)))
            by_cases hle : f.b.length = f.ck.len
            · have e := hide ((e2.out (by omega) hle).out)
              have hl0 : f.b.length - f.ck.len = 0 := by omega
              have hX7 := hide (fset13 hX6.out 2)
              have hU7 := hide (updg hU6.out hgg 13 (.int .i64 2))
              rw [hl0] at c0 hX7
              replace hle := hide hle
              replace hl0 := hide hl0
              cases hod : f.odd with
              | false =>
                rw [hod] at c19 hX7 hU7
                replace hod := hide hod
                go_wp2_with fail
                exact bodyPost_ret (results_none rfl _ _ _) rfl (pass_fin h2.out h5.out h6 hBw hBg (n := f.ck.len) (L := 0) (C := c - f.ck.len) (c := 0) (A := none) e.out (List.drop_eq_nil_of_le (by have := hle.out; omega)).symm (by have := hle.out; omega) (by show _ = ((f.told - f.ck.len - 1 : Nat) : Int); omega) hod.out.symm rfl rfl rfl rfl rfl rfl rfl (fun h => by have := hle.out; omega) ⟨_, _, rfl⟩ (by have := hle.out; omega) rfl (hX7.out) (hU7.out))
              | true =>
                rw [hod] at c19 hX7 hU7
                replace hod := hide hod
                go_wp2_with fail
                exact bodyPost_ret (results_none rfl _ _ _) rfl (pass_fin h2.out h5.out h6 hBw hBg (n := f.ck.len) (L := 0) (C := c - f.ck.len) (c := 0) (A := none) e.out (List.drop_eq_nil_of_le (by have := hle.out; omega)).symm (by have := hle.out; omega) (by show _ = ((f.told - f.ck.len - 1 : Nat) : Int); omega) hod.out.symm rfl rfl rfl rfl rfl rfl rfl (fun h => by have := hle.out; omega) ⟨_, _, rfl⟩ (by have := hle.out; omega) rfl (hX7.out) (hU7.out))
            · have e := hide ((e3.out (by omega) hle).out)
              obtain ⟨M, hM⟩ : ∃ M, M = f.b.length - f.ck.len := ⟨_, rfl⟩
              obtain ⟨N, hN⟩ : ∃ N, N = c - f.ck.len := ⟨_, rfl⟩
              rw [← hM, ← hN] at c0 hX6
              have hM1 : (1 : Int) ≤ (M : Int) := by omega
              have hMN : (M : Int) ≤ (N : Int) := by omega
              have hM0 : ((M : Int) == 0) = false := beq_false_of_ne (by omega)
              have hM0' : ¬ M = 0 := by omega
              replace hM := hide hM
              replace hN := hide hN
              by_cases hN1 : N = 1
              · subst hN1
                have hM2 : M = 1 := by omega
                subst hM2
                have hX7 := hide (fset0 hX6.out (Value.slice (some ⟨q, o + f.ck.len, none⟩) 0 0))
                have hU7 := hide (updg hU6.out hgg 0 (Value.slice (some ⟨q, o + f.ck.len, none⟩) 0 0))
                cases hod : f.odd with
                | false =>
                  rw [hod] at c19 hX7 hU7
                  replace hod := hide hod
                  go_wp2_with fail
                  exact bodyPost_ret (results_none rfl _ _ _) rfl (pass_fin h2.out h5.out h6 hBw hBg (n := f.ck.len + 1) (L := 0) (C := 0) (c := 0) (A := none) e.out rfl (by have := hM.out; omega) (by show _ = ((f.told - f.ck.len - 1 : Nat) : Int); omega) hod.out.symm rfl rfl rfl rfl rfl rfl rfl (fun h => by have := hM.out; omega) ⟨_, _, rfl⟩ (by omega) rfl (hX7.out) (hU7.out))
                | true =>
                  rw [hod] at c19 hX7 hU7
                  replace hod := hide hod
                  go_wp2_with fail
                  exact bodyPost_ret (results_none rfl _ _ _) rfl (pass_fin h2.out h5.out h6 hBw hBg (n := f.ck.len + 1) (L := 0) (C := 0) (c := 0) (A := none) e.out rfl (by have := hM.out; omega) (by show _ = ((f.told - f.ck.len - 1 : Nat) : Int); omega) hod.out.symm rfl rfl rfl rfl rfl rfl rfl (fun h => by have := hM.out; omega) ⟨_, _, rfl⟩ (by omega) rfl (hX7.out) (hU7.out))
              · have hN2 : (1 : Int) < (N : Int) := by omega
                have hX7 := hide (fset0 hX6.out (Value.slice (some ⟨q, o + f.ck.len + 1, none⟩) (M - 1) (N - 1)))
                have hU7 := hide (updg hU6.out hgg 0 (Value.slice (some ⟨q, o + f.ck.len + 1, none⟩) (M - 1) (N - 1)))
                cases hod : f.odd with
                | false =>
                  rw [hod] at c19 hX7 hU7
                  replace hod := hide hod
                  go_wp2_with fail
                  exact bodyPost_ret (results_none rfl _ _ _) rfl (pass_fin h2.out h5.out h6 hBw hBg (n := f.ck.len + 1) (L := M - 1) (C := N - 1) (c := 0) (A := none) e.out rfl (by have := hM.out; omega) (by show _ = ((f.told - f.ck.len - 1 : Nat) : Int); omega) hod.out.symm rfl rfl rfl rfl rfl rfl rfl (fun _ => rfl) ⟨_, _, rfl⟩ (by omega) rfl (hX7.out) (hU7.out))
                | true =>
                  rw [hod] at c19 hX7 hU7
                  replace hod := hide hod
                  go_wp2_with fail
                  exact bodyPost_ret (results_none rfl _ _ _) rfl (pass_fin h2.out h5.out h6 hBw hBg (n := f.ck.len + 1) (L := M - 1) (C := N - 1) (c := 0) (A := none) e.out rfl (by have := hM.out; omega) (by show _ = ((f.told - f.ck.len - 1 : Nat) : Int); omega) hod.out.symm rfl rfl rfl rfl rfl rfl rfl (fun _ => rfl) ⟨_, _, rfl⟩ (by omega) rfl (hX7.out) (hU7.out))
end Go.Proofs.YthkpoidnhgcjhaaDoor

namespace Go.Proofs.YthkpoidnhgcjhaaDoor
set_option linter.unusedSimpArgs false
set_option linter.unusedVariables false
open Go.RowKit Plain

theorem FAt.typed {w w' : World} {g B : Nat} {f : SF} {dv : Value} {ts : List TypeId} (h : FAt w g B f dv) (u : UpdT B ts w w') (ht : 97 ∉ ts) (hB : B ≤ w.heap.size) : FAt w' g B f dv := by
  obtain ⟨A, c, A2, c2, h1, h2, h3, h4, h5, h6, h7⟩ := h.h
  exact ⟨⟨A, c, A2, c2, u.typ _ _ _ h1 ht, u.rd hB h2, h3, h4, u.rd hB h5, h6, h7⟩⟩
theorem Files.typed {w w' : World} {B : Nat} {ts : List TypeId} (u : UpdT B ts w w') (ht : 97 ∉ ts) (hB : B ≤ w.heap.size) : ∀ {gs : List Nat} {fs : List SF}, Files w B gs fs → Files w' B gs fs
  | [], [], _ => trivial
  | g :: gs, f :: fs, h => ⟨by obtain ⟨dv, h1⟩ := h.1; exact ⟨dv, h1.typed u ht hB⟩, Files.typed u ht hB h.2⟩
  | [], _ :: _, h => absurd h (by simp [Files])
  | _ :: _, [], h => absurd h (by simp [Files])
theorem SOuts.typed {w w' : World} {B : Nat} {ts : List TypeId} (u : UpdT B ts w w') {base : Nat} {ov : Value} {out : List Ck} {V : Nat → Value} (h : SOuts w base ov out V) (t1 : 79 ∉ ts) (t2 : 5 ∉ ts) : SOuts w' base ov out V :=
  ⟨u.own h.row t1, fun i hi => u.own (h.data i hi) t2, h.apart⟩
theorem own_typ' {w : World} {base : Nat} {e : TypeId} {size n : Nat} {v : Value} {xs : List Value} (h : w.ownsRow base e size v n xs) (k : Nat) (hk : v.ownBlock = some k) : ∃ cs, Blk w k e cs := by
  rcases h.2 with ⟨rfl, _⟩ | ⟨g, cap, cur, rfl, _, hh, _⟩
  · cases hk
  · injection hk with hk
    subst hk
    exact ⟨cur, hh⟩
structure SX (w0 w : World) (B gf : Nat) (gs : List Nat) (dv : Value) (V : Nat → Value) (fb rb : Nat) (form z4 : Array Value) (f : SF) (ar : List SF) (out : List Ck) (kinds : List Int) (kv ov av : Value) : Prop where
  up : Upd [] w0 w
  hB0 : w0.heap.size = B
  kinds : w.ownsRow B 3 1 kv kinds.length (kinds.map (Value.int .i64))
  around : w.ownsRow B 93 1 av gs.length (pCs gs)
  files : Files w B gs ar
  nod : (gf :: gs).Nodup
  ge : ∀ g ∈ gf :: gs, B ≤ g
  f : FAt w gf B f dv
  outs : SOuts w B ov out V
  form : Blk w fb 22 form
  res : Blk w rb 22 z4
namespace SX
variable {w0 w w' : World} {B gf : Nat} {gs : List Nat} {dv : Value} {V : Nat → Value} {fb rb : Nat} {form z4 : Array Value} {f : SF} {ar : List SF} {out : List Ck} {kinds : List Int} {kv ov av : Value}
theorem bw (h : SX w0 w B gf gs dv V fb rb form z4 f ar out kinds kv ov av) : B ≤ w.heap.size := by have := h.up.size; have := h.hB0; omega
theorem typed (h : SX w0 w B gf gs dv V fb rb form z4 f ar out kinds kv ov av) {ts : List TypeId} (u : UpdT B ts w w')
    (ht : 3 ∉ ts ∧ 93 ∉ ts ∧ 97 ∉ ts ∧ 79 ∉ ts ∧ 5 ∉ ts ∧ 22 ∉ ts) : SX w0 w' B gf gs dv V fb rb form z4 f ar out kinds kv ov av := by
  obtain ⟨t1, t2, t3, t4, t5, t6⟩ := ht
  exact ⟨u.upd0 h.up h.hB0, h.hB0, u.own h.kinds t1, u.own h.around t2, h.files.typed u t3 h.bw, h.nod, h.ge, h.f.typed u t3 h.bw, h.outs.typed u t4 t5, u.typ _ _ _ h.form t6, u.typ _ _ _ h.res t6⟩
theorem alloc (h : SX w0 w B gf gs dv V fb rb form z4 f ar out kinds kv ov av) (o : Obj) : SX w0 (w.alloc o) B gf gs dv V fb rb form z4 f ar out kinds kv ov av := h.typed (ts := []) (((Upd.refl [] w).alloc o).typed0) (by simp)
theorem quiet (h : SX w0 w B gf gs dv V fb rb form z4 f ar out kinds kv ov av) (u : Upd [] w w') : SX w0 w' B gf gs dv V fb rb form z4 f ar out kinds kv ov av := h.typed (ts := []) u.typed0 (by simp)
theorem tell (h : SX w0 w B gf gs dv V fb rb form z4 f ar out kinds kv ov av) {kv' : Value} {x : Int} (ho : w'.ownsRow B 3 1 kv' (kinds.length + 1) (kinds.map (Value.int .i64) ++ [.int .i64 x])) (hg : w.grownBy w' kv.ownBlock) :
    SX w0 w' B gf gs dv V fb rb form z4 f ar out (kinds ++ [x]) kv' ov av := by
  have u := grown_typed h.kinds hg
  exact ⟨u.upd0 h.up h.hB0, h.hB0, by rw [List.length_append, List.map_append]; exact ho, u.own h.around (by decide), h.files.typed u (by decide) h.bw, h.nod, h.ge, h.f.typed u (by decide) h.bw, h.outs.typed u (by decide) (by decide), u.typ _ _ _ h.form (by decide), u.typ _ _ _ h.res (by decide)⟩
theorem gblk (h : SX w0 w B gf gs dv V fb rb form z4 f ar out kinds kv ov av) : ∃ cs, Blk w gf 97 cs := by
  obtain ⟨A, c, A2, c2, h1, _⟩ := h.f.h
  exact ⟨_, h1⟩
theorem turn (h : SX w0 w B gf gs dv V fb rb form z4 f ar out kinds kv ov av) {f' : SF} {dv' : Value} (u : Upd [gf] w w') (hF : FAt w' gf B f' dv') : SX w0 w' B gf gs dv' V fb rb form z4 f' ar out kinds kv ov av := by
  obtain ⟨cs, hb⟩ := h.gblk
  have hg0 : B ≤ gf := h.ge gf (by simp)
  have hS : ∀ s ∈ [gf], B ≤ s := by simp; exact hg0
  have uT : UpdT B [97] w w' := u.typed hS (fun k hk _ => by simp at hk; subst hk; exact ⟨_, _, hb, by simp⟩)
  have hn : gf ∉ gs := (List.nodup_cons.1 h.nod).1
  exact ⟨uT.upd0 h.up h.hB0, h.hB0, uT.own h.kinds (by decide), uT.own h.around (by decide), h.files.upd u h.bw hS (fun g hg hm => by simp at hm; subst hm; exact hn hg), h.nod, h.ge, hF, h.outs.typed uT (by decide) (by decide), uT.typ _ _ _ h.form (by decide), uT.typ _ _ _ h.res (by decide)⟩
theorem more (h : SX w0 w B gf gs dv V fb rb form z4 f ar out kinds kv ov av) {ov' : Value} {c : Ck} (hg : w.grownBy w' ov.ownBlock) (hd : c.data = []) (ho : w'.ownsRow B 79 7 ov' (out.length + 1) (ckCells V 0 out ++ ckC c (.slice none 0 0))) :
    SX w0 w' B gf gs dv (fun i => if i < out.length then V i else .slice none 0 0) fb rb form z4 f ar (out ++ [c]) kinds kv ov' av := by
  have u := grown_typed h.outs.row hg
  exact ⟨u.upd0 h.up h.hB0, h.hB0, u.own h.kinds (by decide), u.own h.around (by decide), h.files.typed u (by decide) h.bw, h.nod, h.ge, h.f.typed u (by decide) h.bw, h.outs.snoc hg hd ho, u.typ _ _ _ h.form (by decide), u.typ _ _ _ h.res (by decide)⟩
theorem took {pre : List Ck} {c c' : Ck} (h : SX w0 w B gf gs dv V fb rb form z4 f ar (pre ++ [c]) kinds kv ov av) {w1 w2 : World} {f' : SF} {dv' : Value} {g cap : Nat} {cs cs' : Array Value} (hdv : dv = V pre.length)
    (u : Upd (gf :: dv.ownBlock.toList) w w1) (hF : FAt w1 gf B f' dv') (hown : w1.ownsRow B 5 1 dv' c'.data.length ((ofNr c'.data).map (Value.int .u8))) (hn : ∀ k, dv'.ownBlock = some k → dv.ownBlock = some k ∨ w.heap.size ≤ k)
    (hov : ov = .slice (some ⟨g, 0, none⟩) (pre.length + 1) cap) (hb : B ≤ g) (hc : pre.length + 1 ≤ cap) (hm : cap ≤ maxLen) (hs : cs'.size = cap * 7) (ht : cs'.toList.take ((pre.length + 1) * 7) = ckCells V 0 pre ++ ckC c' dv') (hgb : Blk w g 79 cs) (u2 : Upd [g] w1 w2) (hg2 : Blk w2 g 79 cs') :
    SX w0 w2 B gf gs dv' (fun i => if i = pre.length then dv' else V i) fb rb form z4 f' ar (pre ++ [c']) kinds kv ov av := by
  obtain ⟨cs0, hb0⟩ := h.gblk
  have hg0 : B ≤ gf := h.ge gf (by simp)
  have hlen0 : (pre ++ [c]).length = pre.length + 1 := by simp
  have hdo := h.outs.data pre.length (by omega)
  have hdl : ∀ k, dv.ownBlock = some k → k < w.heap.size ∧ B ≤ k ∧ ∃ cs, Blk w k 5 cs := fun k hk => by
    rw [hdv] at hk
    obtain ⟨cs, hc⟩ := own_typ' hdo k hk
    exact ⟨(hdo.lt k hk).2, (hdo.lt k hk).1, cs, hc⟩
  have uT : UpdT B [97, 5] w w1 := u.typed (fun k hk => by
    rcases List.mem_cons.1 hk with h1 | h1
    · omega
    · exact (hdl k (by simpa using h1)).2.1) (fun k hk _ => by
    rcases List.mem_cons.1 hk with h1 | h1
    · subst h1; exact ⟨_, _, hb0, by simp⟩
    · obtain ⟨_, _, cs, hc⟩ := hdl k (by simpa using h1)
      exact ⟨_, _, hc, by simp⟩)
  have hgb1 := uT.typ _ _ _ hgb (by decide)
  have uT2 : UpdT B [79] w1 w2 := u2.typed (by simpa using hb) (fun k hk _ => by simp at hk; subst hk; exact ⟨_, _, hgb1, by simp⟩)
  have hB1 : B ≤ w1.heap.size := Nat.le_trans h.bw uT.size
  have uT3 : UpdT B [97, 5, 79] w w2 := (uT.more (by simp)).trans (uT2.more (by simp))
  have hnf : gf ∉ gs := (List.nodup_cons.1 h.nod).1
  have hSB : ∀ s ∈ gf :: dv.ownBlock.toList, B ≤ s := fun s hs => by
    rcases List.mem_cons.1 hs with h1 | h1
    · omega
    · exact (hdl s (by simpa using h1)).2.1
  have hfs : Files w1 B gs ar := h.files.upd u h.bw hSB (fun k hk hm => by
    rcases List.mem_cons.1 hm with h1 | h1
    · subst h1; exact hnf hk
    · obtain ⟨_, _, cs, hc⟩ := hdl k (by simpa using h1)
      obtain ⟨cs', hc'⟩ := h.files.blk k hk
      exact absurd (hc.typ_eq hc') (by decide))
  have hV1 : ∀ i, i < pre.length → w1.ownsRow B 5 1 (V i) (pre.getD i default).data.length ((ofNr (pre.getD i default).data).map (Value.int .u8)) := fun i hi => by
    have h1 := h.outs.data i (by omega)
    have e : (pre ++ [c]).getD i default = pre.getD i default := by simp [List.getD_eq_getElem?_getD, List.getElem?_append_left hi]
    rw [e] at h1
    refine u.own h1 (fun k hk hm => ?_)
    rcases List.mem_cons.1 hm with h2 | h2
    · subst h2
      exact own_ne h1 hb0 (by decide) hk
    · have h3 : dv.ownBlock = some k := by simpa using h2
      rcases h.outs.apart i pre.length (by omega) (by omega) (by omega) with h4 | h4
      · rw [h4] at hk; cases hk
      · rw [hdv] at h3
        exact h4 (hk.trans h3.symm)
  refine ⟨uT3.upd0 h.up h.hB0, h.hB0, uT3.own h.kinds (by decide), uT3.own h.around (by decide), hfs.typed uT2 (by decide) hB1, h.nod, h.ge, hF.typed uT2 (by decide) hB1, ?_, uT3.typ _ _ _ h.form (by decide), uT3.typ _ _ _ h.res (by decide)⟩
  rw [hov]
  exact SOuts.took h.outs hb hc hm hs ht (fun i hi => uT2.own (hV1 i hi) (by decide)) hg2 (uT2.own hown (by decide)) (fun k hk => by rw [← hdv]; exact hn k hk)
theorem sub (h : SX w0 w B gf gs dv V fb rb form z4 f ar out kinds kv ov av) {w1 w2 : World} {g : Nat} {f' : SF} {dv' av' : Value} (u : Upd [] w w1) (hgn : w.heap.size ≤ g) (hF : FAt w1 g B f' dv') (hg : w1.grownBy w2 av.ownBlock) (ho : w2.ownsRow B 93 1 av' (gs.length + 1) (pCs gs ++ [.pointer (some ⟨gf, 0, none⟩)])) :
    SX w0 w2 B g (gf :: gs) dv' V fb rb form z4 f' (f :: ar) out kinds kv ov av' := by
  have h1 := h.quiet u
  have u2 := grown_typed h1.around hg
  have hlt : ∀ k ∈ gf :: gs, k < w.heap.size := fun k hk => by
    rcases List.mem_cons.1 hk with h2 | h2
    · subst h2; exact h.f.lt
    · obtain ⟨cs, hc⟩ := h.files.blk k h2
      exact hc.lt
  refine ⟨u2.upd0 h1.up h1.hB0, h1.hB0, u2.own h1.kinds (by decide), ?_, ⟨⟨dv, h1.f.typed u2 (by decide) h1.bw⟩, h1.files.typed u2 (by decide) h1.bw⟩, ?_, ?_, hF.typed u2 (by decide) h1.bw, h1.outs.typed u2 (by decide) (by decide), u2.typ _ _ _ h1.form (by decide), u2.typ _ _ _ h1.res (by decide)⟩
  · rw [pCs_cons]; exact ho
  · refine List.nodup_cons.2 ⟨fun hm => ?_, h.nod⟩
    have := hlt g hm
    omega
  · intro k hk
    rcases List.mem_cons.1 hk with h2 | h2
    · have := h.bw; omega
    · exact h.ge k h2
theorem pop {g : Nat} {f1 : SF} {ar1 : List SF} {gs1 : List Nat} (h : SX w0 w B gf (g :: gs1) dv V fb rb form z4 f (f1 :: ar1) out kinds kv ov av) {av' : Value} (hav : (w.setCell ⟨g, 3, none⟩ (.bool false)).ownsRow B 93 1 av' gs1.length (pCs gs1)) :
    ∃ dv', SX w0 (w.setCell ⟨g, 3, none⟩ (.bool false)) B g gs1 dv' V fb rb form z4 f1.off ar1 out kinds kv ov av' := by
  obtain ⟨⟨dv', hF⟩, hfs⟩ := h.files
  have hg0 : B ≤ g := h.ge g (by simp)
  have hnd := (List.nodup_cons.1 h.nod).2
  have hng := (List.nodup_cons.1 hnd).1
  obtain ⟨A, c, A2, c2, h1, h2, h3, h4, h5, h6, h7⟩ := hF.h
  have u : Upd [g] w (w.setCell ⟨g, 3, none⟩ (.bool false)) := (Upd.refl [g] w).setCell (p := ⟨g, 3, none⟩) (.inl (by simp)) _
  have hS : ∀ s ∈ [g], B ≤ s := by simp; exact hg0
  have uT : UpdT B [97] w (w.setCell ⟨g, 3, none⟩ (.bool false)) := u.typed hS (fun k hk _ => by simp at hk; subst hk; exact ⟨_, _, h1, by simp⟩)
  refine ⟨dv', uT.upd0 h.up h.hB0, h.hB0, uT.own h.kinds (by decide), hav, hfs.upd u h.bw hS (fun k hk hm => by simp at hm; subst hm; exact hng hk), hnd, fun k hk => h.ge k (by simp at hk ⊢; exact .inr hk), ?_, h.outs.typed uT (by decide) (by decide), uT.typ _ _ _ h.form (by decide), uT.typ _ _ _ h.res (by decide)⟩
  exact ⟨⟨A, c, A2, c2, fset3 h1 false, h2.upd u h.bw hS, h3, h4, h5.upd u h.bw hS, h6, fun e => by cases e⟩⟩
end SX
structure SJ (nb k : Nat) (s : SS) : Prop where
  kl : s.kinds.length = k + 1
  ol : s.out.length ≤ k
  al : s.ar.length ≤ k
  f : FInv nb s.f
  ar : ∀ g ∈ s.ar, FInv nb g
  hand : s.f.hand = true → s.f.op = true ∧ s.f.bad = 0 ∧ ∃ pre, s.out = pre ++ [s.f.ck] ∧ s.f.place = pre.length
theorem next_ok {f : SF} (h : (sNext f).1 = 0) : (sNext f).2.op = true ∧ (sNext f).2.hand = true ∧ (sNext f).2.bad = 0 ∧ (sNext f).2.ck.data = [] := by
  unfold sNext at h ⊢
  by_cases hb : f.bad ≠ 0
  · rw [if_pos hb] at h; exact absurd h hb
  · rw [if_neg hb] at h ⊢
    by_cases hb2 : (sPass f).bad ≠ 0
    · rw [if_pos hb2] at h; exact absurd h hb2
    · rw [if_neg hb2] at h ⊢
      unfold sHead at h ⊢
      by_cases h0 : (sPass f).told = 0
      · rw [if_pos h0] at h; exact absurd h (by simp)
      · rw [if_neg h0] at h ⊢
        by_cases hc : (sPass f).told < 8 ∨ (sPass f).b.length < 8 ∨ (sPass f).told - 8 < le4 ((sPass f).b.drop 4)
        · rw [if_pos hc] at h; exact absurd h (by simp)
        · rw [if_neg hc]
          exact ⟨rfl, rfl, by simpa using hb2, rfl⟩
theorem FInv.at_ {nb : Nat} {f : SF} (h : FInv nb f) (n : Nat) : FInv nb (f.at_ n) := ⟨h.bl, h.byt, h.dl, h.dbyt, h.told, h.len, h.fit, h.bad, h.rd, h.hand⟩
theorem FInv.off {nb : Nat} {f : SF} (h : FInv nb f) : FInv nb f.off := ⟨h.bl, h.byt, h.dl, h.dbyt, h.told, h.len, h.fit, h.bad, h.rd, fun e => by cases e⟩
theorem SJ.step {nb k : Nat} {op n : Int} {s : SS} (h : SJ nb k s) : SJ nb (k + 1) (sStep op n s) := by
  obtain ⟨h1, h2, h3, h4, h5, h6⟩ := h
  unfold sStep
  by_cases a0 : op = 0
  · rw [if_pos a0]
    by_cases hz : (sNext s.f).1 = 0
    · rw [if_pos hz]
      obtain ⟨b1, b2, b3, b4⟩ := next_ok hz
      exact ⟨by simp [h1], by simp; omega, by show s.ar.length ≤ _; omega, h4.next.at_ _, h5, fun _ => ⟨b1, b3, s.out, rfl, rfl⟩⟩
    · rw [if_neg hz]
      have hh := next_hand hz (fun e => ⟨(h6 e).1, (h6 e).2.1⟩)
      exact ⟨by simp [h1], by show s.out.length ≤ _; omega, by show s.ar.length ≤ _; omega, h4.next, h5, fun e => by
        have e' : (sNext s.f).2.hand = true := e
        rw [hh] at e'; cases e'⟩
  · rw [if_neg a0]
    by_cases a1 : op = 1 ∧ s.f.hand = true
    · rw [if_pos a1]
      obtain ⟨b1, b2, pre, b3, b4⟩ := h6 a1.2
      refine ⟨by simp [h1], by simp; omega, by show s.ar.length ≤ _; omega, h4.take a1.2 n, h5, fun _ => ⟨b1, b2, pre, ?_, b4⟩⟩
      show s.out.set s.f.place (sTake n s.f).ck = pre ++ [(sTake n s.f).ck]
      rw [b3, b4, List.set_append_right _ _ (Nat.le_refl _), Nat.sub_self]
      rfl
    · rw [if_neg a1]
      by_cases a2 : op = 2 ∧ s.f.hand = true
      · rw [if_pos a2]
        by_cases hc : s.f.ck.len < 4 ∨ s.f.left.length < 4
        · rw [if_pos hc]
          exact ⟨by simp [h1], by show s.out.length ≤ _; omega, by show s.ar.length ≤ _; omega, h4, h5, h6⟩
        · rw [if_neg hc]
          exact ⟨by simp [h1], by show s.out.length ≤ _; omega, by simp; omega, h4.sub (by omega), fun g hg => by
            rcases List.mem_cons.1 hg with e | e
            · rw [e]; exact h4
            · exact h5 g e, fun e => absurd e (by simp [sSub])⟩
      · rw [if_neg a2]
        by_cases a3 : op = 3 ∧ s.ar ≠ []
        · rw [if_pos a3]
          obtain ⟨g, r, hgr⟩ : ∃ g r, s.ar = g :: r := by
            cases hx : s.ar with
            | nil => exact absurd hx a3.2
            | cons g r => exact ⟨g, r, rfl⟩
          rw [hgr]
          exact ⟨by simp [h1], by show s.out.length ≤ _; omega, by rw [hgr] at h3; simp at h3 ⊢; omega, (h5 g (by rw [hgr]; simp)).off, fun x hx => h5 x (by rw [hgr]; exact List.mem_cons_of_mem _ hx), fun e => absurd e (by simp [SF.off])⟩
        · rw [if_neg a3]
          exact ⟨by simp [h1], by show s.out.length ≤ _; omega, by show s.ar.length ≤ _; omega, h4, h5, h6⟩
theorem sRun_succ (steps : List (Int × Int)) (s : SS) (j : Nat) (op n : Int) (hj : j < steps.length) (h : steps.getD j (0, 0) = (op, n)) : sRun (steps.take (j + 1)) s = sStep op n (sRun (steps.take j) s) := by
  have e : steps[j] = (op, n) := by simpa [hj] using h
  unfold sRun
  rw [List.take_succ_eq_append_getElem hj, List.foldl_append, e]
  rfl
theorem sRun_inv (nb : Nat) (steps : List (Int × Int)) (s : SS) (h : SJ nb 0 s) : ∀ j, j ≤ steps.length → SJ nb j (sRun (steps.take j) s)
  | 0, _ => by simpa [sRun] using h
  | j + 1, hj => by
    rw [sRun_succ steps s j _ _ (by omega) rfl]
    exact (sRun_inv nb steps s h j (by omega)).step
end Go.Proofs.YthkpoidnhgcjhaaDoor

namespace Go.Proofs.YthkpoidnhgcjhaaDoor
set_option linter.unusedSimpArgs false
set_option linter.unusedVariables false
open Go.RowKit Plain

theorem arr4_cmp (a0 a1 a2 a3 b0 b1 b2 b3 : Int) (w : World) : (Op.equalIn 10000 22 (.agg #[.int .u8 a0, .int .u8 a1, .int .u8 a2, .int .u8 a3]) (.agg #[.int .u8 b0, .int .u8 b1, .int .u8 b2, .int .u8 b3])).run Tryd.prog w = .ok (decide (a0 = b0 ∧ a1 = b1 ∧ a2 = b2 ∧ a3 = b3)) w := by
  have px : ∀ i, i < 4 → (part 5 #[.int .u8 a0, .int .u8 a1, .int .u8 a2, .int .u8 a3] (i * 1)).run Tryd.prog w = .ok (.int .u8 ([a0, a1, a2, a3].getD i 0)) w := fun i hi => by
    rcases (by omega : i = 0 ∨ i = 1 ∨ i = 2 ∨ i = 3) with rfl | rfl | rfl | rfl <;> simp [part, isAgg, run_underlying Tryd.underlying5]
  have py : ∀ i, i < 4 → (part 5 #[.int .u8 b0, .int .u8 b1, .int .u8 b2, .int .u8 b3] (i * 1)).run Tryd.prog w = .ok (.int .u8 ([b0, b1, b2, b3].getD i 0)) w := fun i hi => by
    rcases (by omega : i = 0 ∨ i = 1 ∨ i = 2 ∨ i = 3) with rfl | rfl | rfl | rfl <;> simp [part, isAgg, run_underlying Tryd.underlying5]
  rw [show (10000 : Nat) = 9998 + 2 from rfl, Op.equalIn]
  simp only [Sem.run_bind, run_underlying Tryd.underlying22, Result.andThen_ok, size_b1, Std.Legacy.Range.forIn_eq_forIn_range', Std.Legacy.Range.size, Nat.sub_zero, Nat.add_sub_cancel, Nat.div_one]
  rw [show List.range' 0 4 1 = [0, 1, 2, 3] from rfl]
  by_cases h0 : a0 = b0
  · have e0 : (a0 == b0) = true := by simp [h0]
    by_cases h1 : a1 = b1
    · have e1 : (a1 == b1) = true := by simp [h1]
      by_cases h2 : a2 = b2
      · have e2 : (a2 == b2) = true := by simp [h2]
        by_cases h3 : a3 = b3
        · have e3 : (a3 == b3) = true := by simp [h3]
          rw [show decide (a0 = b0 ∧ a1 = b1 ∧ a2 = b2 ∧ a3 = b3) = true from decide_eq_true ⟨h0, h1, h2, h3⟩]
          simp only [List.forIn_cons, List.forIn_nil, Sem.run_bind, px 0 (by omega), px 1 (by omega), px 2 (by omega), px 3 (by omega), py 0 (by omega), py 1 (by omega), py 2 (by omega), py 3 (by omega), Result.andThen_ok, run_equalIn_int w 9998 5 .u8 .u8 _ _ Tryd.underlying5, List.getD_cons_zero, List.getD_cons_succ, Sem.run_pure, Bool.not_true, Bool.not_false, Bool.false_eq_true, if_false, if_true, e0, e1, e2, e3]
        · have e3 : (a3 == b3) = false := by simp [h3]
          rw [show decide (a0 = b0 ∧ a1 = b1 ∧ a2 = b2 ∧ a3 = b3) = false from decide_eq_false (fun h => h3 h.2.2.2)]
          simp only [List.forIn_cons, List.forIn_nil, Sem.run_bind, px 0 (by omega), px 1 (by omega), px 2 (by omega), px 3 (by omega), py 0 (by omega), py 1 (by omega), py 2 (by omega), py 3 (by omega), Result.andThen_ok, run_equalIn_int w 9998 5 .u8 .u8 _ _ Tryd.underlying5, List.getD_cons_zero, List.getD_cons_succ, Sem.run_pure, Bool.not_true, Bool.not_false, Bool.false_eq_true, if_false, if_true, e0, e1, e2, e3]
      · have e2 : (a2 == b2) = false := by simp [h2]
        rw [show decide (a0 = b0 ∧ a1 = b1 ∧ a2 = b2 ∧ a3 = b3) = false from decide_eq_false (fun h => h2 h.2.2.1)]
        simp only [List.forIn_cons, List.forIn_nil, Sem.run_bind, px 0 (by omega), px 1 (by omega), px 2 (by omega), px 3 (by omega), py 0 (by omega), py 1 (by omega), py 2 (by omega), py 3 (by omega), Result.andThen_ok, run_equalIn_int w 9998 5 .u8 .u8 _ _ Tryd.underlying5, List.getD_cons_zero, List.getD_cons_succ, Sem.run_pure, Bool.not_true, Bool.not_false, Bool.false_eq_true, if_false, if_true, e0, e1, e2]
    · have e1 : (a1 == b1) = false := by simp [h1]
      rw [show decide (a0 = b0 ∧ a1 = b1 ∧ a2 = b2 ∧ a3 = b3) = false from decide_eq_false (fun h => h1 h.2.1)]
      simp only [List.forIn_cons, List.forIn_nil, Sem.run_bind, px 0 (by omega), px 1 (by omega), px 2 (by omega), px 3 (by omega), py 0 (by omega), py 1 (by omega), py 2 (by omega), py 3 (by omega), Result.andThen_ok, run_equalIn_int w 9998 5 .u8 .u8 _ _ Tryd.underlying5, List.getD_cons_zero, List.getD_cons_succ, Sem.run_pure, Bool.not_true, Bool.not_false, Bool.false_eq_true, if_false, if_true, e0, e1]
  · have e0 : (a0 == b0) = false := by simp [h0]
    rw [show decide (a0 = b0 ∧ a1 = b1 ∧ a2 = b2 ∧ a3 = b3) = false from decide_eq_false (fun h => h0 h.1)]
    simp only [List.forIn_cons, List.forIn_nil, Sem.run_bind, px 0 (by omega), px 1 (by omega), px 2 (by omega), px 3 (by omega), py 0 (by omega), py 1 (by omega), py 2 (by omega), py 3 (by omega), Result.andThen_ok, run_equalIn_int w 9998 5 .u8 .u8 _ _ Tryd.underlying5, List.getD_cons_zero, List.getD_cons_succ, Sem.run_pure, Bool.not_true, Bool.not_false, Bool.false_eq_true, if_false, if_true, e0]
theorem arr4_neq2 (a0 a1 a2 a3 b0 b1 b2 b3 : Int) (w : World) : (binOp .neq 22 (.agg #[.int .u8 a0, .int .u8 a1, .int .u8 a2, .int .u8 a3]) (.agg #[.int .u8 b0, .int .u8 b1, .int .u8 b2, .int .u8 b3])).run Tryd.prog w = .ok (.bool (!decide (a0 = b0 ∧ a1 = b1 ∧ a2 = b2 ∧ a3 = b3))) w := by
  rw [run_neq_struct, arr4_cmp]
  rfl
def file0 (bv tv : Value) (f0 f1 f2 f3 : Value) : Array Value := #[bv, tv, .bool false, .bool false, .int .u8 0, .int .u8 0, .int .u8 0, .int .u8 0, .int .i64 0, .slice none 0 0, .int .i64 0, .slice none 0 0, .int .i64 0, .int .i64 0, .int .i64 0, f0, f1, f2, f3, .bool false]
def OpenPost (B : Nat) (bs : List Nat) (w : World) (e : Ending) (w' : World) : Prop :=
  Upd [] w w' ∧ ((¬ OkHead bs ∧ e = .returned (.tuple #[.pointer none, .bool false])) ∨ (OkHead bs ∧ ∃ g, w.heap.size ≤ g ∧ e = .returned (.tuple #[.pointer (some ⟨g, 0, none⟩), .bool true]) ∧ FAt w' g B (sStart bs).f (.slice none 0 0)))
def SubPost (B len : Nat) (bs : List Nat) (w : World) (e : Ending) (w' : World) : Prop :=
  Upd [] w w' ∧ ((len < 4 ∨ bs.length < 4) ∧ e = .returned (.tuple #[.pointer none, .bool false]) ∨ (¬ (len < 4 ∨ bs.length < 4) ∧ ∃ g, w.heap.size ≤ g ∧ e = .returned (.tuple #[.pointer (some ⟨g, 0, none⟩), .bool true]) ∧ FAt w' g B (sSub len bs) (.slice none 0 0)))
set_option maxRecDepth 100000 in
set_option maxHeartbeats 8000000 in
theorem listed_any (A : Option Addr) (c B len : Nat) (bs : List Nat) (w : World) (hr : Rd .u8 w B A (ofNr bs)) (hc : bs.length ≤ c) (hl : (bs.length : Int) ≤ 1073741824) (hlen : (len : Int) ≤ 4294967295) (hBw : B ≤ w.heap.size) :
    Calls Tryd.prog 34 #[.int .i64 (len : Nat), .slice A bs.length c] w (SubPost B len bs w) := by
  have hu0 := hide (Upd.refl [] w)
  by_cases h4 : len < 4
  · have h4I : (len : Int) < 4 := by omega
    go_enter Tryd.func34, Tryd.ntmps34
    go_wp2_with fail
    go_ret2
    exact ⟨hu0.out, .inl ⟨.inl h4, rfl⟩⟩
  · have h4I : ¬ (len : Int) < 4 := by omega
    by_cases h5 : bs.length < 4
    · have h5I : (bs.length : Int) < 4 := by omega
      go_enter Tryd.func34, Tryd.ntmps34
      go_wp2_with fail
      go_ret2
      exact ⟨hu0.out, .inl ⟨.inr h5, rfl⟩⟩
    · have h5I : ¬ (bs.length : Int) < 4 := by omega
      have h5J : (4 : Int) ≤ (bs.length : Int) := by omega
      have h5K : (bs.length : Int) ≤ (c : Int) := by omega
      have h5L : (4 : Int) ≤ (c : Int) := by omega
      have hw0 : IntKind.i64.wrap ((len : Int) - 4) = (len : Int) - 4 := IntWalk.i64_in _ (by omega)
      obtain ⟨b, o, rfl, hb, hcell⟩ := rd_cell hr (by omega)
      have cF := sfour_any _ c B bs w.drew (by omega) hr (by exact hBw)
      unfold four at cF
      replace cF := hide cF
      have hfin : ∀ (A' : Option Addr) (L C : Nat) (wz w1 : World), L = bs.length - 4 → L ≤ C → (4 < bs.length → A' = some ⟨b, o + 4, none⟩) → (∃ q o, A' = some ⟨q, o, none⟩) → Upd [] w w1 → wz = w1.alloc (.cells (file0 (.slice A' L C) (.int .i64 ((len : Int) - 4)) (.int .u8 (bs.getD 0 0 : Nat)) (.int .u8 (bs.getD 1 0 : Nat)) (.int .u8 (bs.getD 2 0 : Nat)) (.int .u8 (bs.getD 3 0 : Nat))) 97) → SubPost B len bs w (.returned (.tuple #[.pointer (some ⟨w1.heap.size, 0, none⟩), .bool true])) wz := by
        intro A' L C wz w1 hL hC hA hA2 hu hz
        subst hL hz
        have hu2 := hu.alloc (.cells (file0 (.slice A' (bs.length - 4) C) (.int .i64 ((len : Int) - 4)) (.int .u8 (bs.getD 0 0 : Nat)) (.int .u8 (bs.getD 1 0 : Nat)) (.int .u8 (bs.getD 2 0 : Nat)) (.int .u8 (bs.getD 3 0 : Nat))) 97)
        refine ⟨hu2, .inr ⟨by omega, w1.heap.size, hu.size, rfl, ⟨A', C, none, 0, ?_, ?_, ?_, fun _ => hA2, Rd.nil, Nat.le_refl _, fun h => absurd h (by simp [sSub])⟩⟩⟩
        · refine (Blk.new w1 97 _).to rfl ?_
          unfold sSub
          simp only [List.length_drop]
          have e : ((len - 4 : Nat) : Int) = (len : Int) - 4 := by omega
          rw [e]
          have g0 : (bs.take 4).getD 0 0 = bs.getD 0 0 := by simp [List.getD_eq_getElem?_getD, List.getElem?_take]
          have g1 : (bs.take 4).getD 1 0 = bs.getD 1 0 := by simp [List.getD_eq_getElem?_getD, List.getElem?_take]
          have g2 : (bs.take 4).getD 2 0 = bs.getD 2 0 := by simp [List.getD_eq_getElem?_getD, List.getElem?_take]
          have g3 : (bs.take 4).getD 3 0 = bs.getD 3 0 := by simp [List.getD_eq_getElem?_getD, List.getElem?_take]
          unfold fCs file0
          rw [g0, g1, g2, g3]
          rfl
        · exact rd_drop (hr.upd hu2 hBw (by simp)) hA
        · show (bs.drop 4).length ≤ C
          rw [List.length_drop]; exact hC
      replace hfin := hide hfin
      clear hcell hr
      generalize bs.getD 0 0 = b0 at *
      generalize bs.getD 1 0 = b1 at *
      generalize bs.getD 2 0 = b2 at *
      generalize bs.getD 3 0 = b3 at *
      by_cases hc4 : c = 4
      · subst hc4
        go_enter Tryd.func34, Tryd.ntmps34
        go_wp2_with fail
        go_region_held3 (fun _ => True) (trivial) (first | (go_at_call 37; (with_reducible refine (cF.out).mono ?_); rintro e w1 ⟨rfl, hu1⟩; replace hu1 := hide hu1))
        go_wp2_with fail
        go_ret2
        exact hfin.out (some ⟨b, o, none⟩) 0 0 _ w1 (by omega) (Nat.le_refl _) (fun h => by omega) ⟨_, _, rfl⟩ ((Upd.refl [] w).drew.trans hu1.out) rfl
      · have hc4I : (4 : Int) < (c : Int) := by omega
        go_enter Tryd.func34, Tryd.ntmps34
        go_wp2_with fail
        go_region_held3 (fun _ => True) (trivial) (first | (go_at_call 37; (with_reducible refine (cF.out).mono ?_); rintro e w1 ⟨rfl, hu1⟩; replace hu1 := hide hu1))
        go_wp2_with fail
        go_ret2
        exact hfin.out (some ⟨b, o + 4, none⟩) (bs.length - 4) (c - 4) _ w1 rfl (by omega) (fun h => rfl) ⟨_, _, rfl⟩ ((Upd.refl [] w).drew.trans hu1.out) rfl
set_option maxRecDepth 100000 in
set_option maxHeartbeats 8000000 in
theorem opened_any (A : Option Addr) (c B : Nat) (bs : List Nat) (w : World) (hr : Rd .u8 w B A (ofNr bs)) (hc : bs.length ≤ c) (hl : (bs.length : Int) ≤ 1073741824) (h8 : ∀ x ∈ bs, x ≤ 255) (hBw : B ≤ w.heap.size) :
    Calls Tryd.prog 31 #[.slice A bs.length c] w (OpenPost B bs w) := by
  have hu0 := hide (Upd.refl [] w)
  by_cases h12 : bs.length < 12
  · have h12I : (bs.length : Int) < 12 := by omega
    have hbad : ¬ OkHead bs := fun h => by have := h.1; omega
    replace hbad := hide hbad
    go_enter Tryd.func31, Tryd.ntmps31
    go_wp2_with fail
    go_ret2
    exact ⟨hu0.out, .inl ⟨hbad.out, rfl⟩⟩
  · have h12I : ¬ (bs.length : Int) < 12 := by omega
    have h12J : (12 : Int) ≤ (bs.length : Int) := by omega
    have h12K : (bs.length : Int) ≤ (c : Int) := by omega
    have h12L : (12 : Int) ≤ (c : Int) := by omega
    obtain ⟨b, o, rfl, hb, hcell⟩ := rd_cell hr (by omega)
    have cF := sfour_any _ c B bs w (by omega) hr hBw
    unfold four at cF
    replace cF := hide cF
    have hMag : Magic bs ↔ (bs.getD 0 0 : Int) = 82 ∧ (bs.getD 1 0 : Int) = 73 ∧ (bs.getD 2 0 : Int) = 70 ∧ (bs.getD 3 0 : Int) = 70 := by
      unfold Magic
      omega
    have hr4 : Rd .u8 w B (some ⟨b, o + 4, none⟩) (ofNr (bs.drop 4)) := rd_drop hr (fun _ => rfl)
    have hr8 : Rd .u8 w B (some ⟨b, o + 8, none⟩) (ofNr (bs.drop 8)) := rd_drop hr (fun _ => rfl)
    have l4 : (bs.drop 4).length = bs.length - 4 := List.length_drop
    have l8 : (bs.drop 8).length = bs.length - 8 := List.length_drop
    have hN := arr4_neq2 (bs.getD 0 0 : Nat) (bs.getD 1 0 : Nat) (bs.getD 2 0 : Nat) (bs.getD 3 0 : Nat) 82 73 70 70
    by_cases hm : Magic bs
    · rw [show decide ((bs.getD 0 0 : Int) = 82 ∧ (bs.getD 1 0 : Int) = 73 ∧ (bs.getD 2 0 : Int) = 70 ∧ (bs.getD 3 0 : Int) = 70) = true from decide_eq_true (hMag.1 hm)] at hN
      have cM := fun (W : World) (u : Upd [] w W) => snum_any _ (c - 4) B (bs.drop 4) W (by omega) (hr4.upd u hBw (by simp)) (fun x hx => h8 x (List.mem_of_mem_drop hx))
      rw [l4] at cM
      have hle := le4_lt (bs.drop 4) (fun x hx => h8 x (List.mem_of_mem_drop hx))
      obtain ⟨tl, htl⟩ : ∃ tl, tl = le4 (bs.drop 4) := ⟨_, rfl⟩
      rw [← htl] at hle cM
      replace cM := hide cM
      have hok : 4 ≤ tl → OkHead bs := fun h => ⟨by omega, hm, by rw [← htl]; exact h⟩
      have hst : (sStart bs).f = ⟨bs.drop 12, tl - 4, false, false, ck0, [], 0, 0, 0, (bs.drop 8).take 4, false⟩ := by rw [htl]; rfl
      have hbad : tl < 4 → ¬ OkHead bs := fun h h2 => by have := h2.2.2; rw [← htl] at this; omega
      clear htl
      have hleI : (tl : Int) ≤ 4294967295 := by omega
      by_cases h4 : tl < 4
      · replace hbad := hide (hbad h4)
        clear hok hst hle
        clear hcell hr hr4 hr8 h8 l4 l8 hMag
        generalize bs.getD 0 0 = b0 at *
        generalize bs.getD 1 0 = b1 at *
        generalize bs.getD 2 0 = b2 at *
        generalize bs.getD 3 0 = b3 at *
        have h4I : (tl : Int) < 4 := by omega
        go_enter Tryd.func31, Tryd.ntmps31
        go_wp2_with (first
          | (go_at_call 37; (with_reducible refine (cF.out).mono ?_); rintro e w1 ⟨rfl, hu1⟩; replace hu1 := hide hu1)
          | (go_at_call 38; (with_reducible refine (cM.out _ hu1.out).mono ?_); rintro e w2 ⟨rfl, n2, hw2⟩; have hu2 := hide (show Upd [] w w2 from by rw [← hw2]; exact hu1.out.drewN n2); clear hw2)
          | fail)
        go_ret2
        exact ⟨hu2.out, .inl ⟨hbad.out, rfl⟩⟩
      · replace hok := hok (by omega)
        clear hbad
        have cF8 := fun (W : World) (u : Upd [] w W) => sfour_any _ (c - 8) B (bs.drop 8) W (by omega) (hr8.upd u hBw (by simp)) (Nat.le_trans hBw u.size)
        rw [l8] at cF8
        unfold four at cF8
        have hfin : ∀ (A' : Option Addr) (L C : Nat) (wz w1 : World), L = bs.length - 12 → L ≤ C → (12 < bs.length → A' = some ⟨b, o + 12, none⟩) → (∃ q o, A' = some ⟨q, o, none⟩) → Upd [] w w1 → wz = w1.alloc (.cells (file0 (.slice A' L C) (.int .i64 ((tl : Int) - 4)) (.int .u8 ((bs.drop 8).getD 0 0 : Nat)) (.int .u8 ((bs.drop 8).getD 1 0 : Nat)) (.int .u8 ((bs.drop 8).getD 2 0 : Nat)) (.int .u8 ((bs.drop 8).getD 3 0 : Nat))) 97) → OpenPost B bs w (.returned (.tuple #[.pointer (some ⟨w1.heap.size, 0, none⟩), .bool true])) wz := by
          intro A' L C wz w1 hL hC hA hA2 hu hz
          subst hL hz
          have hu2 := hu.alloc (.cells (file0 (.slice A' (bs.length - 12) C) (.int .i64 ((tl : Int) - 4)) (.int .u8 ((bs.drop 8).getD 0 0 : Nat)) (.int .u8 ((bs.drop 8).getD 1 0 : Nat)) (.int .u8 ((bs.drop 8).getD 2 0 : Nat)) (.int .u8 ((bs.drop 8).getD 3 0 : Nat))) 97)
          refine ⟨hu2, .inr ⟨hok, w1.heap.size, hu.size, rfl, ?_⟩⟩
          rw [hst]
          refine ⟨A', C, none, 0, ?_, ?_, ?_, fun _ => hA2, Rd.nil, Nat.le_refl _, fun h => absurd h (by simp)⟩
          · refine (Blk.new w1 97 _).to rfl ?_
            simp only [List.length_drop]
            have e : ((tl - 4 : Nat) : Int) = (tl : Int) - 4 := by omega
            rw [e]
            have g0 : ((bs.drop 8).take 4).getD 0 0 = (bs.drop 8).getD 0 0 := by simp [List.getD_eq_getElem?_getD, List.getElem?_take]
            have g1 : ((bs.drop 8).take 4).getD 1 0 = (bs.drop 8).getD 1 0 := by simp [List.getD_eq_getElem?_getD, List.getElem?_take]
            have g2 : ((bs.drop 8).take 4).getD 2 0 = (bs.drop 8).getD 2 0 := by simp [List.getD_eq_getElem?_getD, List.getElem?_take]
            have g3 : ((bs.drop 8).take 4).getD 3 0 = (bs.drop 8).getD 3 0 := by simp [List.getD_eq_getElem?_getD, List.getElem?_take]
            unfold fCs file0
            rw [g0, g1, g2, g3]
            rfl
          · exact rd_drop (hr.upd hu2 hBw (by simp)) hA
          · show (bs.drop 12).length ≤ C
            rw [List.length_drop]; exact hC
        have hw0 : IntKind.i64.wrap ((tl : Int) - 4) = (tl : Int) - 4 := IntWalk.i64_in _ (by omega)
        have h4I : ¬ (tl : Int) < 4 := by omega
        have s4 : (4 : Int) ≤ (bs.length : Int) := by omega
        have s8 : (8 : Int) ≤ (bs.length : Int) := by omega
        have t4 : (4 : Int) < (c : Int) := by omega
        have t8 : (8 : Int) < (c : Int) := by omega
        have v4 : ¬ c = 4 := by omega
        have v8 : ¬ c = 8 := by omega
        replace hfin := hide hfin
        replace cF8 := hide cF8
        clear hcell hr hr4 hr8 h8 l4 l8 hMag hok hm hle h4 hst
        generalize bs.getD 0 0 = b0 at *
        generalize bs.getD 1 0 = b1 at *
        generalize bs.getD 2 0 = b2 at *
        generalize bs.getD 3 0 = b3 at *
        generalize (bs.drop 8).getD 0 0 = f0 at *
        generalize (bs.drop 8).getD 1 0 = f1 at *
        generalize (bs.drop 8).getD 2 0 = f2 at *
        generalize (bs.drop 8).getD 3 0 = f3 at *
        by_cases hc12 : c = 12
        · subst hc12
          go_enter Tryd.func31, Tryd.ntmps31
          go_wp2_with (first
          | (go_at_call 37; (with_reducible refine (cF.out).mono ?_); rintro e w1 ⟨rfl, hu1⟩; replace hu1 := hide hu1)
          | (go_at_call 38; (with_reducible refine (cM.out _ hu1.out).mono ?_); rintro e w2 ⟨rfl, n2, hw2⟩; have hu2 := hide (show Upd [] w w2 from by rw [← hw2]; exact hu1.out.drewN n2); clear hw2)
          | fail)
          go_region_held3 (fun _ => True) (trivial) (first
          | (go_at_call 38; first | (with_reducible refine (cM.out _ hu8.out).mono ?_) | (with_reducible refine (cM.out _ hu2.out.drew).mono ?_)
             rintro e w4 ⟨rfl, n4, hw4⟩; have hu4 : Hid (Upd [] w w4) := hide (by rw [← hw4]; first | exact hu8.out.drewN n4 | exact hu2.out.drew.drewN n4)
             clear hw4)
          | (go_at_call 37; first | (with_reducible refine (cF8.out _ hu4.out).mono ?_) | (with_reducible refine (cF8.out _ hu2.out.drew).mono ?_)
             rintro e w5 ⟨rfl, h5⟩; have hu8 : Hid (Upd [] w w5) := hide (by first | exact hu4.out.trans h5 | exact hu2.out.drew.trans h5)
             clear h5))
          all_goals
            go_wp2_with fail
            go_ret2
            first
              | exact hfin.out (some ⟨b, o, none⟩) 0 0 _ _ (by omega) (Nat.le_refl _) (fun h => by omega) ⟨_, _, rfl⟩ hu8.out rfl
              | exact hfin.out (some ⟨b, o, none⟩) 0 0 _ _ (by omega) (Nat.le_refl _) (fun h => by omega) ⟨_, _, rfl⟩ hu4.out rfl
        · have hc12I : (12 : Int) < (c : Int) := by omega
          go_enter Tryd.func31, Tryd.ntmps31
          go_wp2_with (first
          | (go_at_call 37; (with_reducible refine (cF.out).mono ?_); rintro e w1 ⟨rfl, hu1⟩; replace hu1 := hide hu1)
          | (go_at_call 38; (with_reducible refine (cM.out _ hu1.out).mono ?_); rintro e w2 ⟨rfl, n2, hw2⟩; have hu2 := hide (show Upd [] w w2 from by rw [← hw2]; exact hu1.out.drewN n2); clear hw2)
          | fail)
          go_region_held3 (fun _ => True) (trivial) (first
          | (go_at_call 38; first | (with_reducible refine (cM.out _ hu8.out).mono ?_) | (with_reducible refine (cM.out _ hu2.out.drew).mono ?_)
             rintro e w4 ⟨rfl, n4, hw4⟩; have hu4 : Hid (Upd [] w w4) := hide (by rw [← hw4]; first | exact hu8.out.drewN n4 | exact hu2.out.drew.drewN n4)
             clear hw4)
          | (go_at_call 37; first | (with_reducible refine (cF8.out _ hu4.out).mono ?_) | (with_reducible refine (cF8.out _ hu2.out.drew).mono ?_)
             rintro e w5 ⟨rfl, h5⟩; have hu8 : Hid (Upd [] w w5) := hide (by first | exact hu4.out.trans h5 | exact hu2.out.drew.trans h5)
             clear h5))
          all_goals
            go_wp2_with fail
            go_ret2
            first
              | exact hfin.out (some ⟨b, o + 12, none⟩) (bs.length - 12) (c - 12) _ _ rfl (by omega) (fun h => rfl) ⟨_, _, rfl⟩ hu8.out rfl
              | exact hfin.out (some ⟨b, o + 12, none⟩) (bs.length - 12) (c - 12) _ _ rfl (by omega) (fun h => rfl) ⟨_, _, rfl⟩ hu4.out rfl
    · rw [show decide ((bs.getD 0 0 : Int) = 82 ∧ (bs.getD 1 0 : Int) = 73 ∧ (bs.getD 2 0 : Int) = 70 ∧ (bs.getD 3 0 : Int) = 70) = false from decide_eq_false (fun h => hm (hMag.2 h))] at hN
      have hbad : ¬ OkHead bs := fun h => hm h.2.1
      replace hbad := hide hbad
      clear hcell hr hr4 hr8 h8 l4 l8 hMag hm
      generalize bs.getD 0 0 = b0 at *
      generalize bs.getD 1 0 = b1 at *
      generalize bs.getD 2 0 = b2 at *
      generalize bs.getD 3 0 = b3 at *
      go_enter Tryd.func31, Tryd.ntmps31
      go_wp2_with (first | (go_at_call 37; (with_reducible refine (cF.out).mono ?_); rintro e w1 ⟨rfl, hu1⟩; replace hu1 := hide hu1) | fail)
      go_ret2
      exact ⟨hu1.out, .inl ⟨hbad.out, rfl⟩⟩
end Go.Proofs.YthkpoidnhgcjhaaDoor

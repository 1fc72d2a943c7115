/- The simple filter over 16 lines: the walk of the reference. -/
import Derived.Test.YthbidebcljegjaaDoorFiltRow
import Derived.Test.YthbidebcljegjaaDoorFiltWalk
namespace Go.Proofs.YthbidebcljegjaaDoor
set_option linter.unusedSimpArgs false
set_option linter.unusedVariables false
open Go.RowKit

theorem info_u8f : (Tryd.prog.info? 5).map (fun i => (i.zero, i.size, i.bytes)) = some (some (Value.int .u8 0), 1, 1) := by kernel_rfl

theorem own_base {w : World} {base base' : Nat} {e : TypeId} {size : Nat} {v : Value} {n : Nat} {xs : List Value} (h : w.ownsRow base' e size v n xs) (hb : base ≤ base') : w.ownsRow base e size v n xs := by
  obtain ⟨h1, h2⟩ := h
  refine ⟨h1, ?_⟩
  rcases h2 with h2 | ⟨g, cap, cur, h3, h4, r⟩
  · exact .inl h2
  · exact .inr ⟨g, cap, cur, h3, Nat.le_trans hb h4, r⟩

/-- Eight cells, of which so many are laid. -/
def rowM (x2 x3 x4 x5 : Int) : Nat → Array Value
  | 0 => #[.int .i64 0, .int .i64 0, .int .i64 0, .int .i64 0, .int .i64 0, .int .i64 0, .int .i64 0, .int .i64 0]
  | 1 => #[.int .i64 0, .int .i64 0, .int .i64 x2, .int .i64 0, .int .i64 0, .int .i64 0, .int .i64 0, .int .i64 0]
  | 2 => #[.int .i64 0, .int .i64 0, .int .i64 x2, .int .i64 x3, .int .i64 0, .int .i64 0, .int .i64 0, .int .i64 0]
  | 3 => #[.int .i64 0, .int .i64 0, .int .i64 x2, .int .i64 x3, .int .i64 x4, .int .i64 0, .int .i64 0, .int .i64 0]
  | _ => row8 x2 x3 x4 x5

theorem blk_set8 {w : World} {g : Nat} {t : TypeId} {a0 a1 a2 a3 a4 a5 a6 a7 : Value} (h : Blk w g t #[a0, a1, a2, a3, a4, a5, a6, a7]) (b0 b1 b2 b3 b4 b5 b6 b7 : Value) :
    Blk ((((((((w.setCell ⟨g, 0, none⟩ b0).setCell ⟨g, 1, none⟩ b1).setCell ⟨g, 2, none⟩ b2).setCell ⟨g, 3, none⟩ b3).setCell ⟨g, 4, none⟩ b4).setCell ⟨g, 5, none⟩ b5).setCell ⟨g, 6, none⟩ b6).setCell ⟨g, 7, none⟩ b7) g t #[b0, b1, b2, b3, b4, b5, b6, b7] := by
  have h0 : Blk (w.setCell ⟨g, 0, none⟩ b0) g t #[b0, a1, a2, a3, a4, a5, a6, a7] := h.set_ 0 b0
  have h1 : Blk ((w.setCell ⟨g, 0, none⟩ b0).setCell ⟨g, 1, none⟩ b1) g t #[b0, b1, a2, a3, a4, a5, a6, a7] := h0.set_ 1 b1
  have h2 : Blk (((w.setCell ⟨g, 0, none⟩ b0).setCell ⟨g, 1, none⟩ b1).setCell ⟨g, 2, none⟩ b2) g t #[b0, b1, b2, a3, a4, a5, a6, a7] := h1.set_ 2 b2
  have h3 : Blk ((((w.setCell ⟨g, 0, none⟩ b0).setCell ⟨g, 1, none⟩ b1).setCell ⟨g, 2, none⟩ b2).setCell ⟨g, 3, none⟩ b3) g t #[b0, b1, b2, b3, a4, a5, a6, a7] := h2.set_ 3 b3
  have h4 : Blk (((((w.setCell ⟨g, 0, none⟩ b0).setCell ⟨g, 1, none⟩ b1).setCell ⟨g, 2, none⟩ b2).setCell ⟨g, 3, none⟩ b3).setCell ⟨g, 4, none⟩ b4) g t #[b0, b1, b2, b3, b4, a5, a6, a7] := h3.set_ 4 b4
  have h5 : Blk ((((((w.setCell ⟨g, 0, none⟩ b0).setCell ⟨g, 1, none⟩ b1).setCell ⟨g, 2, none⟩ b2).setCell ⟨g, 3, none⟩ b3).setCell ⟨g, 4, none⟩ b4).setCell ⟨g, 5, none⟩ b5) g t #[b0, b1, b2, b3, b4, b5, a6, a7] := h4.set_ 5 b5
  have h6 : Blk (((((((w.setCell ⟨g, 0, none⟩ b0).setCell ⟨g, 1, none⟩ b1).setCell ⟨g, 2, none⟩ b2).setCell ⟨g, 3, none⟩ b3).setCell ⟨g, 4, none⟩ b4).setCell ⟨g, 5, none⟩ b5).setCell ⟨g, 6, none⟩ b6) g t #[b0, b1, b2, b3, b4, b5, b6, a7] := h5.set_ 6 b6
  have h7 : Blk ((((((((w.setCell ⟨g, 0, none⟩ b0).setCell ⟨g, 1, none⟩ b1).setCell ⟨g, 2, none⟩ b2).setCell ⟨g, 3, none⟩ b3).setCell ⟨g, 4, none⟩ b4).setCell ⟨g, 5, none⟩ b5).setCell ⟨g, 6, none⟩ b6).setCell ⟨g, 7, none⟩ b7) g t #[b0, b1, b2, b3, b4, b5, b6, b7] := h6.set_ 7 b7
  exact h7
theorem upd_set8 {w w' : World} {g : Nat} {S : List Nat} (h : Upd S w w') (hg : g ∈ S) (b0 b1 b2 b3 b4 b5 b6 b7 : Value) :
    Upd S w ((((((((w'.setCell ⟨g, 0, none⟩ b0).setCell ⟨g, 1, none⟩ b1).setCell ⟨g, 2, none⟩ b2).setCell ⟨g, 3, none⟩ b3).setCell ⟨g, 4, none⟩ b4).setCell ⟨g, 5, none⟩ b5).setCell ⟨g, 6, none⟩ b6).setCell ⟨g, 7, none⟩ b7) :=
  (((((((h.setCell (.inl hg) b0).setCell (.inl hg) b1).setCell (.inl hg) b2).setCell (.inl hg) b3).setCell (.inl hg) b4).setCell (.inl hg) b5).setCell (.inl hg) b6).setCell (.inl hg) b7
theorem set_self (l : List Int) (i : Nat) : l.set i (l.getD i 0) = l := by
  rcases Nat.lt_or_ge i l.length with h | h
  · simp [h]
  · exact List.set_eq_of_length_le h
/-- The list, so many of its four places written. -/
def fourM (Q : List Int) (i2 i3 i4 i5 : Nat) (x2 y3 y4 x5 : Int) : Nat → List Int
  | 0 => Q
  | 1 => Q.set i2 x2
  | 2 => (Q.set i2 x2).set i3 y3
  | 3 => ((Q.set i2 x2).set i3 y3).set i4 y4
  | _ => (((Q.set i2 x2).set i3 y3).set i4 y4).set i5 x5

set_option maxRecDepth 100000 in
set_option maxHeartbeats 4000000 in
theorem over_any (A : Option Addr) (cap : Nat) (P : List Int) (lev c s st : Int) (w : World) (hB : Bytes P) (hF : Fits P.length c s st 16) (hlev : 0 ≤ lev ∧ lev ≤ 255) (hs : s ≠ 0)
    (hbd : -16384 ≤ c ∧ c ≤ 16384 ∧ -16384 ≤ s ∧ s ≤ 16384 ∧ -16384 ≤ st ∧ st ≤ 16384) (hnn : (P.length : Int) ≤ 16384) (hr : Rd .u8 w w.heap.size A P) :
    Calls Tryd.prog 42 #[.agg #[.int .i64 lev, .int .i64 0, .int .i64 0, .bool true, .bool false], .slice A P.length cap, .int .i64 16, .int .i64 2, .int .i64 c, .int .i64 st, .int .i64 s] w fun e w' =>
      ∃ g cap', e = .returned (.slice (some ⟨g, 0, none⟩) P.length cap') ∧ w.heap.size ≤ g ∧
      w'.ownsRow w.heap.size 5 1 (.slice (some ⟨g, 0, none⟩) P.length cap') P.length ((flines lev s st 16 P c).map (Value.int .u8)) ∧ Below w.heap.size w w' := by
  obtain ⟨i0, hi, hz, hz1, hz2⟩ := info_parts info_u8f
  have hpos : 0 < P.length := by have := hF 0 (by decide); omega
  obtain ⟨b, off, rfl, hb, hc⟩ := hr.at_ hpos
  have hnews : ∀ (cs : Array Value) (t : TypeId) j u, (P.map (Value.int .u8))[j]? = some u → (w.alloc (.cells cs t)).cell? ((⟨b, off, none⟩ : Addr).add j) = some u := by
    intro cs t j u hu
    have hj : j < P.length := by
      have := (List.getElem?_eq_some_iff.1 hu).1
      simpa using this
    rw [Addr.add_lit, World.cell?_alloc_lt w _ _ hb, hc j hj, ← hu]
    simp [hj]
  have hlen : P.length ≤ 65535 := by omega
  replace hnews := hide hnews
  replace hF := hide hF
  replace hB := hide hB
  clear hr hc
  go_enter Tryd.func42, Tryd.ntmps42
  go_wp2_with (at_builtin; refine wpList_append_own _ rfl (.const (.slice none 0 0)) (.tmp 21) 33 rfl (w.heap.size + 1) 5 i0 _ 1 1 Tryd.underlying33 hi hz hz1 hz2 rfl (by decide) (.slice none 0 0) 0 [] rfl ⟨rfl, .inl ⟨rfl, rfl⟩⟩ ⟨b, off, none⟩ P.length cap (P.map (Value.int .u8)) rfl (by simp) (hnews.out _ _) (ints_oneCell .u8 P) (by simp only [maxLen]; omega) (by omega) (by simp) ?_; intro v1 w1 hown1 hg1 _; simp only [Nat.zero_add, List.nil_append] at hown1; obtain ⟨g, cap', rfl, hg, _⟩ := hown1.form hpos; have hk1 := hide (Blk.grown (Blk.new w 74 #[.int .i64 lev, .int .i64 0, .int .i64 0, .bool true, .bool false]) hg1 (by simp [Value.ownBlock])); have hbl1 := hide (((Below.refl _ _).alloc (Nat.le_refl _) _).grown hg1 (by simp) (fun k hk => by simp [Value.ownBlock] at hk)); replace hown1 := hide hown1; clear hg1 hnews)
  go_loopg [16] 16 (fun k u16 wr => ∃ m : Nat, k + m = 16 ∧ u16 = .int .i64 m ∧ wr.ownsRow (w.heap.size + 1) 5 1 (.slice (some ⟨g, 0, none⟩) P.length cap') P.length ((flines lev s st m P c).map (Value.int .u8)) ∧ Below w.heap.size w wr ∧
    Blk wr w.heap.size 74 #[.int .i64 lev, .int .i64 0, .int .i64 0, .bool true, .bool false])
  case atStart => exact ⟨0, rfl, rfl, hown1.out, hbl1.out, hk1.out⟩
  case round =>
    obtain ⟨m, hm, rfl, ho, hbl, hk⟩ := hrel
    clear hown1 hbl1 hk1
    cases gk with
    | zero =>
      have hm' : m = 16 := by omega
      subst hm'
      replace ho := hide ho
      replace hbl := hide hbl
      clear hk hF hB
      go_wp2
      go_ret
      exact ⟨g, cap', rfl, by omega, own_base ho.out (by omega), hbl.out⟩
    | succ k =>
      obtain ⟨a1, a2, a3, a4, b1, b2, b3, b4⟩ := hF.out m (by omega)
      have hQ := flines_bytes lev s st m P c hB.out
      have hstep := flines_succ lev s st m P c
      have hQl := flines_len lev s st m P c
      generalize flines lev s st m P c = Q at *
      obtain ⟨p1, p2⟩ := mul_bd (m : Int) st (by omega) (by omega) (by omega) (by omega)
      obtain ⟨D, eD⟩ : ∃ D, c + (m : Int) * st = D := ⟨_, rfl⟩
      rw [eD] at a1 a2 a3 a4 b1 b2 b3 b4 hstep
      have hfour := fun x y => fline_four lev s Q D x y hs a1 a2 a3 a4 (by omega) (by omega) (by omega) (by omega)
      have v2 := own_cell ho (D - 2 * s).toNat (by omega)
      have v3 := own_cell ho (D - s).toNat (by omega)
      have v4 := own_cell ho D.toNat (by omega)
      have v5 := own_cell ho (D + s).toNat (by omega)
      have w2 := hQ (D - 2 * s).toNat
      have w3 := hQ (D - s).toNat
      have w4 := hQ D.toNat
      have w5 := hQ (D + s).toNat
      have hself3 := set_self Q (D - s).toNat
      have hself4 := set_self Q D.toNat
      unfold fline at hstep
      simp only [at'] at hstep hfour
      obtain ⟨x2, e2⟩ : ∃ x, x = Q.getD (D - 2 * s).toNat 0 := ⟨_, rfl⟩
      obtain ⟨x3, e3⟩ : ∃ x, x = Q.getD (D - s).toNat 0 := ⟨_, rfl⟩
      obtain ⟨x4, e4⟩ : ∃ x, x = Q.getD D.toNat 0 := ⟨_, rfl⟩
      obtain ⟨x5, e5⟩ : ∃ x, x = Q.getD (D + s).toNat 0 := ⟨_, rfl⟩
      rw [← e2] at v2 w2
      rw [← e3] at v3 w3
      rw [← e4] at v4 w4
      rw [← e5] at v5 w5
      simp only [← e2, ← e3, ← e4, ← e5] at hstep hfour
      rw [← e3] at hself3
      rw [← e4] at hself4
      clear e2 e3 e4 e5
      obtain ⟨D2, eD2⟩ : ∃ D2, D + -2 * s = D2 := ⟨_, rfl⟩
      obtain ⟨D3, eD3⟩ : ∃ D3, D + -s = D3 := ⟨_, rfl⟩
      obtain ⟨D5, eD5⟩ : ∃ D5, D + s = D5 := ⟨_, rfl⟩
      rw [show D - 2 * s = D2 by omega] at v2 a1 b1 hfour
      rw [show D - s = D3 by omega] at v3 a2 b2 hfour hstep hself3
      rw [eD5] at v5 a4 b4 hfour
      have hfin : fourM Q D2.toNat D3.toNat D.toNat D5.toNat x2 (simpleY3 lev x2 x3 x4 x5) (simpleY4 lev x2 x3 x4 x5) x5 4 = flines lev s st (m + 1) P c := by
        show (((Q.set D2.toNat x2).set D3.toNat _).set D.toNat _).set D5.toNat x5 = _
        rw [hfour, hstep]
        unfold simpleY3 simpleY4
        split
        · rfl
        · rw [hself3, hself4]
      have hy3 : 0 ≤ simpleY3 lev x2 x3 x4 x5 ∧ simpleY3 lev x2 x3 x4 x5 ≤ 255 := by
        unfold simpleY3
        split
        · exact clamp_bd 0 255 _ (by omega)
        · exact w3
      have hy4 : 0 ≤ simpleY4 lev x2 x3 x4 x5 ∧ simpleY4 lev x2 x3 x4 x5 ≤ 255 := by
        unfold simpleY4
        split
        · exact clamp_bd 0 255 _ (by omega)
        · exact w4
      have cS := fun w => simpleRow_any x2 x3 x4 x5 lev w w2 w3 w4 w5
      generalize simpleY3 lev x2 x3 x4 x5 = y3 at *
      generalize simpleY4 lev x2 x3 x4 x5 = y4 at *
      clear hfour hstep hself3 hself4
      replace cS := hide cS
      replace hfin := hide hfin
      replace ho := hide ho
      replace hbl := hide hbl
      replace hk := hide hk
      replace hQ := hide hQ
      replace hQl := hide hQl
      have hm16 : (m : Int) < 16 := by omega
      obtain ⟨hb1, hb2, hb3, hb4, hb5, hb6⟩ := hbd
      have hs1 : -32768 ≤ -2 * s ∧ -2 * s ≤ 32768 := by omega
      have hD : -1000000 ≤ D ∧ D ≤ 1000000 := by omega
      obtain ⟨hs1, hs2⟩ := hs1
      obtain ⟨hD1, hD2⟩ := hD
      have hgL : g < wr.heap.size := (ho.out.lt g rfl).2
      obtain ⟨wo, hwo⟩ : ∃ x, x = wr := ⟨_, rfl⟩
      subst hwo
      go_wp2
      go_loopg [18] 4 (fun k u18 wj => ∃ q : Nat, k + q = 4 ∧ u18 = .int .i64 (2 + (q : Int)) ∧ Blk wj wo.heap.size 128 (rowM x2 x3 x4 x5 q) ∧ Upd [wo.heap.size] wo wj)
      case atStart => exact ⟨0, rfl, rfl, Blk.new _ _ _, (Upd.refl _ _).alloc _⟩
      case round =>
        obtain ⟨q, hq, rfl, hl, hu⟩ := hrel
        replace v2 := (hu.cell (p := ⟨g, D2.toNat, none⟩) hgL (by simp; omega)).trans v2
        replace v3 := (hu.cell (p := ⟨g, D3.toNat, none⟩) hgL (by simp; omega)).trans v3
        replace v4 := (hu.cell (p := ⟨g, D.toNat, none⟩) hgL (by simp; omega)).trans v4
        replace v5 := (hu.cell (p := ⟨g, D5.toNat, none⟩) hgL (by simp; omega)).trans v5
        cases gk with
        | zero =>
          have hq' : q = 4 := by omega
          subst hq'
          have hkr := Blk.upd hk.out hu (by simp; omega)
          have kb0 := hkr.cell 0
          have kb3 := hkr.cell 3
          simp at kb0 kb3
          have hszo := hbl.out.size
          have hszu := hu.size
          have ho2 := hide (hu.own ho.out (by simp [Value.ownBlock]; omega))
          have hbl2 := hide (hbl.out.trans (hu.below (B := w.heap.size) (by simpa using hszo) hszo))
          have hl0 := hide hl
          have hkr2 := hide hkr
          obtain ⟨⟨d0, d1, d2, d3, d4, d5, d6, d7⟩, f0, f1, f2, f3, f4, f5, f6, f7⟩ := Blk.cells8 hl
          have hLr : wo.heap.size < wr.heap.size := hl.lt
          clear hl hu hkr v2 v3 v4 v5
          obtain ⟨wq, hwq⟩ : ∃ x, x = wr := ⟨_, rfl⟩
          subst hwq
          unfold row8 at cS
          go_wp2_with fail
          (with_reducible refine (cS.out _).mono ?_)
          rintro e w2' ⟨rfl, hbS⟩
          have hl3 := Blk.below hl0.out hbS hLr
          have ho3 := hide ((Upd.ofBelow (S := []) hbS).own ho2.out (by simp))
          have hkr3 := hide (hkr2.out.below hbS (by omega))
          have hbl3 := hide (hbl2.out.trans (hbS.mono (by omega)))
          clear d0 d1 d2 d3 d4 d5 d6 d7 f0 f1 f2 f3 f4 f5 f6 f7 kb0 kb3 hl0 hkr2 ho2 hbl2 hbS
          have hl4 := hide hl3
          obtain ⟨⟨d0, d1, d2, d3, d4, d5, d6, d7⟩, f0, f1, f2, f3, f4, f5, f6, f7⟩ := Blk.cells8 hl3
          clear hl3
          go_wp2
          go_loopg [20] 4 (fun k u20 wj => ∃ q : Nat, k + q = 4 ∧ u20 = .int .i64 (2 + (q : Int)) ∧ Blk wj wo.heap.size 128 (row8 x2 y3 y4 x5) ∧ Below w.heap.size w wj ∧ Blk wj w.heap.size 74 #[.int .i64 lev, .int .i64 0, .int .i64 0, .bool true, .bool false] ∧
            wj.ownsRow (w.heap.size + 1) 5 1 (.slice (some ⟨g, 0, none⟩) P.length cap') P.length ((fourM Q D2.toNat D3.toNat D.toNat D5.toNat x2 y3 y4 x5 q).map (Value.int .u8)))
          case atStart =>
            refine ⟨0, rfl, rfl, blk_set8 hl4.out _ _ _ _ _ _ _ _, ?_, ?_, ?_⟩
            · exact hbl3.out.trans ((upd_set8 (Upd.refl [wo.heap.size] w2') (by simp) _ _ _ _ _ _ _ _).below (by simp; omega) (by have := hbl3.out.size; omega))
            · exact hkr3.out.upd (upd_set8 (Upd.refl [wo.heap.size] w2') (by simp) _ _ _ _ _ _ _ _) (by simp; omega)
            · exact (upd_set8 (Upd.refl [wo.heap.size] w2') (by simp) _ _ _ _ _ _ _ _).own ho3.out (by simp [Value.ownBlock]; omega)
          case round =>
            obtain ⟨q, hq, rfl, hl, hblj, hkj, hoj⟩ := hrel
            clear d0 d1 d2 d3 d4 d5 d6 d7 f0 f1 f2 f3 f4 f5 f6 f7 ho3 hkr3 hbl3 hl4
            cases gk with
            | zero =>
              have hq' : q = 4 := by omega
              subst hq'
              rw [hfin.out] at hoj
              replace hoj := hide hoj
              replace hblj := hide hblj
              replace hkj := hide hkj
              clear hl
              go_wp2
              go_roundg k
              case measure => omega
              case rel => exact ⟨m + 1, by omega, by go_num, hoj.out, hblj.out, hkj.out⟩
            | succ k2 =>
              have hq3 : q = 0 ∨ q = 1 ∨ q = 2 ∨ q = 3 := by omega
              have hl0 := hide hl
              obtain ⟨⟨d0, d1, d2, d3, d4, d5, d6, d7⟩, _⟩ := Blk.cells8 hl
              clear hl
              replace hblj := hide hblj
              replace hkj := hide hkj
              rcases hq3 with rfl | rfl | rfl | rfl
              · have hcc := own_cell hoj D2.toNat (by omega)
                generalize (fourM Q D2.toNat D3.toNat D.toNat D5.toNat x2 y3 y4 x5 0).getD D2.toNat 0 = vc at hcc
                have hzz := hoj.frozenAt D2.toNat
                have hset := hide (own_set hoj D2.toNat x2)
                clear hoj
                go_wp2
                go_roundg k2
                case measure => omega
                case rel => exact ⟨1, by omega, rfl, hl0.out.far (by simp; omega) _, hblj.out.setCell (by simp; omega) _, hkj.out.far (by simp; omega) _, hset.out⟩
              · have hcc := own_cell hoj D3.toNat (by omega)
                generalize (fourM Q D2.toNat D3.toNat D.toNat D5.toNat x2 y3 y4 x5 1).getD D3.toNat 0 = vc at hcc
                have hzz := hoj.frozenAt D3.toNat
                have hset := hide (own_set hoj D3.toNat y3)
                clear hoj
                go_wp2
                go_roundg k2
                case measure => omega
                case rel => exact ⟨2, by omega, rfl, hl0.out.far (by simp; omega) _, hblj.out.setCell (by simp; omega) _, hkj.out.far (by simp; omega) _, hset.out⟩
              · have hcc := own_cell hoj D.toNat (by omega)
                generalize (fourM Q D2.toNat D3.toNat D.toNat D5.toNat x2 y3 y4 x5 2).getD D.toNat 0 = vc at hcc
                have hzz := hoj.frozenAt D.toNat
                have hset := hide (own_set hoj D.toNat y4)
                clear hoj
                go_wp2
                go_roundg k2
                case measure => omega
                case rel => exact ⟨3, by omega, rfl, hl0.out.far (by simp; omega) _, hblj.out.setCell (by simp; omega) _, hkj.out.far (by simp; omega) _, hset.out⟩
              · have hcc := own_cell hoj D5.toNat (by omega)
                generalize (fourM Q D2.toNat D3.toNat D.toNat D5.toNat x2 y3 y4 x5 3).getD D5.toNat 0 = vc at hcc
                have hzz := hoj.frozenAt D5.toNat
                have hset := hide (own_set hoj D5.toNat x5)
                clear hoj
                go_wp2
                go_roundg k2
                case measure => omega
                case rel => exact ⟨4, by omega, rfl, hl0.out.far (by simp; omega) _, hblj.out.setCell (by simp; omega) _, hkj.out.far (by simp; omega) _, hset.out⟩
        | succ k2 =>
          have hq3 : q = 0 ∨ q = 1 ∨ q = 2 ∨ q = 3 := by omega
          replace hu := hide hu
          rcases hq3 with rfl | rfl | rfl | rfl
          all_goals
            have hl0 := hide hl
            obtain ⟨⟨d0, d1, d2, d3, d4, d5, d6, d7⟩, f0, f1, f2, f3, f4, f5, f6, f7⟩ := Blk.cells8 hl
            clear hl
            go_wp2
            go_roundg k2
          case measure => omega
          case rel => exact ⟨1, by omega, rfl, hl0.out.set_ 2 _, hu.out.setCell (.inl (by simp)) _⟩
          case measure => omega
          case rel => exact ⟨2, by omega, rfl, hl0.out.set_ 3 _, hu.out.setCell (.inl (by simp)) _⟩
          case measure => omega
          case rel => exact ⟨3, by omega, rfl, hl0.out.set_ 4 _, hu.out.setCell (.inl (by simp)) _⟩
          case measure => omega
          case rel => exact ⟨4, by omega, rfl, hl0.out.set_ 5 _, hu.out.setCell (.inl (by simp)) _⟩
end Go.Proofs.YthbidebcljegjaaDoor

/- A code is written. -/
import Derived.Test.YtpiapfahcoopbaaDoorPsN
namespace Go.Proofs.YtpiapfahcoopbaaDoor
set_option linter.unusedSimpArgs false
set_option linter.unusedVariables false
set_option linter.unnecessarySimpa false
open Go.RowKit Plain

theorem CodeAt.down {w : World} {b b' : Nat} {L : List Nat} {x : Value} (h : CodeAt w b L x) (hb : b' ≤ b) : CodeAt w b' L x := by
  obtain ⟨A, V, c, cv, a, p, q⟩ := h.h
  exact ⟨A, V, c, cv, a, own_down p hb, own_down q hb⟩
/-- How many are not used. -/
def offN (u : List Bool) : Nat := u.countP (fun b => !b)
theorem offN_set (u : List Bool) (k : Nat) (hk : k < u.length) (h : u.getD k false = false) : offN (u.set k true) + 1 = offN u := by
  induction u generalizing k with
  | nil => simp at hk
  | cons x u ih =>
    cases k with
    | zero =>
      simp at h
      subst h
      simp [offN]
    | succ k =>
      have := ih k (by simpa using hk) (by simpa using h)
      unfold offN at this ⊢
      rw [List.set_cons_succ, List.countP_cons, List.countP_cons]
      omega
theorem usedL_sorted (u : List Bool) (m : Nat) : (usedL u m).Pairwise (· < ·) := List.Pairwise.filter _ List.pairwise_lt_range
/-- A code that was written: what is known of it. -/
def PrePost (B c g base len val size : Nat) (u : List Bool) (w : World) (e : Ending) (w' : World) : Prop := ∃ (L : List Nat) (x : Value) (len' val' : Nat), e = .returned x ∧ LenOk 15 size L ∧ (∀ s, s < size → u.getD s false = true → 1 ≤ L.getD s 0) ∧ CodeAt w' w.heap.size L x ∧ WrAt w' g base len' val' ∧ ChAt w' B c ∧ Wrote len val len' val' (fun V => PreTold V len len' size L) ∧ len' ≤ len + 100000 ∧ UpdT B (4 :: ([42, 5, 91] : List TypeId)) w w'
/-- The code laid into the result. -/
theorem pre_fin {B c g base len val size b len' val' n c1 c2 : Nat} {u : List Bool} {w w6 : World} {L : List Nat} {A A' : Option Addr} {x : Bool} {cs : Array Value} (hLk : LenOk 15 size L) (hus : ∀ s, s < size → u.getD s false = true → 1 ≤ L.getD s 0) (hX : CodeAt w6 b L (.agg #[.slice A n c1, .slice A' n c2, .bool x])) (hb : w.heap.size ≤ b) (hwr : WrAt w6 g base len' val') (hch : ChAt w6 B c) (hT : Wrote len val len' val' (fun V => PreTold V len len' size L)) (hl : len' ≤ len + 100000) (hu : UpdT B (4 :: ([42, 5, 91] : List TypeId)) w w6) (hR : Blk w6 w.heap.size 44 cs) (hB : B ≤ w.heap.size) :
    PrePost B c g base len val size u w (.returned (.agg #[.slice A n c1, .slice A' n c2, .bool x])) (((w6.setCell ⟨w.heap.size, 0, none⟩ (.slice A n c1)).setCell ⟨w.heap.size, 1, none⟩ (.slice A' n c2)).setCell ⟨w.heap.size, 2, none⟩ (.bool x)) := by
  have uc := UpdT.code hR hB (.slice A n c1) (.slice A' n c2) (.bool x)
  refine ⟨L, _, len', val', rfl, hLk, hus, (hX.typed uc (by decide)).down hb, hwr.typed uc (by decide) (by decide), hch.typed uc (by decide) (Nat.le_trans hB hu.size), hT, hl, ?_⟩
  exact ((hu.setNew (p := ⟨w.heap.size, 0, none⟩) hB (Nat.le_refl _) _).setNew (p := ⟨w.heap.size, 1, none⟩) hB (Nat.le_refl _) _).setNew (p := ⟨w.heap.size, 2, none⟩) hB (Nat.le_refl _) _
set_option maxRecDepth 100000 in
set_option maxHeartbeats 8000000 in
theorem prefix_any {B c g base len val size cu bu ub : Nat} (hsz1 : 1 ≤ size) (hsz : (size : Int) ≤ 4096) (hlen : (len : Int) ≤ 900000000) (hBu : B ≤ ub) : ∀ (m : Nat) (u : List Bool) (w : World), offN u < m → WC B c g base w len val w → w.ownsRow bu 4 1 (.slice (some ⟨ub, 0, none⟩) size cu) size (ofB u) →
    Calls Tryd.prog 22 #[.pointer (some ⟨c, 0, none⟩), .pointer (some ⟨g, 0, none⟩), .slice (some ⟨ub, 0, none⟩) size cu] w (PrePost B c g base len val size u w) := by
  intro m
  induction m with
  | zero => exact fun u w h => absurd h (Nat.not_lt_zero _)
  | succ m ih =>
  intro u w hm h hU
  have hul := ownB_len hU
  have hub := (hU.lt ub rfl).2
  have hW1 := h.alloc (.cells #[.slice none 0 0, .slice none 0 0, .bool false] 44)
  have hR1 := Blk.new w 44 #[.slice none 0 0, .slice none 0 0, .bool false]
  have hU1 : (w.alloc (.cells #[.slice none 0 0, .slice none 0 0, .bool false] 44)).ownsRow bu 4 1 (.slice (some ⟨ub, 0, none⟩) size cu) size (ofB u) := hU.alloc _
  have hz1 : w.heap.size + 1 = (w.alloc (.cells #[.slice none 0 0, .slice none 0 0, .bool false] 44)).heap.size := by simp
  have hBw := h.bz
  replace ih := hide ih
  replace h := hide h
  replace hU := hide hU
  replace hul := hide hul
  replace hm := hide hm
  go_enter Tryd.func22, Tryd.ntmps22
  go_wp2_with fail
  generalize w.alloc (.cells #[.slice none 0 0, .slice none 0 0, .bool false] 44) = w1 at *
  have hz1' : w.heap.size ≤ w1.heap.size := by omega
  replace hW1 := hide hW1
  replace hR1 := hide hR1
  replace hU1 := hide hU1
  replace hz1 := hide hz1
  go_loopg [8, 7] size (fun k u8 u7 wr => ∃ (i : Nat) (A' : Option Addr) (c' : Nat), k + i = size ∧ u8 = .int .i64 (i : Nat) ∧ u7 = .slice A' (usedL u i).length c' ∧ wr.ownsRow w1.heap.size 3 1 (.slice A' (usedL u i).length c') (usedL u i).length ((ofN' (usedL u i)).map (Value.int .i64)) ∧ WC B c g base w len val wr ∧ UpdT B [] w1 wr)
  case atStart => exact ⟨0, none, 0, rfl, rfl, rfl, ⟨rfl, .inl ⟨rfl, rfl⟩⟩, hW1.out, UpdT.refl _ _ _⟩
  case round =>
    clear hW1
    obtain ⟨i, A', c', hk, rfl, rfl, ho, hWr, hu⟩ := hrel
    have hle := usedL_len u i
    have hsz1r := hu.size
    cases gk with
    | succ k =>
      have hiI : (i : Int) < (size : Int) := by omega
      have hkx := ownB_cell (hu.own hU1.out (by simp)) i (by omega)
      have hus := usedL_succ u i
      cases hb : u.getD i false with
      | false =>
        rw [hb] at hkx hus
        replace hus : usedL u (i + 1) = usedL u i := by rw [hus]; simp
        generalize hl : usedL u i = l at *
        replace ho := hide ho
        replace hu := hide hu
        replace hus := hide hus
        replace hl := hide hl
        replace hb := hide hb
        replace hWr := hide hWr
        go_wp2_with fail
        go_roundg k
        case measure => omega
        case rel => exact ⟨i + 1, A', c', by omega, by go_num, by rw [hus.out], by rw [hus.out]; exact ho.out, hWr.out, hu.out⟩
      | true =>
        rw [hb] at hkx hus
        replace hus : usedL u (i + 1) = usedL u i ++ [i] := by rw [hus]; simp
        generalize hl : usedL u i = l at *
        have hap : (ofN' l).map (Value.int .i64) ++ [.int .i64 (i : Nat)] = (ofN' (l ++ [i])).map (Value.int .i64) := by simp [ofN']
        have hB1 : B ≤ w1.heap.size := by omega
        replace ho := hide ho
        replace hu := hide hu
        replace hus := hide hus
        replace hl := hide hl
        replace hb := hide hb
        replace hap := hide hap
        replace hWr := hide hWr
        go_wp2_with (first | (refine wpList_push rfl (.tmp 20) (.tmp 22) 23 rfl w1.heap.size 3 (.int .i64 0) 8 Tryd.underlying23 info_int rfl (.slice A' l.length c') l.length ((ofN' l).map (Value.int .i64)) rfl ho.out (.int .i64 (i : Nat)) rfl rfl (by simp only [maxLen]; omega) (by omega) (by omega) ?_; intro v' w4 hown' hg'; obtain ⟨A4, c4, rfl⟩ := own_shape hown'; have hu4 := hide (hu.out.grownNew ho.out hB1 (Nat.le_refl _) hg'); have hW4 := hide (hWr.out.move ((grown_typed ho.out hg').low' hB1) (by simp) (by simp) (by simp) (hWr.out.up.grownNew ho.out hB1 hz1' hg')); replace hown' := hide hown') | fail)
        go_roundg k
        case measure => omega
        case rel =>
          refine ⟨i + 1, A4, c4, by omega, by go_num, by rw [hus.out, List.length_append]; rfl, ?_, hW4.out, hu4.out⟩
          rw [hus.out, ← hap.out, List.length_append]
          exact hown'.out
    | zero =>
      obtain rfl : i = size := by omega
      have hnd := usedL_sorted u i
      have hlt := usedL_lt u i
      have hme := usedL_mem u i
      generalize usedL u i = l at *
      have hiI : ¬ (i : Int) < (i : Int) := by omega
      have hRr := hide (hu.typ _ _ _ hR1.out (by simp))
      have hUr := hide (hu.own hU1.out (by simp))
      have hlb : (l.length : Int) ≤ 4096 := by omega
      replace ho := hide ho
      replace hWr := hide hWr
      replace hnd := hide hnd
      replace hlt := hide hlt
      replace hme := hide hme
      clear hu hR1 hU1
      go_upto_region 7 with fail
      go_cut [32] from 24 to 32 (fun u32 wc => ∃ t : Bool, u32 = .bool t ∧ WC B c g base w len val wc ∧ UpdT B ([42, 5, 91] : List TypeId) wr wc)
      case first =>
        by_cases hll : l.length < i
        · have hllI : (l.length : Int) < (i : Int) := by omega
          go_wp2_with (first | (go_at_call 42; (with_reducible refine (is_wc hWr.out _ (by decide) (by decide)).mono ?_); rintro e w2 ⟨b, rfl, hW2, hu2⟩; replace hW2 := hide hW2; replace hu2 := hide hu2) | fail)
          all_goals (go_meet; exact ⟨_, rfl, hW2.out, hu2.out⟩)
        · have hllI : ¬ (l.length : Int) < (i : Int) := by omega
          have hlld : decide (l.length < i) = false := decide_eq_false hll
          go_wp2_with (first | (go_at_call 42; (with_reducible refine (is_wc hWr.out _ (by decide) (by decide)).mono ?_); rintro e w2 ⟨b, rfl, hW2, hu2⟩; replace hW2 := hide hW2; replace hu2 := hide hu2) | fail)
          all_goals (go_meet; exact ⟨_, rfl, hW2.out, hu2.out⟩)
      case rest =>
        obtain ⟨t, rfl, hW2, hu2⟩ := hcut
        have hR2 := hide (hu2.typ _ _ _ hRr.out (by decide))
        have hU2 := hide (hu2.own hUr.out (by decide))
        have ho2 := hide (hu2.own ho.out (by decide))
        have hs2 := hu2.size
        replace hW2 := hide hW2
        clear hu2 hRr hUr ho hWr
        go_upto_if 32 with fail
        go_cut [9] from 33 to 48 (fun u9 w3 => WC B c g base w len val w3 ∧ UpdT B ([42, 5, 91] : List TypeId) wc w3)
        case first =>
          cases t with
          | false =>
            go_wp2_with fail
            go_meet
            exact ⟨hW2.out, UpdT.refl _ _ _⟩
          | true =>
            go_wp2_with fail
            refine (nextc_wc hW2.out (i : Int) (by omega) (by omega)).mono ?_
            rintro e w3 ⟨y, rfl, hy, hW3, hu3⟩
            have hU3 := hu3.own hU2.out (by decide)
            have hR3 := hu3.typ _ _ _ hR2.out (by decide)
            have hkc := ownB_cell hU3 y (by omega)
            have hkf := hU3.frozenAt y
            cases hb : u.getD y false with
            | true =>
              rw [hb] at hkc
              replace hb := hide hb
              replace hU3 := hide hU3
              replace hR3 := hide hR3
              replace hW3 := hide hW3
              replace hu3 := hide hu3
              go_wp2_with fail
              go_meet
              exact ⟨hW3.out, hu3.out⟩
            | false =>
              rw [hb] at hkc
              have hU4 := own_setB hU3 y true
              obtain ⟨cs, hcs, _⟩ := own_blk' hU3
              have hoff := offN_set u y (by rw [hul.out]; omega) hb
              have hu4 := (UpdT.refl B [4] w3).set (i := y) hcs hBu (by simp) (.bool true)
              have hW4 : WC B c g base (w3.setCell ⟨ub, y, none⟩ (.bool true)) len val (w3.setCell ⟨ub, y, none⟩ (.bool true)) := ⟨hW3.lie.on (Nat.le_trans hW3.sz hu4.size), hW3.wr.typed hu4 (by simp) (by simp), hW3.ch.typed hu4 (by simp) hW3.bz, UpdT.refl _ _ _⟩
              have hR4 := hu4.typ _ _ _ hR3 (by decide)
              have cR := ih.out (u.set y true) (w3.setCell ⟨ub, y, none⟩ (.bool true)) (by have := hm.out; omega) hW4 hU4
              have hu5 := (hW3.up.more (ts' := 4 :: ([42, 5, 91] : List TypeId)) (by simp)).trans (hu4.more (ts' := 4 :: ([42, 5, 91] : List TypeId)) (by simp))
              have hz5 := hu5.size
              replace hb := hide hb
              replace hU3 := hide hU3
              replace hR3 := hide hR3
              replace hW3 := hide hW3
              replace hu3 := hide hu3
              replace hW4 := hide hW4
              replace hR4 := hide hR4
              replace hU4 := hide hU4
              replace cR := hide cR
              replace hu4 := hide hu4
              replace hu5 := hide hu5
              replace hz5 := hide hz5
              clear hcs
              go_wp2_with fail
              (with_reducible refine (cR.out).mono ?_)
              rintro e w6 ⟨L, x, len6, val6, rfl, hLk, hus, hX6, hwr, hch, hT6, hl6, hu6⟩
              have hus2 : ∀ s, s < i → u.getD s false = true → 1 ≤ L.getD s 0 := fun s hs h => hus s hs (by
                by_cases he : y = s
                · subst he
                  rw [List.getD_eq_getElem?_getD, List.getElem?_set_self (by rw [hul.out]; omega)]
                  rfl
                · rw [List.getD_eq_getElem?_getD, List.getElem?_set_ne he, ← List.getD_eq_getElem?_getD]
                  exact h)
              obtain ⟨A9, A10, c9, c10, rfl, _, _⟩ := hX6.h
              have hR6 := hu6.typ _ _ _ hR4.out (by decide)
              have hfin := pre_fin hLk hus2 hX6 hz5.out hwr hch hT6 hl6 (hu5.out.trans hu6) hR6 hBw
              have hrr := load_code hR6 rfl (.slice A9 L.length c9) (.slice A10 L.length c10) (.bool (decide (nz L = 1)))
              obtain ⟨x2, hx2⟩ : ∃ x2, x2 = decide (nz L = 1) := ⟨_, rfl⟩
              rw [← hx2] at hfin hrr ⊢
              have q0 := hR6.cell 0
              have q1 := hR6.cell 1
              have q2 := hR6.cell 2
              have z0 := hR6.frozen 0
              have z1 := hR6.frozen 1
              have z2 := hR6.frozen 2
              replace hR6 := hide hR6
              replace hfin := hide hfin
              replace hx2 := hide hx2
              replace hrr := hide hrr
              clear hX6 hLk hus hus2 hwr hch hT6 hu6
              go_wp2_with fail
              refine bodyPost_ret (v := .agg #[.slice A9 L.length c9, .slice A10 L.length c10, .bool x2]) ?_ ?_ ?_
              · exact ret_cellP rfl rfl hrr.out
              · rfl
              exact hfin.out
        case rest =>
          obtain ⟨hW3, hu3⟩ := hcut
          have hR3 := hide (hu3.typ _ _ _ hR2.out (by decide))
          have hU3 := hide (hu3.own hU2.out (by decide))
          have ho3 := hide (hu3.own ho2.out (by decide))
          have hs3 := hu3.size
          have hB1 : B ≤ w1.heap.size := by omega
          have hB3 := hW3.bz
          replace hW3 := hide hW3
          clear hu3 hR2 hU2 ho2 hW2
          go_upto_if 51 with fail
          go_cut [7] from 51 to 57 (fun u7 w4 => ∃ (q : List Nat) (A4 : Option Addr) (c4 : Nat), u7 = .slice A4 q.length c4 ∧ w4.ownsRow w1.heap.size 3 1 (.slice A4 q.length c4) q.length ((ofN' q).map (Value.int .i64)) ∧ 1 ≤ q.length ∧ q.length ≤ 4096 ∧ q.Pairwise (· < ·) ∧ (∀ s ∈ q, s < i) ∧ (∀ s, s < i → u.getD s false = true → s ∈ q) ∧ WC B c g base w len val w4 ∧ UpdT B ([42, 5, 91] : List TypeId) wc w4)
          case first =>
            by_cases hl0 : l.length = 0
            · have hnil : l = [] := List.length_eq_zero_iff.1 hl0
              subst hnil
              by_cases h256 : i ≤ 256
              · have h256I : (i : Int) ≤ 256 := by omega
                go_wp2_with (first | (go_at_call 43; (with_reducible refine (nextc_wc hW3.out _ (by omega) (by omega)).mono ?_); rintro e w4 ⟨y, rfl, hy, hW4, hu4⟩; replace hW4 := hide hW4; replace hu4 := hide hu4) | fail)
                go_meet
                have hyl : y < i := by omega
                have hs4 := hu4.out.size
                refine ⟨[y], _, _, rfl, ⟨rfl, .inr ⟨w4.heap.size, 1, #[.int .i64 (y : Nat)], rfl, by omega, Blk.new w4 _ _, by simp, by simp [maxLen], rfl, rfl⟩⟩, by simp, by simp, by simp, by simpa using hyl, fun s h1 h2 => ?_, hW4.out.alloc _, hu4.out.alloc _⟩
                exact absurd ((hme.out s).2 ⟨h1, h2⟩) (by simp)
              · have h256I : ¬ (i : Int) ≤ 256 := by omega
                go_wp2_with (first | (go_at_call 43; (with_reducible refine (nextc_wc hW3.out _ (by omega) (by omega)).mono ?_); rintro e w4 ⟨y, rfl, hy, hW4, hu4⟩; replace hW4 := hide hW4; replace hu4 := hide hu4) | fail)
                go_meet
                have hyl : y < i := by omega
                have hs4 := hu4.out.size
                refine ⟨[y], _, _, rfl, ⟨rfl, .inr ⟨w4.heap.size, 1, #[.int .i64 (y : Nat)], rfl, by omega, Blk.new w4 _ _, by simp, by simp [maxLen], rfl, rfl⟩⟩, by simp, by simp, by simp, by simpa using hyl, fun s h1 h2 => ?_, hW4.out.alloc _, hu4.out.alloc _⟩
                exact absurd ((hme.out s).2 ⟨h1, h2⟩) (by simp)
            · have hl0I : ¬ (l.length : Int) = 0 := by omega
              have hq0 : ((l.length : Int) == 0) = false := beq_false_of_ne hl0I
              go_wp2_with fail
              go_meet
              exact ⟨l, A', c', rfl, ho3.out, by omega, by omega, hnd.out, hlt.out, fun s h1 h2 => (hme.out s).2 ⟨h1, h2⟩, hW3.out, UpdT.refl _ _ _⟩
          case rest =>
            clear ho3 hnd hlt hme hlb
            obtain ⟨q, A4, c4, rfl, ho4, hq1, hq2, hqs, hql, hqm, hW4, hu4⟩ := hcut
            have hR4 := hide (hu4.typ _ _ _ hR3.out (by decide))
            have hU4 := hide (hu4.own hU3.out (by decide))
            have hs4 := hu4.size
            obtain ⟨g4, rfl, hcl⟩ := own_some ho4 (by omega)
            have kq := hcl (q.length - 1) (by omega)
            rw [ofN'_get] at kq
            have hqlI : (q.length : Int) - 1 = ((q.length - 1 : Nat) : Int) := by omega
            have hqI : (1 : Int) ≤ (q.length : Int) := by omega
            have hqJ : (q.length : Int) ≤ 4096 := by omega
            replace ho4 := hide ho4
            replace hqs := hide hqs
            replace hql := hide hql
            replace hqm := hide hqm
            replace hW4 := hide hW4
            clear hu4 hR3 hU3 hW3 hcl
            go_upto_region 14 with fail
            go_cut [74] from 58 to 74 (fun u74 w5 => ∃ t : Bool, u74 = .bool t ∧ (t = true → q.length ≤ 2 ∧ q.getD (q.length - 1) 0 < 256) ∧ WC B c g base w len val w5 ∧ UpdT B ([42, 5, 91] : List TypeId) wc w5)
            case first =>
              by_cases h2 : q.length ≤ 2
              · have h2I : (q.length : Int) ≤ 2 := by omega
                obtain ⟨Q, hQ⟩ : ∃ Q, Q = q.length - 1 := ⟨_, rfl⟩
                have hQI : (q.length : Int) - 1 = (Q : Int) := by omega
                have hQl : (Q : Int) < (q.length : Int) := by omega
                rw [← hQ] at kq
                by_cases hx : q.getD Q 0 < 256
                · have hx' : q.getD (q.length - 1) 0 < 256 := by rw [← hQ]; exact hx
                  replace hx' := hide hx'
                  have hxI : ((q.getD Q 0 : Nat) : Int) < 256 := by omega
                  generalize q.getD Q 0 = x at *
                  replace hQ := hide hQ
                  clear hqlI
                  go_wp2_with (first | (go_at_call 42; (with_reducible refine (is_wc hW4.out _ (by decide) (by decide)).mono ?_); rintro e w5 ⟨b, rfl, hW5, hu5⟩; replace hW5 := hide hW5; replace hu5 := hide hu5) | fail)
                  go_meet
                  exact ⟨!b, rfl, fun _ => ⟨h2, hx'.out⟩, hW5.out, hu5.out⟩
                · have hxI : ¬ ((q.getD Q 0 : Nat) : Int) < 256 := by omega
                  generalize q.getD Q 0 = x at *
                  replace hQ := hide hQ
                  clear hqlI
                  go_wp2_with fail
                  go_meet
                  exact ⟨false, rfl, fun h => by simp at h, hW4.out, UpdT.refl _ _ _⟩
              · have h2I : ¬ (q.length : Int) ≤ 2 := by omega
                go_wp2_with fail
                go_meet
                exact ⟨false, rfl, fun h => by simp at h, hW4.out, UpdT.refl _ _ _⟩
            case rest =>
              obtain ⟨t, rfl, ht, hW5, hu5⟩ := hcut
              have hR5 := hide (hu5.typ _ _ _ hR4.out (by decide))
              have hU5 := hide (hu5.own hU4.out (by decide))
              have ho5 := hide (hu5.own ho4.out (by decide))
              have hz5 := hW5.sz
              replace ht := hide ht
              replace hW5 := hide hW5
              clear hu5 hR4 hU4 ho4 hW4 kq hqlI
              cases t with
              | true =>
                obtain ⟨h2, h256⟩ := ht.out rfl
                have hq0 : q.getD 0 0 < i := by
                  have e1 : q.getD 0 0 = q[0]'(by omega) := by simp [show 0 < q.length by omega]
                  rw [e1]
                  exact hql.out _ (List.getElem_mem _)
                have hq01 : q.length = 2 → q.getD 0 0 < q.getD 1 0 ∧ q.getD 1 0 < i := fun h => by
                  obtain ⟨z, y, rfl⟩ := two_of q h
                  have h3 : z < y := by simpa using hqs.out
                  exact ⟨h3, hql.out y (by simp)⟩
                have hA : q.getD 0 0 < i ∧ q.getD 0 0 < 256 := ⟨hq0, by
                  rcases Nat.lt_or_ge q.length 2 with h | h
                  · rw [show q.length - 1 = 0 by omega] at h256; exact h256
                  · have := hq01 (by omega)
                    rw [show q.length - 1 = 1 by omega] at h256
                    omega⟩
                have hB2 : q.length = 2 → q.getD 0 0 < q.getD 1 0 ∧ q.getD 1 0 < i ∧ q.getD 1 0 < 256 := fun h => by
                  have h3 := hq01 h
                  rw [show q.length - 1 = 1 by omega] at h256
                  exact ⟨h3.1, h3.2, h256⟩
                have cS := simple_any hW5.out.anew (some ⟨g4, 0, none⟩) w1.heap.size c4 i q ho5.out (by omega) hA hB2 hsz hlen
                replace cS := hide cS
                clear hA hB2 hq01 hq0 h256
                go_wp2_with fail
                (with_reducible refine (cS.out).mono ?_)
                rintro e w6 ⟨L, x, len6, val6, rfl, hLk, hus, hX6, hW6, hT6, hl6⟩
                have hus2 : ∀ s, s < i → u.getD s false = true → 1 ≤ L.getD s 0 := fun s h1 h2 => hus s (hqm.out s h1 h2)
                have hX6' := hX6.down hz5
                have hu6 := hW5.out.up.trans hW6.up
                have hR6' := hW6.up.typ _ _ _ hR5.out (by decide)
                obtain ⟨A9, A10, c9, c10, rfl, _, _⟩ := hX6'.h
                have hR6 := hR6'
                have hfin := pre_fin hLk hus2 hX6' (Nat.le_refl _) hW6.wr hW6.ch hT6 hl6 (hu6.more (by simp)) hR6 hBw
                have hrr := load_code hR6 rfl (.slice A9 L.length c9) (.slice A10 L.length c10) (.bool (decide (nz L = 1)))
                obtain ⟨x2, hx2⟩ : ∃ x2, x2 = decide (nz L = 1) := ⟨_, rfl⟩
                rw [← hx2] at hfin hrr ⊢
                have q0 := hR6.cell 0
                have q1 := hR6.cell 1
                have q2 := hR6.cell 2
                have z0 := hR6.frozen 0
                have z1 := hR6.frozen 1
                have z2 := hR6.frozen 2
                replace hR6 := hide hR6
                replace hfin := hide hfin
                replace hx2 := hide hx2
                replace hrr := hide hrr
                clear hX6 hX6' hR6' hLk hus hus2 hT6 hW6 hu6
                go_wp2_with fail
                refine bodyPost_ret (v := .agg #[.slice A9 L.length c9, .slice A10 L.length c10, .bool x2]) ?_ ?_ ?_
                · exact ret_cellP rfl rfl hrr.out
                · rfl
                exact hfin.out
              | false =>
                have hU5' := hU5.out
                go_wp2_with fail
                refine (lengths_wn hW5.out.anew 15 bu cu i _ rfl u _ hul.out hU5' hsz1 (by omega) (by decide) (by decide) (by omega)).mono ?_
                rintro e w6 ⟨L, A6, c6, rfl, hL6, ho6, hW6, hu6⟩
                rw [hul.out] at ho6 ⊢
                have hLk : LenOk 15 i L := by have := hL6.ok; rwa [hul.out] at this
                have hus2 : ∀ s, s < i → u.getD s false = true → 1 ≤ L.getD s 0 := fun s h1 h2 => hL6.used s (by rw [hul.out]; exact h1) h2
                obtain ⟨g6, rfl, _⟩ := own_some ho6 hsz1
                have cN := normal_any hW6 g6 _ c6 i L ho6 hLk (Nat.le_refl _) hsz1 hsz hlen
                replace cN := hide cN
                replace ho6 := hide ho6
                replace hLk := hide hLk
                replace hus2 := hide hus2
                clear hL6 hu6 hU5'
                go_wp2_with fail
                (with_reducible refine (cN.out).mono ?_)
                rintro e w7 ⟨x, len7, val7, rfl, hX7, hW7, hT7, hl7⟩
                have hX7' := hX7.down hz5
                have hR7 := hW7.up.typ _ _ _ hR5.out (by decide)
                have hu7 := hW5.out.up.trans hW7.up
                obtain ⟨A9, A10, c9, c10, rfl, _, _⟩ := hX7'.h
                have hR6 := hR7
                have hfin := pre_fin hLk.out hus2.out hX7' (Nat.le_refl _) hW7.wr hW7.ch hT7 hl7 (hu7.more (by simp)) hR6 hBw
                have hrr := load_code hR6 rfl (.slice A9 L.length c9) (.slice A10 L.length c10) (.bool (decide (nz L = 1)))
                obtain ⟨x2, hx2⟩ : ∃ x2, x2 = decide (nz L = 1) := ⟨_, rfl⟩
                rw [← hx2] at hfin hrr ⊢
                have q0 := hR6.cell 0
                have q1 := hR6.cell 1
                have q2 := hR6.cell 2
                have z0 := hR6.frozen 0
                have z1 := hR6.frozen 1
                have z2 := hR6.frozen 2
                replace hR6 := hide hR6
                replace hfin := hide hfin
                replace hx2 := hide hx2
                replace hrr := hide hrr
                clear hX7 hX7' hR7 hT7 hW7 hu7
                go_wp2_with fail
                refine bodyPost_ret (v := .agg #[.slice A9 L.length c9, .slice A10 L.length c10, .bool x2]) ?_ ?_ ?_
                · exact ret_cellP rfl rfl hrr.out
                · rfl
                exact hfin.out
end Go.Proofs.YtpiapfahcoopbaaDoor

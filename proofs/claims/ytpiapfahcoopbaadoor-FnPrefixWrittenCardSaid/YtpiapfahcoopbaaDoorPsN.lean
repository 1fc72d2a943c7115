/- The long form is written. -/
import Derived.Test.YtpiapfahcoopbaaDoorPsC
namespace Go.Proofs.YtpiapfahcoopbaaDoor
set_option linter.unusedSimpArgs false
set_option linter.unusedVariables false
set_option linter.unnecessarySimpa false
open Go.RowKit Plain

theorem own_take {w : World} {base : Nat} {e : TypeId} {g n cp k : Nat} {l : List Nat} (h : w.ownsRow base e 1 (.slice (some ⟨g, 0, none⟩) n cp) n ((ofN' l).map (Value.int .i64))) (hk : k ≤ n) : w.ownsRow base e 1 (.slice (some ⟨g, 0, none⟩) k cp) k ((ofN' (l.take k)).map (Value.int .i64)) := by
  obtain ⟨h1, h2⟩ := h
  have hl : l.length = n := by simpa [ofN'] using h1
  refine ⟨by simp [ofN']; omega, ?_⟩
  rcases h2 with ⟨h2, _⟩ | ⟨g', cap, cur, hv, hg, hh, hc, hm, hs, hx⟩
  · cases h2
  · injection hv with h3 _ h4
    subst h4
    refine .inr ⟨g', cp, cur, by rw [h3], hg, hh, by omega, hm, hs, ?_⟩
    have e : ofN' (l.take k) = (ofN' l).take k := by simp [ofN', List.map_take]
    rw [e, List.map_take, ← hx, List.take_take]
    congr 1
    omega
/-- Pieces of lengths, and what is told of their number. -/
structure PcCut (L : List Nat) (ps : List (Nat × Nat)) (sh : Int) (M : Nat) : Prop where
  ok : ∀ p ∈ ps, PieceOk p
  mM : ps.length ≤ M ∧ M ≤ L.length
  exp : ∃ z, expandP 8 ps ++ List.replicate z 0 = L ∧ (z = 0 ∨ M = ps.length)
  sh : (sh < 2 ∧ M = L.length) ∨ (sh = (ps.length : Int) ∧ 2 ≤ ps.length ∧ M = ps.length)
theorem PcCut.whole {L : List Nat} {ps : List (Nat × Nat)} {sh : Int} (ok : ∀ p ∈ ps, PieceOk p) (he : expandP 8 ps = L) (hs : sh < 2) : PcCut L ps sh L.length :=
  ⟨ok, ⟨by rw [← he]; exact expandP_len ps 8, Nat.le_refl _⟩, ⟨0, by simpa using he, .inl rfl⟩, .inl ⟨hs, rfl⟩⟩
theorem tail_zeros {L : List Nat} {k : Nat} (hk : k ≤ L.length) (h : ∀ j, k ≤ j → j < L.length → L.getD j 0 = 0) : L.take k ++ List.replicate (L.length - k) 0 = L := by
  have := take_run L k (L.length - k) 0 (by omega) (fun j hj => h (k + j) (by omega) (by omega))
  rw [Nat.add_sub_cancel' hk, List.take_length] at this
  exact this.symm
theorem PcCut.short {L : List Nat} {ps : List (Nat × Nat)} {k : Nat} (ok : ∀ p ∈ ps, PieceOk p) (hk : k ≤ L.length) (he : expandP 8 ps = L.take k) (hz : ∀ j, k ≤ j → j < L.length → L.getD j 0 = 0) (h2 : 2 ≤ ps.length ∨ k = L.length) : ∃ M, PcCut L ps (ps.length : Int) M := by
  by_cases h3 : 2 ≤ ps.length
  · refine ⟨ps.length, ok, ⟨Nat.le_refl _, ?_⟩, ⟨L.length - k, by rw [he]; exact tail_zeros hk hz, .inr rfl⟩, .inr ⟨rfl, h3, rfl⟩⟩
    have := expandP_len ps 8
    rw [he] at this
    have := List.length_take_le' k L
    omega
  · have hkl : k = L.length := by
      rcases h2 with h | h
      · exact absurd h h3
      · exact h
    rw [hkl, List.take_length] at he
    exact ⟨L.length, PcCut.whole ok he (by omega)⟩
theorem pcell0 : pcell (0, 0) = [.int .i64 0, .int .i64 0, .int .i64 0] := rfl
def NormPost (B c g base len val size : Nat) (w0 : World) (L : List Nat) (e : Ending) (w' : World) : Prop := ∃ (x : Value) (len' val' : Nat), e = .returned x ∧ CodeAt w' w0.heap.size L x ∧ WC B c g base w0 len' val' w' ∧ Wrote len val len' val' (fun V => PreTold V len len' size L) ∧ len' ≤ len + 100000
set_option maxRecDepth 100000 in
set_option maxHeartbeats 8000000 in
theorem normal_any {B c g base len val : Nat} {w0 w : World} (h : WC B c g base w0 len val w) (gl bl cap size : Nat) (L : List Nat) (hO : w.ownsRow bl 3 1 (.slice (some ⟨gl, 0, none⟩) size cap) size ((ofN' L).map (Value.int .i64))) (hok : LenOk 15 size L) (hbl : w0.heap.size ≤ bl) (h1 : 1 ≤ size) (hsz : (size : Int) ≤ 4096) (hlen : (len : Int) ≤ 900000000) :
    Calls Tryd.prog 45 #[.pointer (some ⟨c, 0, none⟩), .pointer (some ⟨g, 0, none⟩), .slice (some ⟨gl, 0, none⟩) size cap] w (NormPost B c g base len val size w0 L) := by
  have hL := hok.len
  have hW1 := h.alloc (.cells #[.slice none 0 0, .slice none 0 0, .bool false] 44)
  have hR1 := Blk.new w 44 #[.slice none 0 0, .slice none 0 0, .bool false]
  have hO1 : (w.alloc (.cells #[.slice none 0 0, .slice none 0 0, .bool false] 44)).ownsRow bl 3 1 (.slice (some ⟨gl, 0, none⟩) size cap) size ((ofN' L).map (Value.int .i64)) := hO.alloc _
  have hcap := own_cap' hO
  have hs0 := h.sz
  have hgl1 := (hO.lt gl rfl).1
  have hgl2 := (hO.lt gl rfl).2
  have hcapI : (size : Int) ≤ (cap : Int) := by omega
  have h1I : (1 : Int) ≤ (size : Int) := by omega
  replace h := hide h
  replace hok := hide hok
  replace hO := hide hO
  replace hL := hide hL
  go_enter Tryd.func45, Tryd.ntmps45
  go_wp2_with fail
  refine (put_wc hW1 0 1 _ _ rfl rfl (by omega) (by decide) (by decide)).mono ?_
  rintro e w2 ⟨rfl, val2, hW2, hT2, hu2⟩
  have hR2 := hide (hu2.typ _ _ _ hR1 (by decide))
  have hO2 := hide (hu2.own hO1 (by decide))
  replace hT2 := hide hT2
  clear hu2 hW1 hR1 hO1
  go_wp2_with fail
  refine (pieces_wn hW2 _ bl cap size L hL.out (by omega) hok.out.le hO2.out).mono ?_
  rintro e w3 ⟨ps, A3, c3, rfl, hpo, hpe, ho3, hW3, hu3⟩
  have hR3 := hide (hu3.typ _ _ _ hR2.out (by decide))
  have hO3 := hide (hu3.own hO2.out (by decide))
  have hs3 := hW2.sz
  replace ho3 := hide (own_down ho3 hs3)
  replace hpo := hide hpo
  replace hpe := hide hpe
  replace hW3 := hide hW3
  clear hu3 hW2 hR2 hO2
  go_upto_if 24 with (first | (go_at_call 42; (with_reducible refine (is_wc hW3.out _ (by decide) (by decide)).mono ?_); rintro e w4 ⟨b, rfl, hW4, hu4⟩) | fail)
  have hR4 := hide (hu4.typ _ _ _ hR3.out (by decide))
  have hO4 := hide (hu4.own hO3.out (by decide))
  have ho4 := hide (hu4.own ho3.out (by decide))
  replace hW4 := hide hW4
  have hs4 := hu4.size
  have hz4 : B ≤ w4.heap.size := hW4.out.bz
  clear hu4 hW3 hR3 hO3 ho3
  go_cut [7, 8] from 25 to 66 (fun u7 u8 wc => ∃ (ps : List (Nat × Nat)) (A5 : Option Addr) (c5 : Nat) (sh : Int) (M : Nat), u7 = .slice A5 ps.length c5 ∧ u8 = .int .i64 sh ∧ PcCut L ps sh M ∧ wc.ownsRow w0.heap.size 110 3 (.slice A5 ps.length c5) ps.length (pcells ps) ∧ WC B c g base w0 (len + 1) val2 wc ∧ UpdT B ([42, 5, 91] : List TypeId) w4 wc)
  case first =>
    cases b with
    | false =>
      go_wp2_with fail
      go_meet
      exact ⟨ps, A3, c3, -1, L.length, rfl, rfl, PcCut.whole hpo.out hpe.out (by decide), ho4.out, hW4.out, UpdT.refl _ _ _⟩
    | true =>
      clear ho4 hpo hpe
      have hLs := hL.out
      go_upto_block 0 with fail
      go_cut [9] from 28 to 38 (fun u9 wc => ∃ t : Nat, u9 = .int .i64 (t : Nat) ∧ t < size ∧ (∀ j, t + 1 ≤ j → j < L.length → L.getD j 0 = 0) ∧ w4 = wc)
      case first =>
        go_wp2_with fail
        go_loopg [9] (size - 1) (fun k u9 wr => u9 = .int .i64 (k : Nat) ∧ k < size ∧ (∀ j, k + 1 ≤ j → j < L.length → L.getD j 0 = 0) ∧ w4 = wr)
        case atStart => exact ⟨by congr 1; omega, by omega, fun j h3 h4 => by omega, rfl⟩
        case round =>
          obtain ⟨rfl, hks, hz, rfl⟩ := hrel
          cases gk with
          | zero =>
            replace hz := hide hz
            go_wp2_with fail
            go_meet
            exact ⟨0, rfl, hks, hz.out, rfl⟩
          | succ k =>
            have kx := own_cell hO4.out (k + 1) hks
            rw [ofN'_get] at kx
            have hkI : (0 : Int) < ((k + 1 : Nat) : Int) := by omega
            have hkJ : ((k + 1 : Nat) : Int) < (size : Int) := by omega
            have hkN : ((k + 1 : Nat) : Int) - 1 = (k : Int) := by omega
            by_cases hx : L.getD (k + 1) 0 = 0
            · have hz2 : ∀ j, k + 1 ≤ j → j < L.length → L.getD j 0 = 0 := fun j h3 h4 => by
                rcases Nat.lt_or_ge (k + 1) j with h5 | h5
                · exact hz j h5 h4
                · rw [show j = k + 1 by omega]; exact hx
              rw [hx] at kx
              replace hz2 := hide hz2
              replace hz := hide hz
              clear hx
              go_wp2_with fail
              go_roundg k
              case measure => omega
              case rel => exact ⟨rfl, by omega, hz2.out, rfl⟩
            · have hxI : ¬ ((L.getD (k + 1) 0 : Nat) : Int) = 0 := by omega
              generalize L.getD (k + 1) 0 = x at *
              have hxq : ((x : Int) == 0) = false := beq_false_of_ne hxI
              replace hz := hide hz
              go_wp2_with fail
              go_meet
              exact ⟨k + 1, rfl, hks, hz.out, rfl⟩
      case rest =>
        obtain ⟨t, rfl, ht, hz, rfl⟩ := hcut
        have hoT := own_take hO4.out (show t + 1 ≤ size by omega)
        have hTl : (L.take (t + 1)).length = t + 1 := by rw [List.length_take]; omega
        have hT15 : ∀ x ∈ L.take (t + 1), x ≤ 15 := fun x hx => hok.out.le x (List.mem_of_mem_take hx)
        have cP := pieces_wn hW4.out (some ⟨gl, 0, none⟩) bl cap (t + 1) (L.take (t + 1)) hTl (by omega) hT15 hoT
        obtain ⟨T, hT⟩ : ∃ T, T = t + 1 := ⟨_, rfl⟩
        rw [← hT] at hz cP hTl
        have hTI : (t : Int) + 1 = (T : Int) := by omega
        have hTc : (T : Int) ≤ (cap : Int) := by omega
        have hTs : T ≤ size := by omega
        replace hz := hide hz
        replace cP := hide cP
        replace hTl := hide hTl
        replace hT := hide hT
        clear hoT hT15
        go_wp2_with fail
        (with_reducible refine (cP.out).mono ?_)
        rintro e w5 ⟨qs, A5, c5, rfl, hpo, hpe, ho5, hW5, hu5⟩
        have hql := expandP_len qs 8
        rw [hpe, hTl.out] at hql
        by_cases hq2 : 2 ≤ qs.length
        · have hq2I : ¬ (qs.length : Int) < 2 := by omega
          obtain ⟨M, hPC⟩ := PcCut.short (k := T) hpo (by omega) hpe hz.out (.inl hq2)
          replace hpo := hide hpo
          replace hpe := hide hpe
          replace ho5 := hide ho5
          replace hW5 := hide hW5
          replace hu5 := hide hu5
          replace hPC := hide hPC
          clear cP
          go_wp2_with fail
          go_meet
          exact ⟨qs, A5, c5, _, M, rfl, rfl, hPC.out, own_down ho5.out hW4.out.sz, hW5.out, hu5.out⟩
        · have hq2I : (qs.length : Int) < 2 := by omega
          have hpe2 := hpe
          replace hpo := hide hpo
          replace hpe2 := hide hpe2
          replace ho5 := hide ho5
          replace hW5 := hide hW5
          replace hu5 := hide hu5
          clear cP hpe
          go_wp2_with fail
          go_loopg [7, 9] (size - T) (fun k u7 u9 wr => ∃ (rs : List (Nat × Nat)) (A6 : Option Addr) (c6 t6 : Nat), k + (t6 + 1) = size ∧ u7 = .slice A6 rs.length c6 ∧ u9 = .int .i64 (t6 : Nat) ∧ (∀ p ∈ rs, PieceOk p) ∧ expandP 8 rs = L.take (t6 + 1) ∧ T ≤ t6 + 1 ∧ wr.ownsRow w4.heap.size 110 3 (.slice A6 rs.length c6) rs.length (pcells rs) ∧ WC B c g base w0 (len + 1) val2 wr ∧ UpdT B ([42, 5, 91] : List TypeId) w4 wr)
          case atStart => exact ⟨qs, A5, c5, t, by have := hT.out; omega, rfl, rfl, hpo.out, by rw [hpe2.out, hT.out], by have := hT.out; omega, ho5.out, hW5.out, hu5.out⟩
          case round =>
            clear hpo hpe2 ho5 hW5 hu5
            obtain ⟨rs, A6, c6, t6, hk6, rfl, rfl, hpo, hpe, hT6, ho6, hW6, hu6⟩ := hrel
            have hzz : ∀ j, t6 + 1 ≤ j → j < L.length → L.getD j 0 = 0 := fun j h3 h4 => hz.out j (by omega) h4
            have hrl := expandP_len rs 8
            rw [hpe, List.length_take] at hrl
            by_cases hr2 : 2 ≤ rs.length
            · have hr2I : ¬ (rs.length : Int) < 2 := by omega
              obtain ⟨M, hPC⟩ := PcCut.short (k := t6 + 1) hpo (by omega) hpe hzz (.inl hr2)
              replace hpo := hide hpo
              replace hpe := hide hpe
              replace ho6 := hide ho6
              replace hW6 := hide hW6
              replace hu6 := hide hu6
              replace hPC := hide hPC
              replace hzz := hide hzz
              go_wp2_with fail
              go_meet
              exact ⟨rs, A6, c6, _, M, rfl, rfl, hPC.out, own_down ho6.out hW4.out.sz, hW6.out, hu6.out⟩
            · have hr2I : (rs.length : Int) < 2 := by omega
              have h6I : (t6 : Int) + 1 ≤ 4096 := by omega
              cases gk with
              | zero =>
                obtain ⟨M, hPC⟩ := PcCut.short (k := t6 + 1) hpo (by omega) hpe hzz (.inr (by omega))
                have h6J : ¬ (t6 : Int) + 1 < (size : Int) := by omega
                replace hpo := hide hpo
                replace hpe := hide hpe
                replace ho6 := hide ho6
                replace hW6 := hide hW6
                replace hu6 := hide hu6
                replace hPC := hide hPC
                replace hzz := hide hzz
                go_wp2_with fail
                go_meet
                exact ⟨rs, A6, c6, _, M, rfl, rfl, hPC.out, own_down ho6.out hW4.out.sz, hW6.out, hu6.out⟩
              | succ k =>
                have h6J : (t6 : Int) + 1 < (size : Int) := by omega
                have hpo2 : ∀ p ∈ rs ++ [(0, 0)], PieceOk p := fun p hp => by
                  rcases List.mem_append.1 hp with h | h
                  · exact hpo p h
                  · rw [List.mem_singleton.1 h]
                    exact ⟨by decide, by decide⟩
                have hpe2 : expandP 8 (rs ++ [(0, 0)]) = L.take (t6 + 1 + 1) := by
                  rw [expandP_append, hpe]
                  exact (take_run L (t6 + 1) 1 0 (by omega) (fun j hj => hzz (t6 + 1 + j) (by omega) (by omega))).symm
                have hps2 : (rs ++ [(0, 0)]).length = rs.length + 1 := by simp
                have hsz6 := hu6.size
                replace hpo2 := hide hpo2
                replace hpe2 := hide hpe2
                replace ho6 := hide ho6
                replace hW6 := hide hW6
                replace hu6 := hide hu6
                replace hzz := hide hzz
                replace hps2 := hide hps2
                clear hpo hpe
                go_wp2_with (first | (at_builtin; refine wpList_pushN rfl (.tmp 59) (.tmp 61) 107 rfl w4.heap.size 110 (.agg #[.int .i64 0, .int .i64 0, .int .i64 0]) 3 24 Tryd.underlying107 info_piece rfl (by decide) (.slice A6 rs.length c6) rs.length (pcells rs) rfl ho6.out _ rfl (by simp [Value.oneCell']) rfl (by simp only [maxLen]; omega) (by omega) (by omega) ?_; intro v' w7 hown' hg'; obtain ⟨A7, c7, rfl⟩ := own_shape hown'; have hu7 := hide (hu6.out.grownNew ho6.out hz4 (Nat.le_refl _) hg'); have hW7 := hide (hW6.out.move ((grown_typed ho6.out hg').low' hz4) (by simp) (by simp) (by simp) (hW6.out.up.grownNew ho6.out hz4 hW4.out.sz hg')); replace hown' := hide hown'; replace hg' := hide hg') | fail)
                go_roundg k
                case measure => omega
                case rel => exact ⟨rs ++ [(0, 0)], A7, c7, t6 + 1, by omega, by rw [hps2.out], by go_num, hpo2.out, hpe2.out, by omega, by rw [hps2.out, pcells_append, pcell0]; exact hown'.out, hW7.out, hu7.out⟩
  case rest =>
    obtain ⟨ps, A5, c5, sh, M, rfl, rfl, hPC, ho5, hW5, hu5⟩ := hcut
    have hR5 := hide (hu5.typ _ _ _ hR4.out (by decide))
    have hO5 := hide (hu5.own hO4.out (by decide))
    have hpl : (ps.length : Int) ≤ 4096 := by have := hPC.mM; have := hL.out; omega
    have hs5 := hW5.sz
    have hsR : w.heap.size < wc.heap.size := hR5.out.lt
    replace hW5 := hide hW5
    replace ho5 := hide ho5
    replace hPC := hide hPC
    clear hu5 hR4 hO4 ho4 hW4 hpo hpe hs4 hz4 hs3
    go_wp2_with (first | (refine wpList_makeB _ rfl (.const (.int .i64 19)) (.const (.int .i64 19)) rfl w0.heap.size 19 19 19 rfl rfl rfl rfl (by decide) hs5 ?_; intro w6 ho6 hg6 hz6; have hu6 := hide ((Upd.refl [] wc).grown hg6 (fun g h => by cases h)); replace ho6 := hide ho6; replace hg6 := hide hg6) | fail)
    have hu6' : UpdT B [] wc w6 := hu6.out.typed0
    have hW6 := hide (hW5.out.made hu6')
    have hR6 := hide (hu6'.typ _ _ _ hR5.out (by simp))
    have hO6 := hide (hu6'.own hO5.out (by simp))
    have hp6 := hide (hu6'.own ho5.out (by simp))
    have hUge := (ho6.out.lt wc.heap.size rfl).1
    clear hu6 hu6' hg6 hW5 hR5 hO5 ho5
    generalize wc.heap.size = U at *
    go_loopg [11] ps.length (fun k u11 wr => ∃ (i : Nat) (u : List Bool), k + i = ps.length ∧ u11 = .int .i64 (i : Nat) ∧ (∀ j, j < i → u.getD (ps.getD j (0, 0)).1 false = true) ∧ wr.ownsRow w0.heap.size 4 1 (.slice (some ⟨U, 0, none⟩) 19 19) 19 (ofB u) ∧ WC B c g base w0 (len + 1) val2 wr ∧ UpdT B [4] w6 wr)
    case atStart => exact ⟨0, _, rfl, rfl, fun j hj => by omega, ho6.out, hW6.out, UpdT.refl _ _ _⟩
    case round =>
      clear ho6 hW6
      obtain ⟨i, u, hk, rfl, hus, ho7, hW7, hu7⟩ := hrel
      cases gk with
      | succ k =>
        have hiI : (i : Int) < (ps.length : Int) := by omega
        obtain ⟨gp, rfl, _, hgpl, hcp⟩ := own_pieces (hu7.own hp6.out (by decide)) (by omega)
        obtain ⟨k0, _, _⟩ := hcp i (by omega)
        have hpk : (ps.getD i (0, 0)).1 ≤ 18 := by
          have e1 : ps.getD i (0, 0) = ps[i]'(by omega) := by simp [show i < ps.length by omega]
          rw [e1]
          exact (hPC.out.ok _ (List.getElem_mem _)).1
        have hkc := ownB_cell ho7 (ps.getD i (0, 0)).1 (by omega)
        have hkf := ho7.frozenAt (ps.getD i (0, 0)).1
        have hul := ownB_len ho7
        have ho8 := own_setB ho7 (ps.getD i (0, 0)).1 true
        have hus2 : ∀ j, j < i + 1 → (u.set (ps.getD i (0, 0)).1 true).getD (ps.getD j (0, 0)).1 false = true := fun j hj => by
          by_cases he : (ps.getD i (0, 0)).1 = (ps.getD j (0, 0)).1
          · rw [← he, List.getD_eq_getElem?_getD, List.getElem?_set_self (by omega)]
            rfl
          · rw [List.getD_eq_getElem?_getD, List.getElem?_set_ne he, ← List.getD_eq_getElem?_getD]
            rcases Nat.lt_or_ge j i with h | h
            · exact hus j h
            · rw [show j = i by omega] at he
              exact absurd rfl he
        obtain ⟨cs, hcs, _⟩ := own_blk' ho7
        generalize (ps.getD i (0, 0)).1 = kd at *
        have hW8 := hW7.set (i := kd) hcs hUge (by decide) (by decide) (by decide) (.bool true)
        have hu8 := hu7.set (i := kd) hcs (Nat.le_trans hW7.lie.bw hUge) (by simp) (.bool true)
        have hkI : (kd : Int) < 19 := by omega
        generalize u.getD kd false = z at hkc
        replace hus := hide hus
        replace hus2 := hide hus2
        replace ho8 := hide ho8
        replace hW8 := hide hW8
        replace hu8 := hide hu8
        replace ho7 := hide ho7
        replace hW7 := hide hW7
        replace hu7 := hide hu7
        replace hul := hide hul
        clear hcp hcs
        go_wp2_with fail
        go_roundg k
        case measure => omega
        case rel => exact ⟨i + 1, _, by omega, by go_num, hus2.out, ho8.out, hW8.out, hu8.out⟩
      | zero =>
        obtain rfl : i = ps.length := by omega
        have hiI : ¬ (ps.length : Int) < (ps.length : Int) := by omega
        have hp7 := hide (hu7.own hp6.out (by decide))
        have hR7 := hide (hu7.typ _ _ _ hR6.out (by decide))
        have hO7 := hide (hu7.own hO6.out (by decide))
        have hul := ownB_len ho7
        replace hus := hide hus
        replace ho7 := hide ho7
        replace hW7 := hide hW7
        clear hu7 hp6 hR6 hO6
        go_upto_if 82 with (first | (go_at_call 42; (with_reducible refine (is_wc hW7.out _ (by decide) (by decide)).mono ?_); rintro e w8 ⟨b2, rfl, hW8, hu8⟩) | fail)
        have hR8 := hide (hu8.typ _ _ _ hR7.out (by decide))
        have hO8 := hide (hu8.own hO7.out (by decide))
        have hp8 := hide (hu8.own hp7.out (by decide))
        have ho8 := hide (hu8.own ho7.out (by decide))
        replace hW8 := hide hW8
        clear hu8 hW7 hR7 hO7 hp7 ho7
        go_cut [] from 83 to 86 (fun wc => ∃ u : List Bool, (∀ j, j < ps.length → u.getD (ps.getD j (0, 0)).1 false = true) ∧ wc.ownsRow w0.heap.size 4 1 (.slice (some ⟨U, 0, none⟩) 19 19) 19 (ofB u) ∧ WC B c g base w0 (len + 1) val2 wc ∧ UpdT B (4 :: ([42, 5, 91] : List TypeId)) w8 wc)
        case first =>
          cases b2 with
          | false =>
            go_wp2_with fail
            go_meet
            exact ⟨u, hus.out, ho8.out, hW8.out, UpdT.refl _ _ _⟩
          | true =>
            go_wp2_with fail
            (with_reducible refine (nextc_wc hW8.out _ (by decide) (by decide)).mono ?_)
            rintro e w9 ⟨y, rfl, hy, hW9, hu9⟩
            have ho9 := hu9.own ho8.out (by decide)
            have hkc := ownB_cell ho9 y (by omega)
            have hkf := ho9.frozenAt y
            generalize u.getD y false = z at hkc
            have ho10 := own_setB ho9 y true
            obtain ⟨cs, hcs, _⟩ := own_blk' ho9
            have hW10 := hW9.set (i := y) hcs hUge (by decide) (by decide) (by decide) (.bool true)
            have hu10 := (hu9.more (ts' := 4 :: ([42, 5, 91] : List TypeId)) (by simp)).set (i := y) hcs (Nat.le_trans hW9.lie.bw hUge) (by simp) (.bool true)
            have hus2 : ∀ j, j < ps.length → (u.set y true).getD (ps.getD j (0, 0)).1 false = true := fun j hj => by
              by_cases he : y = (ps.getD j (0, 0)).1
              · rw [← he, List.getD_eq_getElem?_getD, List.getElem?_set_self (by omega)]
                rfl
              · rw [List.getD_eq_getElem?_getD, List.getElem?_set_ne he, ← List.getD_eq_getElem?_getD]
                exact hus.out j hj
            replace ho9 := hide ho9
            replace ho10 := hide ho10
            replace hW9 := hide hW9
            replace hW10 := hide hW10
            replace hu9 := hide hu9
            replace hu10 := hide hu10
            replace hus2 := hide hus2
            clear hcs
            go_wp2_with fail
            go_meet
            exact ⟨_, hus2.out, ho10.out, hW10.out, hu10.out⟩
        case rest =>
          clear hul hus ho8 hW8
          obtain ⟨u, hus, ho9, hW9, hu9⟩ := hcut
          have hR9 := hide (hu9.typ _ _ _ hR8.out (by decide))
          have hO9 := hide (hu9.own hO8.out (by decide))
          have hp9 := hide (hu9.own hp8.out (by decide))
          have hul := ownB_len ho9
          replace ho9 := hide ho9
          replace hus := hide hus
          replace hul := hide hul
          clear hu9 hR8 hO8 hp8
          go_wp2_with fail
          refine (lengths_wn hW9 7 w0.heap.size 19 19 _ rfl u _ hul.out ho9.out (by decide) (by decide) (by decide) (by decide) (by decide)).mono ?_
          rintro e w10 ⟨K, A10, c10, rfl, hK, hoK, hW10, hu10⟩
          rw [hul.out] at hoK ⊢
          have hKok : LenOk 7 19 K := by have := hK.ok; rwa [hul.out] at this
          have hKu : ∀ j, j < ps.length → 1 ≤ K.getD (ps.getD j (0, 0)).1 0 := fun j hj => hK.used _ (by
            have e1 : ps.getD j (0, 0) = ps[j]'(by omega) := by simp [show j < ps.length by omega]
            have := (hPC.out.ok _ (List.getElem_mem (show j < ps.length by omega))).1
            rw [hul.out, e1]
            omega) (hus.out j hj)
          have hR10 := hide (hu10.typ _ _ _ hR9.out (by decide))
          have hO10 := hide (hu10.own hO9.out (by decide))
          have hp10 := hide (hu10.own hp9.out (by decide))
          have hsz10 := hW10.sz
          have hw9z := hW9.sz
          replace hoK := hide (own_down hoK hw9z)
          replace hKok := hide hKok
          replace hKu := hide hKu
          clear hK hu10 hR9 hO9 hp9 ho9 hus hul hW9
          go_wp2_with fail
          refine (canonical_wn hW10 _ w0.heap.size c10 19 K hKok.out.len (by decide) (fun x hx => Nat.le_trans (hKok.out.le x hx) (by decide)) hsz10 hoK.out).mono ?_
          rintro e w11 ⟨V, A1, c1, A2, c2, n1, rfl, hV, hX11, hW11, hu11⟩
          have hR11 := hide (hu11.typ _ _ _ hR10.out (by decide))
          have hO11 := hide (hu11.own hO10.out (by decide))
          have hp11 := hide (hu11.own hp10.out (by decide))
          obtain ⟨x2, hx2⟩ : ∃ x2, x2 = decide (nz K = 1) := ⟨_, rfl⟩
          rw [← hx2] at hV
          subst hV
          obtain ⟨A3', V3, c3', cv3, he3, hoA, hoV⟩ := hX11.h
          rw [hKok.out.len] at he3 hoA
          simp only [Value.agg.injEq, Array.mk.injEq, List.cons.injEq, Value.slice.injEq, and_true] at he3
          obtain ⟨⟨rfl, rfl, rfl⟩, ⟨rfl, -, rfl⟩, hx2b⟩ := he3
          obtain ⟨ga, rfl, _⟩ := own_some hoA (by decide)
          have hXn := Blk.new w11 44 #[.slice (some ⟨ga, 0, none⟩) 19 c1, .slice A2 19 c2, .bool x2]
          have huX := (UpdT.refl B [] w11).alloc (.cells #[.slice (some ⟨ga, 0, none⟩) 19 c1, .slice A2 19 c2, .bool x2] 44)
          have hRX := hide (huX.typ _ _ _ hR11.out (by simp))
          have hOX := hide (huX.own hO11.out (by simp))
          have hpX := hide (huX.own hp11.out (by simp))
          have hXX := hide (hX11.typed huX (by simp))
          have hoX := hide (huX.own hoA (by simp))
          have hWX := hW11.made huX
          replace hXn := hide hXn
          replace hW11 := hide hW11
          replace hX11 := hide hX11
          replace hoA := hide hoA
          clear hoV
          replace hx2 := hide hx2
          replace hx2b := hide hx2b
          clear hu11 huX hR10 hO10 hp10 hoK hW10
          go_wp2_with fail
          refine (order_wc hWX).mono ?_
          rintro e wE ⟨go, co, rfl, hoO, hWE, huE⟩
          have hkeep : ∀ W, UpdT B ([42, 5, 91] : List TypeId) wE W → (W.cell? ⟨w11.heap.size, 0, none⟩ = some (.slice (some ⟨ga, 0, none⟩) 19 c1) ∧ (∀ i, i < 19 → W.cell? ⟨ga, i, none⟩ = some (.int .i64 ((K.getD i 0 : Nat) : Int))) ∧ (∀ i, i < 19 → W.cell? ⟨go, i, none⟩ = some (.int .i64 ((ord.getD i 0 : Nat) : Int)))) := fun W hW => by
            have q1 := hW.typ _ _ _ (huE.typ _ _ _ hXn.out (by decide)) (by decide)
            have q2 := hW.own (huE.own hoX.out (by decide)) (by decide)
            have q3 := hW.own hoO (by decide)
            refine ⟨q1.cell 0, fun i hi => ?_, fun i hi => ?_⟩
            · have h := own_cell q2 i hi
              rwa [ofN'_get] at h
            · have h := own_cell q3 i hi
              rwa [ofN'_get] at h
          have hmem : ∀ W, UpdT B ([42, 5, 91] : List TypeId) wE W → (Blk W w.heap.size 44 #[.slice none 0 0, .slice none 0 0, .bool false] ∧ W.ownsRow bl 3 1 (.slice (some ⟨gl, 0, none⟩) size cap) size ((ofN' L).map (Value.int .i64)) ∧ W.ownsRow w0.heap.size 110 3 (.slice A5 ps.length c5) ps.length (pcells ps) ∧ Blk W w11.heap.size 44 #[.slice (some ⟨ga, 0, none⟩) 19 c1, .slice A2 19 c2, .bool x2] ∧ CodeAt W w0.heap.size K (.agg #[.slice (some ⟨ga, 0, none⟩) 19 c1, .slice A2 19 c2, .bool x2])) := fun W hW =>
            ⟨hW.typ _ _ _ (huE.typ _ _ _ hRX.out (by decide)) (by decide), hW.own (huE.own hOX.out (by decide)) (by decide), hW.own (huE.own hpX.out (by decide)) (by decide), hW.typ _ _ _ (huE.typ _ _ _ hXn.out (by decide)) (by decide), (hXX.out.typed huE (by decide)).typed hW (by decide)⟩
          have hord : ∀ i, i < 19 → ord.getD i 0 < 19 := by decide
          have huEE := UpdT.refl B ([42, 5, 91] : List TypeId) wE
          replace hkeep := hide hkeep
          replace hmem := hide hmem
          replace hord := hide hord
          replace hWE := hide hWE
          replace huEE := hide huEE
          clear huE hoO hRX hOX hpX hXn hoX hXX hWX hW11 hX11 hoA hR11 hO11 hp11
          generalize w11.heap.size = X at *
          generalize w.heap.size = R at *
          go_upto_block 6 with fail
          go_cut [14] from 92 to 112 (fun u14 wc => ∃ n : Nat, u14 = .int .i64 (n : Nat) ∧ 4 ≤ n ∧ n ≤ 19 ∧ (∀ i, n ≤ i → i < 19 → K.getD (ord.getD i 0) 0 = 0) ∧ WC B c g base w0 (len + 1) val2 wc ∧ UpdT B ([42, 5, 91] : List TypeId) wE wc)
          case first =>
            go_wp2_with fail
            go_loopg [14] 15 (fun k u14 wr => ∃ n : Nat, n = k + 4 ∧ u14 = .int .i64 (n : Nat) ∧ n ≤ 19 ∧ (∀ i, n ≤ i → i < 19 → K.getD (ord.getD i 0) 0 = 0) ∧ WC B c g base w0 (len + 1) val2 wr ∧ UpdT B ([42, 5, 91] : List TypeId) wE wr)
            case atStart => exact ⟨19, rfl, rfl, by decide, fun i h1 h2 => by omega, hWE.out, huEE.out⟩
            case round =>
              obtain ⟨n, hn, rfl, hn19, hz, hWr, hur⟩ := hrel
              obtain ⟨kX, kK, kO⟩ := hkeep.out _ hur
              cases gk with
              | zero =>
                have hnI : ¬ (4 : Int) < (n : Int) := by omega
                have hnd : decide ((4 : Int) < (n : Int)) = false := decide_eq_false hnI
                replace hz := hide hz
                replace hWr := hide hWr
                replace hur := hide hur
                replace hn := hide hn
                replace kK := hide kK
                replace kO := hide kO
                go_wp2_with fail
                go_quiet (fail)
                go_wp2_with fail
                go_meet
                exact ⟨n, rfl, by have := hn.out; omega, hn19, hz.out, hWr.out.drewN _, hur.out.drewN _⟩
              | succ k =>
                obtain ⟨P, hP⟩ : ∃ P, P = k + 4 := ⟨_, rfl⟩
                have hPn : (n : Int) - 1 = (P : Int) := by omega
                have hPw : IntKind.i64.wrap ((n : Int) - 1) = (P : Int) := by rw [IntWalk.i64_in _ (by omega)]; omega
                have hPp : IntKind.i64.wrap (P : Int) = (P : Int) := IntWalk.i64_in _ (by omega)
                have hnI : (4 : Int) < (n : Int) := by omega
                have hPI : (P : Int) < 19 := by omega
                have hkO := kO P (by omega)
                have ho19 := hord.out P (by omega)
                have hkK := kK (ord.getD P 0) ho19
                have hnP : n = P + 1 := by omega
                obtain ⟨o, ho⟩ : ∃ o, o = ord.getD P 0 := ⟨_, rfl⟩
                rw [← ho] at hkO ho19 hkK
                have hoI : (o : Int) < 19 := by omega
                by_cases hx : K.getD o 0 = 0
                · have hz2 : ∀ i, P ≤ i → i < 19 → K.getD (ord.getD i 0) 0 = 0 := fun i h1 h2 => by
                    rcases Nat.lt_or_ge P i with h | h
                    · exact hz i (by omega) h2
                    · rw [show i = P by omega, ← ho]; exact hx
                  rw [hx] at hkK
                  replace hkK : wr.cell? ⟨ga, o, none⟩ = some (.int .i64 0) := hkK
                  have hkA : ∀ W2, UpdT B ([42, 5, 91] : List TypeId) wr W2 → (W2.cell? ⟨X, 0, none⟩ = some (.slice (some ⟨ga, 0, none⟩) 19 c1) ∧ W2.cell? ⟨go, P, none⟩ = some (.int .i64 (o : Nat)) ∧ W2.cell? ⟨ga, o, none⟩ = some (.int .i64 0)) := fun W2 h => by
                    obtain ⟨q1, q2, q3⟩ := hkeep.out W2 (hur.trans h)
                    have q2' := q2 o ho19
                    rw [hx] at q2'
                    exact ⟨q1, by rw [q3 P (by omega), ho], q2'⟩
                  have hkB : ∀ W2, UpdT B ([42, 5, 91] : List TypeId) wr.drew W2 → (W2.cell? ⟨X, 0, none⟩ = some (.slice (some ⟨ga, 0, none⟩) 19 c1) ∧ W2.cell? ⟨go, P, none⟩ = some (.int .i64 (o : Nat)) ∧ W2.cell? ⟨ga, o, none⟩ = some (.int .i64 0)) := fun W2 h => hkA W2 (((UpdT.refl B ([42, 5, 91] : List TypeId) wr).drewN 1).trans h)
                  have cI := hide (fun (W : World) (h : WC B c g base w0 (len + 1) val2 W) => is_wc h 9 (by decide) (by decide))
                  have hurd := hide (hur.drewN 1)
                  replace hkA := hide hkA
                  replace hkB := hide hkB
                  replace hz := hide hz
                  replace hz2 := hide hz2
                  replace hWr := hide hWr
                  replace hur := hide hur
                  replace hn := hide hn
                  replace hP := hide hP
                  replace hnP := hide hnP
                  replace ho := hide ho
                  replace hx := hide hx
                  clear kK kO
                  go_wp2_with fail
                  go_region_held3 (fun W => W.cell? ⟨X, 0, none⟩ = some (.slice (some ⟨ga, 0, none⟩) 19 c1) ∧ W.cell? ⟨go, P, none⟩ = some (.int .i64 (o : Nat)) ∧ W.cell? ⟨ga, o, none⟩ = some (.int .i64 0))
                    (first | go_keep | exact hkB.out _ hu2.out | exact hkA.out _ hu2.out)
                    (first | (go_at_call 42; (with_reducible refine (cI.out _ (by first | exact hWr.out | exact hWr.out.drew)).mono ?_); rintro e w2 ⟨b9, rfl, hW2, hu2⟩; replace hW2 := hide hW2; replace hu2 := hide hu2))
                  have hu3 := hide (hurd.out.trans hu2.out)
                  cases b9 with
                  | true =>
                    go_wp2_with fail
                    go_meet
                    exact ⟨n, rfl, by omega, hn19, hz.out, hW2.out, hu3.out⟩
                  | false =>
                    go_wp2_with fail
                    go_roundg k
                    case measure => omega
                    case rel => exact ⟨P, hP.out, rfl, by omega, hz2.out, hW2.out, hu3.out⟩
                · have hxI : ¬ ((K.getD o 0 : Nat) : Int) = 0 := by omega
                  generalize K.getD o 0 = x at *
                  have hxq : ((x : Int) == 0) = false := beq_false_of_ne hxI
                  replace hz := hide hz
                  replace hWr := hide hWr
                  replace hur := hide hur
                  replace hn := hide hn
                  replace hP := hide hP
                  replace hnP := hide hnP
                  replace ho := hide ho
                  clear kK kO
                  go_wp2_with fail
                  go_quiet (fail)
                  go_wp2_with fail
                  go_meet
                  exact ⟨n, rfl, by omega, hn19, hz.out, hWr.out.drewN _, hur.out.drewN _⟩
          case rest =>
            clear hWE huEE
            obtain ⟨n, rfl, hn4, hn19, hz, hW, hu⟩ := hcut
            replace hz := hide hz
            go_wp2_with fail
            refine (put_wc hW (n - 4) 4 _ _ (by omega) rfl (by omega) (by decide) (by omega)).mono ?_
            rintro e wF ⟨rfl, valF, hWF, hTF, huF⟩
            have huF2 := hide (hu.trans huF)
            have hTF2 := hide (hT2.out.and hTF)
            replace hWF := hide hWF
            have cP := hide (fun (W : World) (l v x : Nat) (h : WC B c g base w0 l v W) (hl : (l : Int) ≤ 1000000000) (hx : x < 8) => put_wc h x 3 (x : Int) 3 rfl rfl hl (by decide) hx)
            have hK7 : ∀ o, K.getD o 0 < 8 := fun o => by
              by_cases h : o < K.length
              · have e1 : K.getD o 0 = K[o] := by simp [h]
                rw [e1]
                have := hKok.out.le _ (List.getElem_mem h)
                omega
              · simp [List.getElem?_eq_none (Nat.le_of_not_lt h)]
            replace hK7 := hide hK7
            clear hW hu huF hTF
            go_wp2_with fail
            go_loopg [15] n (fun k u15 wr => ∃ (i val : Nat), k + i = n ∧ u15 = .int .i64 (i : Nat) ∧ WC B c g base w0 (len + 5 + 3 * i) val wr ∧ Wrote (len + 5) valF (len + 5 + 3 * i) val (fun V => KTold V K (len + 5) i) ∧ UpdT B ([42, 5, 91] : List TypeId) wE wr)
            case atStart => exact ⟨0, valF, rfl, rfl, hWF.out, Wrote.refl _ _ _ (fun V j hj => by omega), huF2.out⟩
            case round =>
              obtain ⟨i, val3, hk, rfl, hWr, hTr, hur⟩ := hrel
              clear hWF huF2
              cases gk with
              | succ k =>
                obtain ⟨kX, kK, kO⟩ := hkeep.out _ hur
                have hiI : (i : Int) < (n : Int) := by omega
                have hi19 : (i : Int) < 19 := by omega
                have hkO := kO i (by omega)
                have ho19 := hord.out i (by omega)
                have hkK := kK (ord.getD i 0) ho19
                have hx8 := hK7.out (ord.getD i 0)
                have hkA : ∀ W2, UpdT B ([42, 5, 91] : List TypeId) wr W2 → (W2.cell? ⟨X, 0, none⟩ = some (.slice (some ⟨ga, 0, none⟩) 19 c1) ∧ W2.cell? ⟨go, i, none⟩ = some (.int .i64 ((ord.getD i 0 : Nat) : Int)) ∧ W2.cell? ⟨ga, ord.getD i 0, none⟩ = some (.int .i64 ((K.getD (ord.getD i 0) 0 : Nat) : Int))) := fun W2 h => by
                  obtain ⟨q1, q2, q3⟩ := hkeep.out W2 (hur.trans h)
                  exact ⟨q1, q3 i (by omega), q2 _ ho19⟩
                have hTs : ∀ V, KTold V K (len + 5) i → Told V (len + 5 + 3 * i) 3 (K.getD (ord.getD i 0) 0) → KTold V K (len + 5) (i + 1) := fun V h1 h2 => h1.succ h2
                generalize K.getD (ord.getD i 0) 0 = x at *
                generalize ord.getD i 0 = o at *
                have hoI : (o : Int) < 19 := by omega
                have hkB : ∀ W2, UpdT B ([42, 5, 91] : List TypeId) wr.drew W2 → (W2.cell? ⟨X, 0, none⟩ = some (.slice (some ⟨ga, 0, none⟩) 19 c1) ∧ W2.cell? ⟨go, i, none⟩ = some (.int .i64 (o : Nat)) ∧ W2.cell? ⟨ga, o, none⟩ = some (.int .i64 (x : Nat))) := fun W2 h => hkA W2 (((UpdT.refl B ([42, 5, 91] : List TypeId) wr).drewN 1).trans h)
                have hurd := hide (hur.drewN 1)
                have hlI : ((len + 5 + 3 * i : Nat) : Int) ≤ 1000000000 := by omega
                obtain ⟨l3, hl3⟩ : ∃ l3, l3 = len + 5 + 3 * i := ⟨_, rfl⟩
                rw [← hl3] at hWr hTr hTs hlI
                replace hl3 := hide hl3
                replace hkA := hide hkA
                replace hkB := hide hkB
                replace hWr := hide hWr
                replace hur := hide hur
                replace hTr := hide hTr
                replace hTs := hide hTs
                replace hk := hide hk
                clear kK kO
                go_wp2_with fail
                go_region_held3 (fun W => W.cell? ⟨X, 0, none⟩ = some (.slice (some ⟨ga, 0, none⟩) 19 c1) ∧ W.cell? ⟨go, i, none⟩ = some (.int .i64 (o : Nat)) ∧ W.cell? ⟨ga, o, none⟩ = some (.int .i64 (x : Nat)))
                  (first | go_keep | exact hkB.out _ hu2.out | exact hkA.out _ hu2.out)
                  (first | (go_at_call 47; (with_reducible refine (cP.out _ l3 val3 x (by first | exact hWr.out | exact hWr.out.drew) hlI hx8).mono ?_); rintro e w2 ⟨rfl, val4, hW2, hT2, hu2⟩; replace hW2 := hide hW2; replace hT2 := hide hT2; replace hu2 := hide hu2))
                go_wp2_with fail
                go_roundg k
                case measure => omega
                case rel =>
                  have e3 : len + 5 + 3 * (i + 1) = l3 + 3 := by rw [hl3.out]; omega
                  refine ⟨i + 1, val4, by have := hk.out; omega, by go_num, by rw [e3]; exact hW2.out, ?_, hurd.out.trans hu2.out⟩
                  rw [e3]
                  exact (hTr.out.and hT2.out).mono fun V hV => hTs.out V hV.1 hV.2
              | zero =>
                obtain rfl : i = n := by omega
                have hiI : ¬ (i : Int) < (i : Int) := by omega
                obtain ⟨q, hq⟩ : ∃ q, q = len + 5 + 3 * i := ⟨_, rfl⟩
                rw [← hq] at hWr hTr
                have hqb : (q : Int) ≤ 900000100 := by omega
                have hTG := hide (hTF2.out.and hTr)
                replace hq := hide hq
                replace hWr := hide hWr
                replace hur := hide hur
                clear hTr hTF2 hK7 cP
                go_upto_if 133 with fail
                go_cut [16] from 133 to 164 (fun u16 wc => ∃ p2 val5, WC B c g base w0 p2 val5 wc ∧ Wrote q val3 p2 val5 (fun V => CntTold V q p2 size ps.length M) ∧ p2 ≤ q + 20 ∧ UpdT B ([42, 5, 91] : List TypeId) wE wc)
                case first =>
                  rcases hPC.out.sh with ⟨hs2, hM⟩ | ⟨hs2, hps2, hM⟩
                  · have hMs : M = size := hM.trans hL.out
                    replace hM := hide hM
                    replace hMs := hide hMs
                    go_wp2_with fail
                    refine (put_wc hWr.out 0 1 _ _ rfl rfl (by omega) (by decide) (by decide)).mono ?_
                    rintro e w2 ⟨rfl, val4, hW2, hT2, hu2⟩
                    replace hW2 := hide hW2
                    replace hT2 := hide hT2
                    replace hu2 := hide hu2
                    go_wp2_with fail
                    go_meet
                    exact ⟨q + 1, val4, hW2.out, hT2.out.mono fun V hV => .inl ⟨rfl, hV, hMs.out⟩, by omega, hur.out.trans hu2.out⟩
                  · subst hs2
                    have hsI : ¬ (ps.length : Int) < 2 := by omega
                    obtain ⟨N, hN⟩ : ∃ N, N = ps.length - 2 := ⟨_, rfl⟩
                    have hNI : (ps.length : Int) - 2 = (N : Int) := by omega
                    have hNb : (N : Int) < 4096 := by omega
                    replace hM := hide hM
                    replace hN := hide hN
                    have cI := hide (fun (W : World) (v : Nat) (h : WC B c g base w0 (q + 1) v W) => is_wc h 6 (by decide) (by decide))
                    go_wp2_with fail
                    refine (put_wc hWr.out 1 1 _ _ rfl rfl (by omega) (by decide) (by decide)).mono ?_
                    rintro e w2 ⟨rfl, val4, hW2, hT2, hu2⟩
                    have hu3 := hide (hur.out.trans hu2)
                    replace hW2 := hide hW2
                    replace hT2 := hide hT2
                    clear hu2 hWr hur
                    go_upto_block 10 with fail
                    go_cut [16] from 138 to 154 (fun u16 wc => ∃ k : Nat, u16 = .int .i64 (k : Nat) ∧ k ≤ 7 ∧ N < 2 ^ (2 + 2 * k) ∧ WC B c g base w0 (q + 1) val4 wc ∧ UpdT B ([42, 5, 91] : List TypeId) wE wc)
                    case first =>
                      go_wp2_with fail
                      go_loopg [16] 7 (fun r u16 wr => ∃ k : Nat, r + k = 7 ∧ u16 = .int .i64 (k : Nat) ∧ WC B c g base w0 (q + 1) val4 wr ∧ UpdT B ([42, 5, 91] : List TypeId) wE wr)
                      case atStart => exact ⟨0, rfl, rfl, hW2.out, hu3.out⟩
                      case round =>
                        clear hW2 hu3
                        obtain ⟨k, hrk, rfl, hWk, huk⟩ := hrel
                        obtain ⟨s, hs⟩ : ∃ s, s = 2 + 2 * k := ⟨_, rfl⟩
                        have hsI2 : (2 : Int) + 2 * (k : Int) = (s : Int) := by omega
                        have hsb : (s : Int) ≤ 16 := by omega
                        replace hs := hide hs
                        replace hWk := hide hWk
                        replace huk := hide huk
                        have hcast : (N : Int) / 2 ^ s = ((N / 2 ^ s : Nat) : Int) := by simp
                        by_cases hz0 : N < 2 ^ s
                        · have hd : (N : Int) / 2 ^ s = 0 := by
                            rw [hcast, Nat.div_eq_of_lt hz0]
                            rfl
                          cases gk with
                          | zero =>
                            obtain rfl : k = 7 := by omega
                            replace hcast := hide hcast
                            go_wp2_with fail
                            go_meet
                            exact ⟨7, rfl, by decide, by rw [← hs.out]; exact hz0, hWk.out, huk.out⟩
                          | succ r =>
                            have hk7 : (k : Int) < 7 := by omega
                            replace hcast := hide hcast
                            have hk7n : k < 7 := by omega
                            go_wp2_with (first | (go_at_call 42; (with_reducible refine (cI.out _ _ hWk.out).mono ?_); rintro e w3 ⟨b9, rfl, hW3, hu4⟩; replace hW3 := hide hW3; replace hu4 := hide (huk.out.trans hu4)) | fail)
                            · go_roundg r
                              case measure => omega
                              case rel => exact ⟨k + 1, by omega, by go_num, hW3.out, hu4.out⟩
                            · go_meet
                              exact ⟨k, rfl, by omega, by rw [← hs.out]; exact hz0, hW3.out, hu4.out⟩
                        · have hd : (0 : Int) < (N : Int) / 2 ^ s := by
                            rw [hcast]
                            have := Nat.div_pos (Nat.le_of_not_lt hz0) (Nat.pow_pos (by decide) : 0 < 2 ^ s)
                            omega
                          have hk5 : k < 5 := by
                            rcases Nat.lt_or_ge k 5 with h | h
                            · exact h
                            · exfalso
                              have h12 : 2 ^ 12 ≤ 2 ^ s := Nat.pow_le_pow_right (by decide) (by have := hs.out; omega)
                              have e12 : (2 : Nat) ^ 12 = 4096 := by decide
                              omega
                          replace hcast := hide hcast
                          go_wp2_with fail
                          go_roundg (gk - 1)
                          case measure => omega
                          case rel => exact ⟨k + 1, by omega, by go_num, hWk.out, huk.out⟩
                    case rest =>
                      clear hW2 hu3
                      obtain ⟨k, rfl, hk7, hNk, hWk, huk⟩ := hcut
                      obtain ⟨s, hs⟩ : ∃ s, s = 2 + 2 * k := ⟨_, rfl⟩
                      rw [← hs] at hNk
                      have hsI2 : (2 : Int) + 2 * (k : Int) = (s : Int) := by omega
                      have hsb : (s : Int) ≤ 16 := by omega
                      replace hs := hide hs
                      replace huk := hide huk
                      go_wp2_with fail
                      refine (put_wc hWk k 3 _ _ rfl rfl (by omega) (by decide) (by omega)).mono ?_
                      rintro e w4 ⟨rfl, val5, hW4, hT4, hu4⟩
                      replace hT4 := hide hT4
                      replace hu4 := hide (huk.out.trans hu4)
                      clear hWk huk
                      go_wp2_with fail
                      refine (put_wc hW4 N s _ _ (by omega) (by omega) (by omega) (by omega) hNk).mono ?_
                      rintro e w5 ⟨rfl, val6, hW5, hT5, hu5⟩
                      have hT6 := hide ((hT2.out.and hT4.out).and hT5)
                      replace hW5 := hide hW5
                      replace hu5 := hide (hu4.out.trans hu5)
                      clear hW4 hu4 hT5
                      go_wp2_with fail
                      go_meet
                      refine ⟨q + 1 + 3 + s, val6, hW5.out, hT6.out.mono fun V hV => .inr ⟨k, hk7, by have := hs.out; omega, hV.1.1, hV.1.2, ?_, by omega, hM.out⟩, by omega, hu5.out⟩
                      rw [← hs.out, ← hN.out]
                      exact hV.2
                case rest =>
                  clear hWr hur
                  obtain ⟨p2, val5, hW5, hT5, hp2, hu5⟩ := hcut
                  have hK7b : ∀ x ∈ K, x ≤ 7 := hKok.out.le
                  have hpsb : ps.length ≤ 4096 := by omega
                  have hpcb : ∀ j, j ≤ ps.length → ((pcP K p2 ps j : Nat) : Int) ≤ 900080000 := fun j hj => by
                    have := pcP_le hK7b p2 ps j
                    omega
                  have cC := hide (fun (W : World) (l v s : Nat) (h : WC B c g base w0 l v W) (hX : CodeAt W w0.heap.size K (.agg #[.slice (some ⟨ga, 0, none⟩) 19 c1, .slice A2 19 c2, .bool x2])) (hs : s < K.length) (hl : (l : Int) ≤ 1000000000) => codeput_wc h w0.heap.size s (s : Int) rfl K _ hX hs (fun x hx => Nat.le_trans (hK7b x hx) (by decide)) hl)
                  have cP := hide (fun (W : World) (l v x n : Nat) (h : WC B c g base w0 l v W) (hl : (l : Int) ≤ 1000000000) (hn : n ≤ 30) (hx : x < 2 ^ n) => put_wc h x n (x : Int) (n : Int) rfl rfl hl hn hx)
                  have hTP := hide (hTG.out.and hT5)
                  replace hW5 := hide hW5
                  replace hu5 := hide hu5
                  replace hpcb := hide hpcb
                  replace hK7b := hide hK7b
                  clear hTG hT5
                  go_wp2_with fail
                  go_loopg [17] ps.length (fun k u17 wr => ∃ (j val : Nat), k + j = ps.length ∧ u17 = .int .i64 (j : Nat) ∧ WC B c g base w0 (pcP K p2 ps j) val wr ∧ Wrote p2 val5 (pcP K p2 ps j) val (fun V => PcsTold V K p2 ps j) ∧ UpdT B ([42, 5, 91] : List TypeId) wE wr)
                  case atStart => exact ⟨0, val5, rfl, rfl, hW5.out, Wrote.refl _ _ _ (fun V j hj => by omega), hu5.out⟩
                  case round =>
                    clear hW5 hu5
                    obtain ⟨j, val6, hk, rfl, hW6, hT6, hu6⟩ := hrel
                    cases gk with
                    | succ k =>
                      have hjI : (j : Int) < (ps.length : Int) := by omega
                      have hpb := hpcb.out j (by omega)
                      obtain ⟨m1, m2, m3, m4, m5⟩ := hmem.out _ hu6
                      obtain ⟨gp, rfl, _, hgpl, hcp⟩ := own_pieces m3 (by omega)
                      obtain ⟨k0, k1, k2⟩ := hcp j (by omega)
                      have hpok : PieceOk (ps.getD j (0, 0)) := by
                        have e1 : ps.getD j (0, 0) = ps[j]'(by omega) := by simp [show j < ps.length by omega]
                        rw [e1]
                        exact hPC.out.ok _ (List.getElem_mem _)
                      have hkd : (ps.getD j (0, 0)).1 < K.length := by have := hpok.1; have := hKok.out.len; omega
                      have hpx := hpok.2
                      have hpn := pBits_le (ps.getD j (0, 0)).1
                      have hsn := symN_le hK7b.out (ps.getD j (0, 0)).1
                      have hTs : ∀ V, PcsTold V K p2 ps j → SymTold V K (pcP K p2 ps j) (ps.getD j (0, 0)).1 → Told V (pcP K p2 ps j + symN K (ps.getD j (0, 0)).1) (pBits (ps.getD j (0, 0)).1) (ps.getD j (0, 0)).2 → PcsTold V K p2 ps (j + 1) := fun V h1 h2 h3 => h1.succ h2 h3
                      have hpj : pcP K p2 ps (j + 1) = pcP K p2 ps j + symN K (ps.getD j (0, 0)).1 + pBits (ps.getD j (0, 0)).1 := rfl
                      have hst : ∀ V, SymTold V K (pcP K p2 ps j) (ps.getD j (0, 0)).1 = Told V (pcP K p2 ps j) (symN K (ps.getD j (0, 0)).1) (symV K (ps.getD j (0, 0)).1) := fun V => rfl
                      have hkA : ∀ W2, UpdT B ([42, 5, 91] : List TypeId) wr W2 → ((W2.cell? ⟨X, 0, none⟩ = some (.slice (some ⟨ga, 0, none⟩) 19 c1) ∧ W2.cell? ⟨X, 1, none⟩ = some (.slice A2 19 c2) ∧ W2.cell? ⟨X, 2, none⟩ = some (.bool x2)) ∧ W2.cell? ⟨gp, j * 3, none⟩ = some (.int .i64 (((ps.getD j (0, 0)).1 : Nat) : Int)) ∧ W2.cell? ⟨gp, j * 3 + 1, none⟩ = some (.int .i64 (((ps.getD j (0, 0)).2 : Nat) : Int)) ∧ W2.cell? ⟨gp, j * 3 + 2, none⟩ = some (.int .i64 ((pBits (ps.getD j (0, 0)).1 : Nat) : Int))) := fun W2 h => by
                        obtain ⟨_, _, q3, q4, _⟩ := hmem.out W2 (hu6.trans h)
                        obtain ⟨gp', he, _, _, hcp'⟩ := own_pieces q3 (by omega)
                        obtain rfl : gp = gp' := by injection he with he; injection he
                        exact ⟨⟨q4.cell 0, q4.cell 1, q4.cell 2⟩, hcp' j (by omega)⟩
                      generalize hkdd : (ps.getD j (0, 0)).1 = kd at *
                      generalize (ps.getD j (0, 0)).2 = ex at *
                      generalize hnb : pBits kd = nb at *
                      have hkB : ∀ W2, UpdT B ([42, 5, 91] : List TypeId) wr.drew W2 → ((W2.cell? ⟨X, 0, none⟩ = some (.slice (some ⟨ga, 0, none⟩) 19 c1) ∧ W2.cell? ⟨X, 1, none⟩ = some (.slice A2 19 c2) ∧ W2.cell? ⟨X, 2, none⟩ = some (.bool x2)) ∧ W2.cell? ⟨gp, j * 3, none⟩ = some (.int .i64 (kd : Nat)) ∧ W2.cell? ⟨gp, j * 3 + 1, none⟩ = some (.int .i64 (ex : Nat)) ∧ W2.cell? ⟨gp, j * 3 + 2, none⟩ = some (.int .i64 (nb : Nat))) := fun W2 h => hkA W2 (((UpdT.refl B ([42, 5, 91] : List TypeId) wr).drewN 1).trans h)
                      have hX7 : ∀ W2, UpdT B ([42, 5, 91] : List TypeId) wr W2 → CodeAt W2 w0.heap.size K (.agg #[.slice (some ⟨ga, 0, none⟩) 19 c1, .slice A2 19 c2, .bool x2]) := fun W2 h => (hmem.out W2 (hu6.trans h)).2.2.2.2
                      have hXd := hX7 wr.drew ((UpdT.refl B ([42, 5, 91] : List TypeId) wr).drewN 1)
                      obtain ⟨⟨x0, x1, x3⟩, _⟩ := hkA wr (UpdT.refl _ _ _)
                      have hud := (UpdT.refl B ([42, 5, 91] : List TypeId) wr).drewN 1
                      obtain ⟨l6, hl6⟩ : ∃ l6, l6 = pcP K p2 ps j := ⟨_, rfl⟩
                      rw [← hl6] at hW6 hT6 hTs hpj hst hpb
                      have hW6d := hide hW6.drew
                      replace hW6 := hide hW6
                      replace hT6 := hide hT6
                      replace hTs := hide hTs
                      replace hpj := hide hpj
                      replace hst := hide hst
                      replace hkA := hide hkA
                      replace hkB := hide hkB
                      replace hX7 := hide hX7
                      replace hXd := hide hXd
                      replace hud := hide hud
                      replace m5 := hide m5
                      replace hu6 := hide hu6
                      replace hl6 := hide hl6
                      replace hpok := hide hpok
                      replace hkdd := hide hkdd
                      replace hnb := hide hnb
                      clear hcp m1 m2 m3 m4
                      go_wp2_with fail
                      go_region_held3 (fun W => (W.cell? ⟨X, 0, none⟩ = some (.slice (some ⟨ga, 0, none⟩) 19 c1) ∧ W.cell? ⟨X, 1, none⟩ = some (.slice A2 19 c2) ∧ W.cell? ⟨X, 2, none⟩ = some (.bool x2)) ∧ W.cell? ⟨gp, j * 3, none⟩ = some (.int .i64 (kd : Nat)) ∧ W.cell? ⟨gp, j * 3 + 1, none⟩ = some (.int .i64 (ex : Nat)) ∧ W.cell? ⟨gp, j * 3 + 2, none⟩ = some (.int .i64 (nb : Nat)))
                        (first | go_keep | exact hkB.out _ hu2.out | exact hkA.out _ hu2.out)
                        (first | (go_at_call 24; (with_reducible refine (cC.out _ l6 val6 kd (by first | exact hW6.out | exact hW6d.out) (by first | exact m5.out | exact hXd.out) hkd (by omega)).mono ?_); rintro e w2 ⟨rfl, val7, hW7, hT7, hu2⟩; replace hW7 := hide hW7; replace hT7 := hide hT7; replace hu2 := hide hu2))
                      have hu7 := hide (hud.out.trans hu2.out)
                      obtain ⟨_, y0, y1, y2⟩ := hkA.out _ hu7.out
                      have hkC : ∀ W2, UpdT B ([42, 5, 91] : List TypeId) w2 W2 → (W2.cell? ⟨gp, j * 3 + 1, none⟩ = some (.int .i64 (ex : Nat)) ∧ W2.cell? ⟨gp, j * 3 + 2, none⟩ = some (.int .i64 (nb : Nat))) := fun W2 h => (hkA.out _ (hu7.out.trans h)).2.2
                      have hkD : ∀ W2, UpdT B ([42, 5, 91] : List TypeId) w2.drew W2 → (W2.cell? ⟨gp, j * 3 + 1, none⟩ = some (.int .i64 (ex : Nat)) ∧ W2.cell? ⟨gp, j * 3 + 2, none⟩ = some (.int .i64 (nb : Nat))) := fun W2 h => hkC W2 (((UpdT.refl B ([42, 5, 91] : List TypeId) w2).drewN 1).trans h)
                      have hW7d := hide hW7.out.drew
                      have hu7d := hide (hu7.out.drewN 1)
                      have hlb : ((l6 + symN K kd : Nat) : Int) ≤ 1000000000 := by omega
                      obtain ⟨l7, hl7⟩ : ∃ l7, l7 = l6 + symN K kd := ⟨_, rfl⟩
                      rw [← hl7] at hW7 hW7d hT7 hlb
                      have hTs2 := hTs.out
                      have hpj2 := hpj.out
                      rw [← hl7] at hTs2 hpj2
                      replace hTs2 := hide hTs2
                      replace hpj2 := hide hpj2
                      replace hkC := hide hkC
                      replace hkD := hide hkD
                      replace hl7 := hide hl7
                      clear x0 x1 x3 k0 k1 k2 hkA hkB hX7 hXd hW6 hW6d m5 hTs hpj hu2 hud
                      go_wp2_with fail
                      go_region_held3 (fun W => W.cell? ⟨gp, j * 3 + 1, none⟩ = some (.int .i64 (ex : Nat)) ∧ W.cell? ⟨gp, j * 3 + 2, none⟩ = some (.int .i64 (nb : Nat)))
                        (first | go_keep | exact hkD.out _ hu3.out | exact hkC.out _ hu3.out)
                        (first | (go_at_call 47; (with_reducible refine (cP.out _ l7 val7 ex nb (by first | exact hW7.out | exact hW7d.out) hlb (by omega) hpx).mono ?_); rintro e w3 ⟨rfl, val8, hW8, hT8, hu3⟩; replace hW8 := hide hW8; replace hT8 := hide hT8; replace hu3 := hide hu3))
                      go_wp2_with fail
                      go_roundg k
                      case measure => omega
                      case rel =>
                        refine ⟨j + 1, val8, by omega, by go_num, by rw [hpj2.out]; exact hW8.out, ?_, hu6.out.trans (hu7d.out.trans hu3.out)⟩
                        rw [hpj2.out]
                        refine ((hT6.out.and hT7.out).and hT8.out).mono fun V hV => hTs2.out V hV.1.1 ?_ hV.2
                        rw [hst.out]
                        exact hV.1.2
                    | zero =>
                      obtain rfl : j = ps.length := by omega
                      have hjI : ¬ (ps.length : Int) < (ps.length : Int) := by omega
                      obtain ⟨m1, m2, _, _, _⟩ := hmem.out _ hu6
                      have hbz := Nat.le_trans hbl (Nat.le_of_lt (Nat.lt_of_le_of_lt hgl1 (m2.lt gl rfl).2))
                      have hfin := hide (hTP.out.and hT6)
                      obtain ⟨l6, hl6⟩ : ∃ l6, l6 = pcP K p2 ps ps.length := ⟨_, rfl⟩
                      have hlb := pcP_le hK7b.out p2 ps ps.length
                      rw [← hl6] at hW6 hfin hlb
                      replace hl6 := hide hl6
                      replace hu6 := hide hu6
                      replace m1 := hide m1
                      replace m2 := hide m2
                      clear hT6 hTP cC cP hpcb
                      go_wp2_with fail
                      refine (canonical_wn hW6 _ w0.heap.size cap size L hL.out (by omega) hok.out.le hbz (own_down m2.out hbl)).mono ?_
                      rintro e w8 ⟨V, A9, c9, A10, c10, n9, rfl, hV, hX8, hW8, hu8⟩
                      obtain ⟨x9, hx9⟩ : ∃ x9, x9 = decide (nz L = 1) := ⟨_, rfl⟩
                      rw [← hx9] at hV
                      subst hV
                      have hR8 := hu8.typ _ _ _ m1.out (by decide)
                      have hRz : w0.heap.size ≤ R := by omega
                      have hW9 := hW8.code hR8 hRz (.slice A9 n9 c9) (.slice A10 n9 c10) (.bool x9)
                      have hX9 := hX8.typed (UpdT.code hR8 (Nat.le_trans hW6.lie.bw hRz) (.slice A9 n9 c9) (.slice A10 n9 c10) (.bool x9)) (by decide)
                      have hrr := load_code hR8 rfl (.slice A9 n9 c9) (.slice A10 n9 c10) (.bool x9)
                      have q0 := hR8.cell 0
                      have q1 := hR8.cell 1
                      have q2 := hR8.cell 2
                      have y0 := hR8.frozen 0
                      have y1 := hR8.frozen 1
                      have y2 := hR8.frozen 2
                      replace hR8 := hide hR8
                      replace hW8 := hide hW8
                      replace hX8 := hide hX8
                      replace hW9 := hide hW9
                      replace hX9 := hide hX9
                      replace hx9 := hide hx9
                      replace hrr := hide hrr
                      clear hu8
                      go_wp2_with fail
                      refine bodyPost_ret (v := .agg #[.slice A9 n9 c9, .slice A10 n9 c10, .bool x9]) ?_ ?_ ?_
                      · exact ret_cellP rfl rfl hrr.out
                      · rfl
                      refine ⟨_, l6, _, rfl, hX9.out, hW9.out, ?_, by have := hq.out; omega⟩
                      refine hfin.out.mono fun V hV => .inr (.inr ⟨i, p2, M, K, ps, ?_⟩)
                      obtain ⟨z, hz1, hz2⟩ := hPC.out.exp
                      exact ⟨hV.1.1.1.1, ⟨hn4, hn19⟩, hV.1.1.1.2, hV.1.1.2, hz.out, hKok.out, by rw [← hq.out]; exact hV.1.2, hV.2, fun x hx => ⟨hPC.out.ok x hx, by
                        obtain ⟨j, hj, rfl⟩ := List.getElem_of_mem hx
                        have := hKu.out j hj
                        rwa [show ps.getD j (0, 0) = ps[j] by simp [hj]] at this⟩, hl6.out, ⟨hPC.out.mM.1, by have := hPC.out.mM.2; have := hL.out; omega⟩, ⟨z, hz1, hz2⟩⟩
end Go.Proofs.YtpiapfahcoopbaaDoor

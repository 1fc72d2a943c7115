/- The pieces; the writer as one state; the short form; rows. -/
import Derived.Test.YtpiapfahcoopbaaDoorPsB
namespace Go.Proofs.YtpiapfahcoopbaaDoor
set_option linter.unusedSimpArgs false
set_option linter.unusedVariables false
set_option linter.unnecessarySimpa false
open Go.RowKit Plain

theorem nextc_int (B c : Nat) (m : Int) (w : World) (hC : ChAt w B c) (hB : B ≤ c) (hBw : B ≤ w.heap.size) (h1 : 1 ≤ m) (hn : m ≤ 1073741824) :
    Calls Tryd.prog 43 #[.pointer (some ⟨c, 0, none⟩), .int .i64 m] w (NumPost B c m w) := by
  obtain ⟨n, rfl⟩ := Int.eq_ofNat_of_zero_le (show (0 : Int) ≤ m by omega)
  exact nextc_any B c n w hC hB hBw (by omega) hn
theorem is_int (B c : Nat) (m : Int) (w : World) (hC : ChAt w B c) (hB : B ≤ c) (hBw : B ≤ w.heap.size) (h1 : 1 ≤ m) (hn : m ≤ 1073741824) :
    Calls Tryd.prog 42 #[.pointer (some ⟨c, 0, none⟩), .int .i64 m] w (TruthPost B c w) := by
  obtain ⟨n, rfl⟩ := Int.eq_ofNat_of_zero_le (show (0 : Int) ≤ m by omega)
  exact is_any B c n w hC hB hBw (by omega) hn
/-- Pieces in memory. -/
def pcell (p : Nat × Nat) : List Value := [.int .i64 (p.1 : Nat), .int .i64 (p.2 : Nat), .int .i64 (pBits p.1 : Nat)]
def pcells (ps : List (Nat × Nat)) : List Value := ps.flatMap pcell
theorem pcells_append (ps : List (Nat × Nat)) (p : Nat × Nat) : pcells (ps ++ [p]) = pcells ps ++ pcell p := by simp [pcells]
theorem pcells_len (ps : List (Nat × Nat)) : (pcells ps).length = 3 * ps.length := by
  induction ps with
  | nil => rfl
  | cons p ps ih =>
    have : pcells (p :: ps) = pcell p ++ pcells ps := rfl
    rw [this, List.length_append, ih]
    simp [pcell]
    omega
theorem info_piece : (Tryd.prog.info? 110).map (fun i => (i.zero, i.size, i.bytes)) = some (some (Value.agg #[.int .i64 0, .int .i64 0, .int .i64 0]), 3, 24) := by kernel_rfl
def PiecesPost (B c : Nat) (L : List Nat) (w : World) (e : Ending) (w' : World) : Prop := ∃ (ps : List (Nat × Nat)) (A : Option Addr) (cp : Nat), e = .returned (.slice A ps.length cp) ∧ (∀ p ∈ ps, PieceOk p) ∧ expandP 8 ps = L ∧ w'.ownsRow w.heap.size 110 3 (.slice A ps.length cp) ps.length (pcells ps) ∧ ChAt w' B c ∧ UpdT B [91] w w'
/-- One more piece, for m equal numbers x. -/
structure Step1 (before x m : Nat) (p : Nat × Nat) : Prop where
  ok : PieceOk p
  ex : expand1 before p.1 p.2 = List.replicate m x
  af : afterB before p.1 = if x = 0 then before else x
theorem step18 (before m : Nat) (h : 11 ≤ m) (h2 : m < 139) : Step1 before 0 m (18, m - 11) := by
  refine ⟨⟨by simp, ?_⟩, ?_, ?_⟩
  · show m - 11 < 128
    omega
  · show List.replicate (m - 11 + 11) 0 = _
    rw [Nat.sub_add_cancel h]
  · rfl
theorem step17 (before m : Nat) (h : 3 ≤ m) (h2 : m < 11) : Step1 before 0 m (17, m - 3) := by
  refine ⟨⟨by simp, ?_⟩, ?_, ?_⟩
  · show m - 3 < 8
    omega
  · show List.replicate (m - 3 + 3) 0 = _
    rw [Nat.sub_add_cancel h]
  · rfl
theorem step16 (x m : Nat) (hx : x ≠ 0) (h : 3 ≤ m) (h2 : m < 7) : Step1 x x m (16, m - 3) := by
  refine ⟨⟨by simp, ?_⟩, ?_, ?_⟩
  · show m - 3 < 4
    omega
  · show List.replicate (m - 3 + 3) x = _
    rw [Nat.sub_add_cancel h]
  · rw [if_neg hx]
    rfl
theorem step1 (before x : Nat) (hx : x ≤ 15) : Step1 before x 1 (x, 0) := by
  refine ⟨⟨by show x ≤ 18; omega, Nat.pow_pos (by decide)⟩, ?_, ?_⟩
  · unfold expand1
    rw [if_pos (by show x < 16; omega)]
    rfl
  · unfold afterB
    by_cases h : x = 0
    · rw [if_pos h, if_neg (fun q => q.2 h)]
    · rw [if_neg h, if_pos ⟨by show x < 16; omega, h⟩]
theorem pBits_low (x : Nat) (hx : x ≤ 15) : pBits x = 0 := by
  unfold pBits
  rw [if_pos (by omega)]
set_option maxRecDepth 100000 in
set_option maxHeartbeats 8000000 in
theorem pieces_any (B c bl cap : Nat) (A : Option Addr) (L : List Nat) (w : World) (hC : ChAt w B c) (hB : B ≤ c) (hBw : B ≤ w.heap.size) (hl : (L.length : Int) ≤ 4096) (hL : ∀ x ∈ L, x ≤ 15) (hO : w.ownsRow bl 3 1 (.slice A L.length cap) L.length ((ofN' L).map (Value.int .i64))) :
    Calls Tryd.prog 60 #[.pointer (some ⟨c, 0, none⟩), .slice A L.length cap] w (PiecesPost B c L w) := by
  have cI := hide (fun (m : Int) (W : World) (h : ChAt W B c) (hW : B ≤ W.heap.size) (h1 : 1 ≤ m) (h2 : m ≤ 1073741824) => is_int B c m W h hB hW h1 h2)
  have cN := hide (fun (m : Int) (W : World) (h : ChAt W B c) (hW : B ≤ W.heap.size) (h1 : 1 ≤ m) (h2 : m ≤ 1073741824) => nextc_int B c m W h hB hW h1 h2)
  have hu0 := hide (UpdT.refl B [91] w)
  replace hO := hide hO
  replace hC := hide hC
  replace hL := hide hL
  go_enter Tryd.func60, Tryd.ntmps60
  go_wp2_with fail
  go_loopg [5, 6, 7] L.length (fun k u5 u6 u7 wr => ∃ (i : Nat) (ps : List (Nat × Nat)) (A' : Option Addr) (c' : Nat), k + i = L.length ∧ u5 = .slice A' ps.length c' ∧ u6 = .int .i64 (lastB 8 ps : Nat) ∧ u7 = .int .i64 (i : Nat) ∧ wr.ownsRow w.heap.size 110 3 (.slice A' ps.length c') ps.length (pcells ps) ∧ (∀ p ∈ ps, PieceOk p) ∧ expandP 8 ps = L.take i ∧ ChAt wr B c ∧ UpdT B [91] w wr)
  case atStart => exact ⟨0, [], none, 0, rfl, rfl, rfl, rfl, ⟨rfl, .inl ⟨rfl, rfl⟩⟩, by simp, by simp [expandP], hC.out, hu0.out⟩
  case round =>
    clear hu0 hC
    obtain ⟨i, ps, A', c', hk, rfl, rfl, rfl, ho, hok, hex, hCr, hu⟩ := hrel
    have hsz := hu.size
    have hpl := expandP_len ps 8
    rw [hex] at hpl
    have hpl2 : (ps.length : Int) ≤ 4096 := by
      have := List.length_take_le i L
      omega
    replace hpl := hide hpl
    cases gk with
    | zero =>
      obtain rfl : i = L.length := by omega
      have hiI : ¬ (L.length : Int) < (L.length : Int) := by omega
      rw [List.take_length] at hex
      replace ho := hide ho
      replace hok := hide hok
      replace hex := hide hex
      replace hCr := hide hCr
      replace hu := hide hu
      go_wp2_with fail
      go_ret
      exact ⟨ps, _, _, rfl, hok.out, hex.out, ho.out, hCr.out, hu.out⟩
    | succ k =>
      have hiI : (i : Int) < (L.length : Int) := by omega
      have hOr := hu.own hO.out (by simp)
      have cR := run_any A cap wr.heap.size i L wr (by omega) (Rd.ofOwn hOr) (by omega) (Nat.le_refl _)
      have hx15 : L.getD i 0 ≤ 15 := by
        have e1 : L.getD i 0 = L[i] := by simp [show i < L.length by omega]
        rw [e1]
        exact hL.out _ (List.getElem_mem _)
      generalize hbf : lastB 8 ps = bf at *
      generalize hX : L.getD i 0 = x at *
      replace hbf := hide hbf
      replace hX := hide hX
      replace ho := hide ho
      replace hok := hide hok
      replace hex := hide hex
      replace hCr := hide hCr
      replace hu := hide hu
      replace cR := hide cR
      clear hOr
      go_upto_block 2 with (first | (go_at_call 70; (with_reducible refine (cR.out).mono ?_); rintro e w1 ⟨⟨n, rfl, hn1, hn2, hrun⟩, hu1⟩) | fail)
      have hu1' := hu1.low' (Nat.le_trans hBw hsz)
      have hCw := hCr.out.typed hu1' (by simp) (Nat.le_trans hBw hsz)
      have how := hu1'.own ho.out (by simp)
      have huw := hu.out.trans (hu1'.more (by simp))
      have hszw := huw.size
      have hOw := huw.own hO.out (by simp)
      obtain ⟨gl, rfl, hcl⟩ := own_some hOw (by omega)
      have kx := hcl i (by omega)
      rw [ofN'_get, hX.out] at kx
      have hlv : ∀ W, UpdT B [91] w W → W.cell? ⟨gl, i, none⟩ = some (.int .i64 (x : Nat)) := fun W hW => by
        have h := own_cell (hW.own hO.out (by simp)) i (by omega)
        rwa [ofN'_get, hX.out] at h
      replace hlv := hide hlv
      clear cR hu1 hu1' hcl ho hCr hu hOw
      replace hCw := hide hCw
      replace how := hide how
      replace huw := hide huw
      have hrn := hide hrun
      replace hrun := hide hrun
      have hBz : B ≤ w1.heap.size := by omega
      go_cut [8, 5] from 16 to 109 (fun u8 u5 wc => ∃ (m : Nat) (p : Nat × Nat) (A2 : Option Addr) (c2 : Nat), u8 = .int .i64 (m : Nat) ∧ 1 ≤ m ∧ m ≤ n ∧ Step1 bf x m p ∧ u5 = .slice A2 (ps.length + 1) c2 ∧ wc.ownsRow w.heap.size 110 3 (.slice A2 (ps.length + 1) c2) (ps.length + 1) (pcells (ps ++ [p])) ∧ ChAt wc B c ∧ UpdT B [91] w wc)
      case first =>
        by_cases hx0 : x = 0
        · subst hx0
          by_cases hb0 : bf = 0
          · subst hb0
            by_cases h11 : 11 ≤ n
            · have h11I : (11 : Int) ≤ (n : Int) := by omega
              have h3I : (3 : Int) ≤ (n : Int) := by omega
              go_wp2_with (first | (go_at_call 42; (with_reducible refine (cI.out _ _ hCw.out hBz (by decide) (by decide)).mono ?_); rintro e w2 ⟨b, rfl, hC2, hu2⟩; have hz2 := hu2.size; replace how := hide (hu2.own how.out (by simp)); replace huw := hide (huw.out.trans hu2); replace kx := hlv.out _ huw.out; replace hBz := Nat.le_trans hBz hz2; replace hszw := Nat.le_trans hszw hz2; replace hCw := hide hC2; clear hu2 hC2 hz2) | (go_at_call 43; (with_reducible refine (cN.out 128 _ hCw.out hBz (by decide) (by decide)).mono ?_); rintro e w3 ⟨y, rfl, hy, hC2, hu2⟩; have hz2 := hu2.size; replace how := hide (hu2.own how.out (by simp)); replace huw := hide (huw.out.trans hu2); replace kx := hlv.out _ huw.out; replace hBz := Nat.le_trans hBz hz2; replace hszw := Nat.le_trans hszw hz2; replace hCw := hide hC2; clear hu2 hC2 hz2; obtain ⟨M, hM0, hM2, hM3, hM4⟩ : ∃ M : Nat, (if 11 + (y : Int) < (n : Int) then 11 + (y : Int) else (n : Int)) = (M : Int) ∧ 11 ≤ (M : Int) ∧ (M : Int) < 139 ∧ (M : Int) ≤ (n : Int) := ⟨min n (11 + y), by split <;> omega, by omega, by omega, by omega⟩) | (go_at_call 43; (with_reducible refine (cN.out 8 _ hCw.out hBz (by decide) (by decide)).mono ?_); rintro e w3 ⟨y, rfl, hy, hC2, hu2⟩; have hz2 := hu2.size; replace how := hide (hu2.own how.out (by simp)); replace huw := hide (huw.out.trans hu2); replace kx := hlv.out _ huw.out; replace hBz := Nat.le_trans hBz hz2; replace hszw := Nat.le_trans hszw hz2; replace hCw := hide hC2; clear hu2 hC2 hz2; obtain ⟨M, hM0, hM2, hM3, hM4⟩ : ∃ M : Nat, 3 + (y : Int) = (M : Int) ∧ 3 ≤ (M : Int) ∧ (M : Int) < 11 ∧ (M : Int) ≤ (n : Int) := ⟨3 + y, by omega, by omega, by omega, by omega⟩) | (at_builtin; refine wpList_pushN rfl (.tmp 44) (.tmp 48) 107 rfl w.heap.size 110 (.agg #[.int .i64 0, .int .i64 0, .int .i64 0]) 3 24 Tryd.underlying107 info_piece rfl (by decide) (.slice A' ps.length c') ps.length (pcells ps) rfl how.out _ rfl (by simp [Value.oneCell']) rfl (by simp only [maxLen]; omega) (by omega) (by omega) ?_; intro v' w4 hown' hg'; obtain ⟨A4, c4, rfl⟩ := own_shape hown'; have hC4 := hide (hCw.out.typed ((grown_typed how.out hg').low' hBw) (by simp) hBz); have hu4 := hide (huw.out.grownNew how.out hBw (Nat.le_refl _) hg'); replace hown' := hide hown'; replace hg' := hide hg') | (at_builtin; refine wpList_pushN rfl (.tmp 70) (.tmp 74) 107 rfl w.heap.size 110 (.agg #[.int .i64 0, .int .i64 0, .int .i64 0]) 3 24 Tryd.underlying107 info_piece rfl (by decide) (.slice A' ps.length c') ps.length (pcells ps) rfl how.out _ rfl (by simp [Value.oneCell']) rfl (by simp only [maxLen]; omega) (by omega) (by omega) ?_; intro v' w4 hown' hg'; obtain ⟨A4, c4, rfl⟩ := own_shape hown'; have hC4 := hide (hCw.out.typed ((grown_typed how.out hg').low' hBw) (by simp) hBz); have hu4 := hide (huw.out.grownNew how.out hBw (Nat.le_refl _) hg'); replace hown' := hide hown'; replace hg' := hide hg') | (at_builtin; refine wpList_pushN rfl (.tmp 16) (.tmp 22) 107 rfl w.heap.size 110 (.agg #[.int .i64 0, .int .i64 0, .int .i64 0]) 3 24 Tryd.underlying107 info_piece rfl (by decide) (.slice A' ps.length c') ps.length (pcells ps) rfl how.out _ rfl (by simp [Value.oneCell']) rfl (by simp only [maxLen]; omega) (by omega) (by omega) ?_; intro v' w4 hown' hg'; obtain ⟨A4, c4, rfl⟩ := own_shape hown'; have hC4 := hide (hCw.out.typed ((grown_typed how.out hg').low' hBw) (by simp) hBz); have hu4 := hide (huw.out.grownNew how.out hBw (Nat.le_refl _) hg'); replace hown' := hide hown'; replace hg' := hide hg') | fail)
              all_goals (first | (go_meet; refine ⟨M, (18, M - 11), A4, c4, rfl, by omega, by omega, step18 0 M (by omega) (by omega), rfl, ?_, hC4.out, hu4.out⟩; rw [pcells_append]; unfold pcell; rw [show ((M - 11 : Nat) : Int) = (M : Int) - 11 by omega]; exact hown'.out) | (go_meet; refine ⟨M, (17, M - 3), A4, c4, rfl, by omega, by omega, step17 0 M (by omega) (by omega), rfl, ?_, hC4.out, hu4.out⟩; rw [pcells_append]; unfold pcell; rw [show ((M - 3 : Nat) : Int) = (M : Int) - 3 by omega]; exact hown'.out) | (go_meet; refine ⟨1, (0, 0), A4, c4, rfl, by omega, by omega, step1 0 0 hx15, rfl, ?_, hC4.out, hu4.out⟩; rw [pcells_append]; unfold pcell; rw [pBits_low 0 hx15]; exact hown'.out))
            · have h11I : ¬ (11 : Int) ≤ (n : Int) := by omega
              by_cases h3 : 3 ≤ n
              · have h3I : (3 : Int) ≤ (n : Int) := by omega
                go_wp2_with (first | (go_at_call 42; (with_reducible refine (cI.out _ _ hCw.out hBz (by decide) (by decide)).mono ?_); rintro e w2 ⟨b, rfl, hC2, hu2⟩; have hz2 := hu2.size; replace how := hide (hu2.own how.out (by simp)); replace huw := hide (huw.out.trans hu2); replace kx := hlv.out _ huw.out; replace hBz := Nat.le_trans hBz hz2; replace hszw := Nat.le_trans hszw hz2; replace hCw := hide hC2; clear hu2 hC2 hz2) | (go_at_call 43; (with_reducible refine (cN.out 8 _ hCw.out hBz (by decide) (by decide)).mono ?_); rintro e w3 ⟨y, rfl, hy, hC2, hu2⟩; have hz2 := hu2.size; replace how := hide (hu2.own how.out (by simp)); replace huw := hide (huw.out.trans hu2); replace kx := hlv.out _ huw.out; replace hBz := Nat.le_trans hBz hz2; replace hszw := Nat.le_trans hszw hz2; replace hCw := hide hC2; clear hu2 hC2 hz2; obtain ⟨M, hM0, hM2, hM3, hM4⟩ : ∃ M : Nat, (if 3 + (y : Int) < (n : Int) then 3 + (y : Int) else (n : Int)) = (M : Int) ∧ 3 ≤ (M : Int) ∧ (M : Int) < 11 ∧ (M : Int) ≤ (n : Int) := ⟨min n (3 + y), by split <;> omega, by omega, by omega, by omega⟩) | (at_builtin; refine wpList_pushN rfl (.tmp 70) (.tmp 74) 107 rfl w.heap.size 110 (.agg #[.int .i64 0, .int .i64 0, .int .i64 0]) 3 24 Tryd.underlying107 info_piece rfl (by decide) (.slice A' ps.length c') ps.length (pcells ps) rfl how.out _ rfl (by simp [Value.oneCell']) rfl (by simp only [maxLen]; omega) (by omega) (by omega) ?_; intro v' w4 hown' hg'; obtain ⟨A4, c4, rfl⟩ := own_shape hown'; have hC4 := hide (hCw.out.typed ((grown_typed how.out hg').low' hBw) (by simp) hBz); have hu4 := hide (huw.out.grownNew how.out hBw (Nat.le_refl _) hg'); replace hown' := hide hown'; replace hg' := hide hg') | (at_builtin; refine wpList_pushN rfl (.tmp 16) (.tmp 22) 107 rfl w.heap.size 110 (.agg #[.int .i64 0, .int .i64 0, .int .i64 0]) 3 24 Tryd.underlying107 info_piece rfl (by decide) (.slice A' ps.length c') ps.length (pcells ps) rfl how.out _ rfl (by simp [Value.oneCell']) rfl (by simp only [maxLen]; omega) (by omega) (by omega) ?_; intro v' w4 hown' hg'; obtain ⟨A4, c4, rfl⟩ := own_shape hown'; have hC4 := hide (hCw.out.typed ((grown_typed how.out hg').low' hBw) (by simp) hBz); have hu4 := hide (huw.out.grownNew how.out hBw (Nat.le_refl _) hg'); replace hown' := hide hown'; replace hg' := hide hg') | fail)
                all_goals (first | (go_meet; refine ⟨M, (17, M - 3), A4, c4, rfl, by omega, by omega, step17 0 M (by omega) (by omega), rfl, ?_, hC4.out, hu4.out⟩; rw [pcells_append]; unfold pcell; rw [show ((M - 3 : Nat) : Int) = (M : Int) - 3 by omega]; exact hown'.out) | (go_meet; refine ⟨1, (0, 0), A4, c4, rfl, by omega, by omega, step1 0 0 hx15, rfl, ?_, hC4.out, hu4.out⟩; rw [pcells_append]; unfold pcell; rw [pBits_low 0 hx15]; exact hown'.out))
              · have h3I : ¬ (3 : Int) ≤ (n : Int) := by omega
                go_wp2_with (first | (go_at_call 42; (with_reducible refine (cI.out _ _ hCw.out hBz (by decide) (by decide)).mono ?_); rintro e w2 ⟨b, rfl, hC2, hu2⟩; have hz2 := hu2.size; replace how := hide (hu2.own how.out (by simp)); replace huw := hide (huw.out.trans hu2); replace kx := hlv.out _ huw.out; replace hBz := Nat.le_trans hBz hz2; replace hszw := Nat.le_trans hszw hz2; replace hCw := hide hC2; clear hu2 hC2 hz2) | (at_builtin; refine wpList_pushN rfl (.tmp 16) (.tmp 22) 107 rfl w.heap.size 110 (.agg #[.int .i64 0, .int .i64 0, .int .i64 0]) 3 24 Tryd.underlying107 info_piece rfl (by decide) (.slice A' ps.length c') ps.length (pcells ps) rfl how.out _ rfl (by simp [Value.oneCell']) rfl (by simp only [maxLen]; omega) (by omega) (by omega) ?_; intro v' w4 hown' hg'; obtain ⟨A4, c4, rfl⟩ := own_shape hown'; have hC4 := hide (hCw.out.typed ((grown_typed how.out hg').low' hBw) (by simp) hBz); have hu4 := hide (huw.out.grownNew how.out hBw (Nat.le_refl _) hg'); replace hown' := hide hown'; replace hg' := hide hg') | fail)
                all_goals (first | (go_meet; refine ⟨1, (0, 0), A4, c4, rfl, by omega, by omega, step1 0 0 hx15, rfl, ?_, hC4.out, hu4.out⟩; rw [pcells_append]; unfold pcell; rw [pBits_low 0 hx15]; exact hown'.out))
          · have hb1 : ¬ (0 : Int) = (bf : Int) := by omega
            have hb2 : ((0 : Int) == (bf : Int)) = false := beq_false_of_ne hb1
            by_cases h11 : 11 ≤ n
            · have h11I : (11 : Int) ≤ (n : Int) := by omega
              have h3I : (3 : Int) ≤ (n : Int) := by omega
              go_wp2_with (first | (go_at_call 42; (with_reducible refine (cI.out _ _ hCw.out hBz (by decide) (by decide)).mono ?_); rintro e w2 ⟨b, rfl, hC2, hu2⟩; have hz2 := hu2.size; replace how := hide (hu2.own how.out (by simp)); replace huw := hide (huw.out.trans hu2); replace kx := hlv.out _ huw.out; replace hBz := Nat.le_trans hBz hz2; replace hszw := Nat.le_trans hszw hz2; replace hCw := hide hC2; clear hu2 hC2 hz2) | (go_at_call 43; (with_reducible refine (cN.out 128 _ hCw.out hBz (by decide) (by decide)).mono ?_); rintro e w3 ⟨y, rfl, hy, hC2, hu2⟩; have hz2 := hu2.size; replace how := hide (hu2.own how.out (by simp)); replace huw := hide (huw.out.trans hu2); replace kx := hlv.out _ huw.out; replace hBz := Nat.le_trans hBz hz2; replace hszw := Nat.le_trans hszw hz2; replace hCw := hide hC2; clear hu2 hC2 hz2; obtain ⟨M, hM0, hM2, hM3, hM4⟩ : ∃ M : Nat, (if 11 + (y : Int) < (n : Int) then 11 + (y : Int) else (n : Int)) = (M : Int) ∧ 11 ≤ (M : Int) ∧ (M : Int) < 139 ∧ (M : Int) ≤ (n : Int) := ⟨min n (11 + y), by split <;> omega, by omega, by omega, by omega⟩) | (go_at_call 43; (with_reducible refine (cN.out 8 _ hCw.out hBz (by decide) (by decide)).mono ?_); rintro e w3 ⟨y, rfl, hy, hC2, hu2⟩; have hz2 := hu2.size; replace how := hide (hu2.own how.out (by simp)); replace huw := hide (huw.out.trans hu2); replace kx := hlv.out _ huw.out; replace hBz := Nat.le_trans hBz hz2; replace hszw := Nat.le_trans hszw hz2; replace hCw := hide hC2; clear hu2 hC2 hz2; obtain ⟨M, hM0, hM2, hM3, hM4⟩ : ∃ M : Nat, 3 + (y : Int) = (M : Int) ∧ 3 ≤ (M : Int) ∧ (M : Int) < 11 ∧ (M : Int) ≤ (n : Int) := ⟨3 + y, by omega, by omega, by omega, by omega⟩) | (at_builtin; refine wpList_pushN rfl (.tmp 44) (.tmp 48) 107 rfl w.heap.size 110 (.agg #[.int .i64 0, .int .i64 0, .int .i64 0]) 3 24 Tryd.underlying107 info_piece rfl (by decide) (.slice A' ps.length c') ps.length (pcells ps) rfl how.out _ rfl (by simp [Value.oneCell']) rfl (by simp only [maxLen]; omega) (by omega) (by omega) ?_; intro v' w4 hown' hg'; obtain ⟨A4, c4, rfl⟩ := own_shape hown'; have hC4 := hide (hCw.out.typed ((grown_typed how.out hg').low' hBw) (by simp) hBz); have hu4 := hide (huw.out.grownNew how.out hBw (Nat.le_refl _) hg'); replace hown' := hide hown'; replace hg' := hide hg') | (at_builtin; refine wpList_pushN rfl (.tmp 70) (.tmp 74) 107 rfl w.heap.size 110 (.agg #[.int .i64 0, .int .i64 0, .int .i64 0]) 3 24 Tryd.underlying107 info_piece rfl (by decide) (.slice A' ps.length c') ps.length (pcells ps) rfl how.out _ rfl (by simp [Value.oneCell']) rfl (by simp only [maxLen]; omega) (by omega) (by omega) ?_; intro v' w4 hown' hg'; obtain ⟨A4, c4, rfl⟩ := own_shape hown'; have hC4 := hide (hCw.out.typed ((grown_typed how.out hg').low' hBw) (by simp) hBz); have hu4 := hide (huw.out.grownNew how.out hBw (Nat.le_refl _) hg'); replace hown' := hide hown'; replace hg' := hide hg') | (at_builtin; refine wpList_pushN rfl (.tmp 16) (.tmp 22) 107 rfl w.heap.size 110 (.agg #[.int .i64 0, .int .i64 0, .int .i64 0]) 3 24 Tryd.underlying107 info_piece rfl (by decide) (.slice A' ps.length c') ps.length (pcells ps) rfl how.out _ rfl (by simp [Value.oneCell']) rfl (by simp only [maxLen]; omega) (by omega) (by omega) ?_; intro v' w4 hown' hg'; obtain ⟨A4, c4, rfl⟩ := own_shape hown'; have hC4 := hide (hCw.out.typed ((grown_typed how.out hg').low' hBw) (by simp) hBz); have hu4 := hide (huw.out.grownNew how.out hBw (Nat.le_refl _) hg'); replace hown' := hide hown'; replace hg' := hide hg') | fail)
              all_goals (first | (go_meet; refine ⟨M, (18, M - 11), A4, c4, rfl, by omega, by omega, step18 bf M (by omega) (by omega), rfl, ?_, hC4.out, hu4.out⟩; rw [pcells_append]; unfold pcell; rw [show ((M - 11 : Nat) : Int) = (M : Int) - 11 by omega]; exact hown'.out) | (go_meet; refine ⟨M, (17, M - 3), A4, c4, rfl, by omega, by omega, step17 bf M (by omega) (by omega), rfl, ?_, hC4.out, hu4.out⟩; rw [pcells_append]; unfold pcell; rw [show ((M - 3 : Nat) : Int) = (M : Int) - 3 by omega]; exact hown'.out) | (go_meet; refine ⟨1, (0, 0), A4, c4, rfl, by omega, by omega, step1 bf 0 hx15, rfl, ?_, hC4.out, hu4.out⟩; rw [pcells_append]; unfold pcell; rw [pBits_low 0 hx15]; exact hown'.out))
            · have h11I : ¬ (11 : Int) ≤ (n : Int) := by omega
              by_cases h3 : 3 ≤ n
              · have h3I : (3 : Int) ≤ (n : Int) := by omega
                go_wp2_with (first | (go_at_call 42; (with_reducible refine (cI.out _ _ hCw.out hBz (by decide) (by decide)).mono ?_); rintro e w2 ⟨b, rfl, hC2, hu2⟩; have hz2 := hu2.size; replace how := hide (hu2.own how.out (by simp)); replace huw := hide (huw.out.trans hu2); replace kx := hlv.out _ huw.out; replace hBz := Nat.le_trans hBz hz2; replace hszw := Nat.le_trans hszw hz2; replace hCw := hide hC2; clear hu2 hC2 hz2) | (go_at_call 43; (with_reducible refine (cN.out 8 _ hCw.out hBz (by decide) (by decide)).mono ?_); rintro e w3 ⟨y, rfl, hy, hC2, hu2⟩; have hz2 := hu2.size; replace how := hide (hu2.own how.out (by simp)); replace huw := hide (huw.out.trans hu2); replace kx := hlv.out _ huw.out; replace hBz := Nat.le_trans hBz hz2; replace hszw := Nat.le_trans hszw hz2; replace hCw := hide hC2; clear hu2 hC2 hz2; obtain ⟨M, hM0, hM2, hM3, hM4⟩ : ∃ M : Nat, (if 3 + (y : Int) < (n : Int) then 3 + (y : Int) else (n : Int)) = (M : Int) ∧ 3 ≤ (M : Int) ∧ (M : Int) < 11 ∧ (M : Int) ≤ (n : Int) := ⟨min n (3 + y), by split <;> omega, by omega, by omega, by omega⟩) | (at_builtin; refine wpList_pushN rfl (.tmp 70) (.tmp 74) 107 rfl w.heap.size 110 (.agg #[.int .i64 0, .int .i64 0, .int .i64 0]) 3 24 Tryd.underlying107 info_piece rfl (by decide) (.slice A' ps.length c') ps.length (pcells ps) rfl how.out _ rfl (by simp [Value.oneCell']) rfl (by simp only [maxLen]; omega) (by omega) (by omega) ?_; intro v' w4 hown' hg'; obtain ⟨A4, c4, rfl⟩ := own_shape hown'; have hC4 := hide (hCw.out.typed ((grown_typed how.out hg').low' hBw) (by simp) hBz); have hu4 := hide (huw.out.grownNew how.out hBw (Nat.le_refl _) hg'); replace hown' := hide hown'; replace hg' := hide hg') | (at_builtin; refine wpList_pushN rfl (.tmp 16) (.tmp 22) 107 rfl w.heap.size 110 (.agg #[.int .i64 0, .int .i64 0, .int .i64 0]) 3 24 Tryd.underlying107 info_piece rfl (by decide) (.slice A' ps.length c') ps.length (pcells ps) rfl how.out _ rfl (by simp [Value.oneCell']) rfl (by simp only [maxLen]; omega) (by omega) (by omega) ?_; intro v' w4 hown' hg'; obtain ⟨A4, c4, rfl⟩ := own_shape hown'; have hC4 := hide (hCw.out.typed ((grown_typed how.out hg').low' hBw) (by simp) hBz); have hu4 := hide (huw.out.grownNew how.out hBw (Nat.le_refl _) hg'); replace hown' := hide hown'; replace hg' := hide hg') | fail)
                all_goals (first | (go_meet; refine ⟨M, (17, M - 3), A4, c4, rfl, by omega, by omega, step17 bf M (by omega) (by omega), rfl, ?_, hC4.out, hu4.out⟩; rw [pcells_append]; unfold pcell; rw [show ((M - 3 : Nat) : Int) = (M : Int) - 3 by omega]; exact hown'.out) | (go_meet; refine ⟨1, (0, 0), A4, c4, rfl, by omega, by omega, step1 bf 0 hx15, rfl, ?_, hC4.out, hu4.out⟩; rw [pcells_append]; unfold pcell; rw [pBits_low 0 hx15]; exact hown'.out))
              · have h3I : ¬ (3 : Int) ≤ (n : Int) := by omega
                go_wp2_with (first | (go_at_call 42; (with_reducible refine (cI.out _ _ hCw.out hBz (by decide) (by decide)).mono ?_); rintro e w2 ⟨b, rfl, hC2, hu2⟩; have hz2 := hu2.size; replace how := hide (hu2.own how.out (by simp)); replace huw := hide (huw.out.trans hu2); replace kx := hlv.out _ huw.out; replace hBz := Nat.le_trans hBz hz2; replace hszw := Nat.le_trans hszw hz2; replace hCw := hide hC2; clear hu2 hC2 hz2) | (at_builtin; refine wpList_pushN rfl (.tmp 16) (.tmp 22) 107 rfl w.heap.size 110 (.agg #[.int .i64 0, .int .i64 0, .int .i64 0]) 3 24 Tryd.underlying107 info_piece rfl (by decide) (.slice A' ps.length c') ps.length (pcells ps) rfl how.out _ rfl (by simp [Value.oneCell']) rfl (by simp only [maxLen]; omega) (by omega) (by omega) ?_; intro v' w4 hown' hg'; obtain ⟨A4, c4, rfl⟩ := own_shape hown'; have hC4 := hide (hCw.out.typed ((grown_typed how.out hg').low' hBw) (by simp) hBz); have hu4 := hide (huw.out.grownNew how.out hBw (Nat.le_refl _) hg'); replace hown' := hide hown'; replace hg' := hide hg') | fail)
                all_goals (first | (go_meet; refine ⟨1, (0, 0), A4, c4, rfl, by omega, by omega, step1 bf 0 hx15, rfl, ?_, hC4.out, hu4.out⟩; rw [pcells_append]; unfold pcell; rw [pBits_low 0 hx15]; exact hown'.out))
        · have hxI : ¬ (x : Int) = 0 := by omega
          have hxq : ((x : Int) == 0) = false := beq_false_of_ne hxI
          have hxq2 : ((x : Int) != 0) = true := by simp [bne, hxq]
          by_cases hxb : x = bf
          · subst hxb
            by_cases h3 : 3 ≤ n
            · have h3I : (3 : Int) ≤ (n : Int) := by omega
              go_wp2_with (first | (go_at_call 42; (with_reducible refine (cI.out _ _ hCw.out hBz (by decide) (by decide)).mono ?_); rintro e w2 ⟨b, rfl, hC2, hu2⟩; have hz2 := hu2.size; replace how := hide (hu2.own how.out (by simp)); replace huw := hide (huw.out.trans hu2); replace kx := hlv.out _ huw.out; replace hBz := Nat.le_trans hBz hz2; replace hszw := Nat.le_trans hszw hz2; replace hCw := hide hC2; clear hu2 hC2 hz2) | (go_at_call 43; (with_reducible refine (cN.out 4 _ hCw.out hBz (by decide) (by decide)).mono ?_); rintro e w3 ⟨y, rfl, hy, hC2, hu2⟩; have hz2 := hu2.size; replace how := hide (hu2.own how.out (by simp)); replace huw := hide (huw.out.trans hu2); replace kx := hlv.out _ huw.out; replace hBz := Nat.le_trans hBz hz2; replace hszw := Nat.le_trans hszw hz2; replace hCw := hide hC2; clear hu2 hC2 hz2; obtain ⟨M, hM0, hM2, hM3, hM4⟩ : ∃ M : Nat, (if 3 + (y : Int) < (n : Int) then 3 + (y : Int) else (n : Int)) = (M : Int) ∧ 3 ≤ (M : Int) ∧ (M : Int) < 7 ∧ (M : Int) ≤ (n : Int) := ⟨min n (3 + y), by split <;> omega, by omega, by omega, by omega⟩) | (at_builtin; refine wpList_pushN rfl (.tmp 104) (.tmp 108) 107 rfl w.heap.size 110 (.agg #[.int .i64 0, .int .i64 0, .int .i64 0]) 3 24 Tryd.underlying107 info_piece rfl (by decide) (.slice A' ps.length c') ps.length (pcells ps) rfl how.out _ rfl (by simp [Value.oneCell']) rfl (by simp only [maxLen]; omega) (by omega) (by omega) ?_; intro v' w4 hown' hg'; obtain ⟨A4, c4, rfl⟩ := own_shape hown'; have hC4 := hide (hCw.out.typed ((grown_typed how.out hg').low' hBw) (by simp) hBz); have hu4 := hide (huw.out.grownNew how.out hBw (Nat.le_refl _) hg'); replace hown' := hide hown'; replace hg' := hide hg') | (at_builtin; refine wpList_pushN rfl (.tmp 16) (.tmp 22) 107 rfl w.heap.size 110 (.agg #[.int .i64 0, .int .i64 0, .int .i64 0]) 3 24 Tryd.underlying107 info_piece rfl (by decide) (.slice A' ps.length c') ps.length (pcells ps) rfl how.out _ rfl (by simp [Value.oneCell']) rfl (by simp only [maxLen]; omega) (by omega) (by omega) ?_; intro v' w4 hown' hg'; obtain ⟨A4, c4, rfl⟩ := own_shape hown'; have hC4 := hide (hCw.out.typed ((grown_typed how.out hg').low' hBw) (by simp) hBz); have hu4 := hide (huw.out.grownNew how.out hBw (Nat.le_refl _) hg'); replace hown' := hide hown'; replace hg' := hide hg') | fail)
              all_goals (first | (go_meet; refine ⟨M, (16, M - 3), A4, c4, rfl, by omega, by omega, step16 x M hx0 (by omega) (by omega), rfl, ?_, hC4.out, hu4.out⟩; rw [pcells_append]; unfold pcell; rw [show ((M - 3 : Nat) : Int) = (M : Int) - 3 by omega]; exact hown'.out) | (go_meet; refine ⟨1, (x, 0), A4, c4, rfl, by omega, by omega, step1 x x hx15, rfl, ?_, hC4.out, hu4.out⟩; rw [pcells_append]; unfold pcell; rw [pBits_low x hx15]; exact hown'.out))
            · have h3I : ¬ (3 : Int) ≤ (n : Int) := by omega
              go_wp2_with (first | (go_at_call 42; (with_reducible refine (cI.out _ _ hCw.out hBz (by decide) (by decide)).mono ?_); rintro e w2 ⟨b, rfl, hC2, hu2⟩; have hz2 := hu2.size; replace how := hide (hu2.own how.out (by simp)); replace huw := hide (huw.out.trans hu2); replace kx := hlv.out _ huw.out; replace hBz := Nat.le_trans hBz hz2; replace hszw := Nat.le_trans hszw hz2; replace hCw := hide hC2; clear hu2 hC2 hz2) | (at_builtin; refine wpList_pushN rfl (.tmp 16) (.tmp 22) 107 rfl w.heap.size 110 (.agg #[.int .i64 0, .int .i64 0, .int .i64 0]) 3 24 Tryd.underlying107 info_piece rfl (by decide) (.slice A' ps.length c') ps.length (pcells ps) rfl how.out _ rfl (by simp [Value.oneCell']) rfl (by simp only [maxLen]; omega) (by omega) (by omega) ?_; intro v' w4 hown' hg'; obtain ⟨A4, c4, rfl⟩ := own_shape hown'; have hC4 := hide (hCw.out.typed ((grown_typed how.out hg').low' hBw) (by simp) hBz); have hu4 := hide (huw.out.grownNew how.out hBw (Nat.le_refl _) hg'); replace hown' := hide hown'; replace hg' := hide hg') | fail)
              all_goals (first | (go_meet; refine ⟨1, (x, 0), A4, c4, rfl, by omega, by omega, step1 x x hx15, rfl, ?_, hC4.out, hu4.out⟩; rw [pcells_append]; unfold pcell; rw [pBits_low x hx15]; exact hown'.out))
          · have hb1 : ¬ (x : Int) = (bf : Int) := by omega
            have hb2 : ((x : Int) == (bf : Int)) = false := beq_false_of_ne hb1
            go_wp2_with (first | (go_at_call 42; (with_reducible refine (cI.out _ _ hCw.out hBz (by decide) (by decide)).mono ?_); rintro e w2 ⟨b, rfl, hC2, hu2⟩; have hz2 := hu2.size; replace how := hide (hu2.own how.out (by simp)); replace huw := hide (huw.out.trans hu2); replace kx := hlv.out _ huw.out; replace hBz := Nat.le_trans hBz hz2; replace hszw := Nat.le_trans hszw hz2; replace hCw := hide hC2; clear hu2 hC2 hz2) | (at_builtin; refine wpList_pushN rfl (.tmp 16) (.tmp 22) 107 rfl w.heap.size 110 (.agg #[.int .i64 0, .int .i64 0, .int .i64 0]) 3 24 Tryd.underlying107 info_piece rfl (by decide) (.slice A' ps.length c') ps.length (pcells ps) rfl how.out _ rfl (by simp [Value.oneCell']) rfl (by simp only [maxLen]; omega) (by omega) (by omega) ?_; intro v' w4 hown' hg'; obtain ⟨A4, c4, rfl⟩ := own_shape hown'; have hC4 := hide (hCw.out.typed ((grown_typed how.out hg').low' hBw) (by simp) hBz); have hu4 := hide (huw.out.grownNew how.out hBw (Nat.le_refl _) hg'); replace hown' := hide hown'; replace hg' := hide hg') | fail)
            all_goals (first | (go_meet; refine ⟨1, (x, 0), A4, c4, rfl, by omega, by omega, step1 bf x hx15, rfl, ?_, hC4.out, hu4.out⟩; rw [pcells_append]; unfold pcell; rw [pBits_low x hx15]; exact hown'.out))
      case rest =>
        clear hrun how huw kx hszw hCw hBz cI cN
        obtain ⟨m, p, A2, c2, rfl, hm1, hmn, hst, rfl, ho2, hC2, hu2⟩ := hcut
        have kx2 := hlv.out wc hu2
        have hok2 : ∀ q ∈ ps ++ [p], PieceOk q := fun q hq => by
          rcases List.mem_append.1 hq with h | h
          · exact hok.out q h
          · rw [List.mem_singleton.1 h]
            exact hst.ok
        have hex2 : expandP 8 (ps ++ [p]) = L.take (i + m) := by
          rw [expandP_append, hex.out, hbf.out, hst.ex]
          exact (take_run L i m x (by omega) (fun j hj => by rw [hrn.out j (by omega)])).symm
        have hlb2 : lastB 8 (ps ++ [p]) = if x = 0 then bf else x := by rw [lastB_append, hbf.out, hst.af]
        have hps2 : (ps ++ [p]).length = ps.length + 1 := by simp
        replace ho2 := hide ho2
        replace hC2 := hide hC2
        replace hu2 := hide hu2
        replace hok2 := hide hok2
        replace hex2 := hide hex2
        replace hlb2 := hide hlb2
        replace hps2 := hide hps2
        replace hst := hide hst
        have hiL : (i : Int) < (L.length : Int) := by omega
        by_cases hx0 : x = 0
        · subst hx0
          go_wp2_with fail
          go_roundg (k + 1 - m)
          case measure => omega
          case rel => exact ⟨i + m, ps ++ [p], A2, c2, by omega, by rw [hps2.out], by rw [hlb2.out]; simp, by go_num, by rw [hps2.out]; exact ho2.out, hok2.out, hex2.out, hC2.out, hu2.out⟩
        · have hxI : ¬ (x : Int) = 0 := by omega
          have hxq : ((x : Int) == 0) = false := beq_false_of_ne hxI
          have hxq2 : ((x : Int) != 0) = true := by simp [bne, hxq]
          go_wp2_with fail
          go_roundg (k + 1 - m)
          case measure => omega
          case rel => exact ⟨i + m, ps ++ [p], A2, c2, by omega, by rw [hps2.out], by rw [hlb2.out, if_neg hx0], by go_num, by rw [hps2.out]; exact ho2.out, hok2.out, hex2.out, hC2.out, hu2.out⟩
end Go.Proofs.YtpiapfahcoopbaaDoor
namespace Go.Proofs.YtpiapfahcoopbaaDoor
set_option linter.unusedSimpArgs false
set_option linter.unusedVariables false
set_option linter.unnecessarySimpa false
open Go.RowKit Plain

/-- Where things lie. -/
structure Lie (B c g base : Nat) (w0 : World) : Prop where
  hB : B ≤ base
  hbw : base ≤ w0.heap.size
  hg : B ≤ g
  hc : B ≤ c
theorem Lie.bw {B c g base : Nat} {w0 : World} (h : Lie B c g base w0) : B ≤ w0.heap.size := Nat.le_trans h.hB h.hbw
theorem Lie.on {B c g base : Nat} {w0 w1 : World} (h : Lie B c g base w0) (hz : w0.heap.size ≤ w1.heap.size) : Lie B c g base w1 := ⟨h.hB, Nat.le_trans h.hbw hz, h.hg, h.hc⟩
/-- len bits, which make val, are written; w0 is the world that one began with. -/
structure WC (B c g base : Nat) (w0 : World) (len val : Nat) (w : World) : Prop where
  lie : Lie B c g base w0
  wr : WrAt w g base len val
  ch : ChAt w B c
  up : UpdT B ([42, 5, 91] : List TypeId) w0 w
namespace WC
variable {B c g base len val : Nat} {w0 w w' : World}
theorem sz (h : WC B c g base w0 len val w) : w0.heap.size ≤ w.heap.size := h.up.size
theorem bz (h : WC B c g base w0 len val w) : B ≤ w.heap.size := Nat.le_trans h.lie.bw h.up.size
theorem lt (h : WC B c g base w0 len val w) : val < 2 ^ len := h.wr.lt
/-- Something else has turned. -/
theorem move {ts : List TypeId} (h : WC B c g base w0 len val w) (u : UpdT B ts w w') (h1 : 42 ∉ ts) (h2 : 5 ∉ ts) (h3 : 91 ∉ ts) (u0 : UpdT B ([42, 5, 91] : List TypeId) w0 w') : WC B c g base w0 len val w' :=
  ⟨h.lie, h.wr.typed u h1 h2, h.ch.typed u h3 h.bz, u0⟩
theorem made (h : WC B c g base w0 len val w) (u : UpdT B [] w w') : WC B c g base w0 len val w' := h.move u (by simp) (by simp) (by simp) (h.up.trans (u.more (by simp)))
theorem alloc (h : WC B c g base w0 len val w) (o : Obj) : WC B c g base w0 len val (w.alloc o) := h.made ((UpdT.refl B [] w).alloc o)
theorem drewN (h : WC B c g base w0 len val w) (n : Nat) : WC B c g base w0 len val (w.drewN n) := ⟨h.lie, h.wr.drewN n, ⟨h.ch.h⟩, h.up.drewN n⟩
theorem drew (h : WC B c g base w0 len val w) : WC B c g base w0 len val w.drew := h.drewN 1
/-- What one made oneself has turned. -/
theorem set {t : TypeId} {k i : Nat} {cs : Array Value} (h : WC B c g base w0 len val w) (hb : Blk w k t cs) (hk : w0.heap.size ≤ k) (h1 : 42 ≠ t) (h2 : 5 ≠ t) (h3 : 91 ≠ t) (v : Value) : WC B c g base w0 len val (w.setCell ⟨k, i, none⟩ v) :=
  h.move ((UpdT.refl B [t] w).set hb (Nat.le_trans h.lie.bw hk) (by simp) v) (by simpa using h1) (by simpa using h2) (by simpa using h3) (h.up.setNew (p := ⟨k, i, none⟩) (Nat.le_trans h.lie.bw hk) hk v)
/-- Begun anew. -/
theorem anew (h : WC B c g base w0 len val w) : WC B c g base w len val w := ⟨h.lie.on h.sz, h.wr, h.ch, UpdT.refl _ _ _⟩
theorem back {w1 : World} {len' val' : Nat} (h : WC B c g base w0 len val w1) (h' : WC B c g base w1 len' val' w) : WC B c g base w0 len' val' w := ⟨h.lie, h'.wr, h'.ch, h.up.trans h'.up⟩
end WC
def PutPost (B c g base len v n : Nat) (val : Nat) (w0 w : World) (e : Ending) (w' : World) : Prop := e = .returned (.tuple #[]) ∧ ∃ val', WC B c g base w0 (len + n) val' w' ∧ Wrote len val (len + n) val' (fun V => Told V len n v) ∧ UpdT B ([42, 5, 91] : List TypeId) w w'
theorem put_wc {B c g base len val : Nat} {w0 w : World} (h : WC B c g base w0 len val w) (v n : Nat) (vI nI : Int) (hvI : vI = (v : Int)) (hnI : nI = (n : Int)) (hl : (len : Int) ≤ 1000000000) (hn : n ≤ 30) (hv : v < 2 ^ n) :
    Calls Tryd.prog 47 #[.pointer (some ⟨g, 0, none⟩), .int .i64 vI, .int .i64 nI] w (PutPost B c g base len v n val w0 w) := by
  subst hvI hnI
  have hv2 : v ≤ 1073741824 := Nat.le_of_lt (Nat.lt_of_lt_of_le hv (Nat.le_trans (Nat.pow_le_pow_right (by decide) hn) (by decide)))
  refine (put_any g base B v n len val w h.wr h.lie.hB (Nat.le_trans h.lie.hbw h.sz) h.lie.hg (by omega) (by omega) (by omega)).mono ?_
  rintro e w' ⟨rfl, h1, h2⟩
  exact ⟨rfl, _, ⟨h.lie, h1, h.ch.typed h2 (by simp) h.bz, h.up.trans (h2.more (by simp))⟩, Wrote.put' v n h.lt hv, h2.more (by simp)⟩
def IsPost (B c g base len val : Nat) (w0 w : World) (e : Ending) (w' : World) : Prop := ∃ b, e = .returned (.bool b) ∧ WC B c g base w0 len val w' ∧ UpdT B ([42, 5, 91] : List TypeId) w w'
theorem is_wc {B c g base len val : Nat} {w0 w : World} (h : WC B c g base w0 len val w) (m : Int) (h1 : 1 ≤ m) (hn : m ≤ 1073741824) :
    Calls Tryd.prog 42 #[.pointer (some ⟨c, 0, none⟩), .int .i64 m] w (IsPost B c g base len val w0 w) := by
  refine (is_int B c m w h.ch h.lie.hc h.bz h1 hn).mono ?_
  rintro e w' ⟨b, rfl, h2, h3⟩
  exact ⟨b, rfl, ⟨h.lie, h.wr.typed h3 (by simp) (by simp), h2, h.up.trans (h3.more (by simp))⟩, h3.more (by simp)⟩
def NextcPost (B c g base len val : Nat) (m : Int) (w0 w : World) (e : Ending) (w' : World) : Prop := ∃ x : Nat, e = .returned (.int .i64 (x : Nat)) ∧ (x : Int) < m ∧ WC B c g base w0 len val w' ∧ UpdT B ([42, 5, 91] : List TypeId) w w'
theorem nextc_wc {B c g base len val : Nat} {w0 w : World} (h : WC B c g base w0 len val w) (m : Int) (h1 : 1 ≤ m) (hn : m ≤ 1073741824) :
    Calls Tryd.prog 43 #[.pointer (some ⟨c, 0, none⟩), .int .i64 m] w (NextcPost B c g base len val m w0 w) := by
  refine (nextc_int B c m w h.ch h.lie.hc h.bz h1 hn).mono ?_
  rintro e w' ⟨x, rfl, hx, h2, h3⟩
  exact ⟨x, rfl, hx, ⟨h.lie, h.wr.typed h3 (by simp) (by simp), h2, h.up.trans (h3.more (by simp))⟩, h3.more (by simp)⟩
def PcsPost (B c g base len val : Nat) (L : List Nat) (w0 w : World) (e : Ending) (w' : World) : Prop := ∃ (ps : List (Nat × Nat)) (A : Option Addr) (cp : Nat), e = .returned (.slice A ps.length cp) ∧ (∀ p ∈ ps, PieceOk p) ∧ expandP 8 ps = L ∧ w'.ownsRow w.heap.size 110 3 (.slice A ps.length cp) ps.length (pcells ps) ∧ WC B c g base w0 len val w' ∧ UpdT B ([42, 5, 91] : List TypeId) w w'
theorem pieces_wc {B c g base len val : Nat} {w0 w : World} (h : WC B c g base w0 len val w) (A : Option Addr) (bl cap : Nat) (L : List Nat) (hl : L.length ≤ 4096) (hL : ∀ x ∈ L, x ≤ 15) (hO : w.ownsRow bl 3 1 (.slice A L.length cap) L.length ((ofN' L).map (Value.int .i64))) :
    Calls Tryd.prog 60 #[.pointer (some ⟨c, 0, none⟩), .slice A L.length cap] w (PcsPost B c g base len val L w0 w) := by
  refine (pieces_any B c bl cap A L w h.ch h.lie.hc h.bz (by omega) hL hO).mono ?_
  rintro e w' ⟨ps, A', cp, rfl, h1, h2, h4, h5, h6⟩
  exact ⟨ps, A', cp, rfl, h1, h2, h4, ⟨h.lie, h.wr.typed h6 (by simp) (by simp), h5, h.up.trans (h6.more (by simp))⟩, h6.more (by simp)⟩
def LensPost (B c g base len val most : Nat) (u : List Bool) (w0 w : World) (e : Ending) (w' : World) : Prop := ∃ (L : List Nat) (A : Option Addr) (cp : Nat), e = .returned (.slice A u.length cp) ∧ LensOf most u L ∧ w'.ownsRow w.heap.size 3 1 (.slice A u.length cp) u.length ((ofN' L).map (Value.int .i64)) ∧ WC B c g base w0 len val w' ∧ UpdT B ([42, 5, 91] : List TypeId) w w'
theorem lengths_wc {B c g base len val : Nat} {w0 w : World} (h : WC B c g base w0 len val w) (most bu cu : Nat) (mI : Int) (hmI : mI = (most : Int)) (u : List Bool) (A : Option Addr) (hU : w.ownsRow bu 4 1 (.slice A u.length cu) u.length (ofB u)) (h1 : 1 ≤ u.length) (hn : u.length ≤ 4096) (hm1 : 1 ≤ most) (hm : most ≤ 15) (hfit : u.length ≤ 2 ^ most) :
    Calls Tryd.prog 46 #[.pointer (some ⟨c, 0, none⟩), .slice A u.length cu, .int .i64 mI] w (LensPost B c g base len val most u w0 w) := by
  subst hmI
  refine (lengths_any B c most bu cu u A w h.ch h.lie.hc h.bz hU h1 hn hm1 hm hfit).mono ?_
  rintro e w' ⟨L, v, rfl, h2, h4, h5, h6⟩
  obtain ⟨A', cp, rfl⟩ := own_shape h4
  exact ⟨L, A', cp, rfl, h2, h4, ⟨h.lie, h.wr.typed h6 (by simp) (by simp), h5, h.up.trans (h6.more (by simp))⟩, h6.more (by simp)⟩
def CanonPost (B c g base len val bl : Nat) (L : List Nat) (w0 w : World) (e : Ending) (w' : World) : Prop := ∃ V A1 c1 A2 c2 n, e = .returned V ∧ V = .agg #[.slice A1 n c1, .slice A2 n c2, .bool (decide (nz L = 1))] ∧ CodeAt w' bl L V ∧ WC B c g base w0 len val w' ∧ UpdT B ([42, 5, 91] : List TypeId) w w'
theorem canonical_wc {B c g base len val : Nat} {w0 w : World} (h : WC B c g base w0 len val w) (A : Option Addr) (bl cap : Nat) (L : List Nat) (hl : L.length ≤ 4096) (hL : ∀ x ∈ L, x ≤ 15) (hbl : bl ≤ w.heap.size) (hO : w.ownsRow bl 3 1 (.slice A L.length cap) L.length ((ofN' L).map (Value.int .i64))) :
    Calls Tryd.prog 59 #[.slice A L.length cap] w (CanonPost B c g base len val bl L w0 w) := by
  refine (canonical_any A cap L w (by omega) hL (Rd.ofOwn hO)).mono ?_
  rintro e w' ⟨v, rfl, h1, h2⟩
  obtain ⟨V, cv, rfl⟩ := own_shape h1
  have u : UpdT B [] w w' := Below.updT h2
  exact ⟨_, _, _, _, _, _, rfl, rfl, ⟨A, V, cap, cv, rfl, u.own hO (by simp), own_down h1 hbl⟩, h.made u, u.more (by simp)⟩
theorem canonical_wn {B c g base len val : Nat} {w0 w : World} (h : WC B c g base w0 len val w) (A : Option Addr) (bl cap n : Nat) (L : List Nat) (hn : L.length = n) (hl : n ≤ 4096) (hL : ∀ x ∈ L, x ≤ 15) (hbl : bl ≤ w.heap.size) (hO : w.ownsRow bl 3 1 (.slice A n cap) n ((ofN' L).map (Value.int .i64))) :
    Calls Tryd.prog 59 #[.slice A n cap] w (CanonPost B c g base len val bl L w0 w) := by
  subst hn
  exact canonical_wc h A bl cap L hl hL hbl hO
theorem pieces_wn {B c g base len val : Nat} {w0 w : World} (h : WC B c g base w0 len val w) (A : Option Addr) (bl cap n : Nat) (L : List Nat) (hn : L.length = n) (hl : n ≤ 4096) (hL : ∀ x ∈ L, x ≤ 15) (hO : w.ownsRow bl 3 1 (.slice A n cap) n ((ofN' L).map (Value.int .i64))) :
    Calls Tryd.prog 60 #[.pointer (some ⟨c, 0, none⟩), .slice A n cap] w (PcsPost B c g base len val L w0 w) := by
  subst hn
  exact pieces_wc h A bl cap L hl hL hO
theorem codeput_wc {B c g base len val : Nat} {w0 w : World} (h : WC B c g base w0 len val w) (basec s : Nat) (sI : Int) (hsI : sI = (s : Int)) (L : List Nat) (x : Value) (hX : CodeAt w basec L x) (hs : s < L.length) (hL : ∀ x ∈ L, x ≤ 15) (hl : (len : Int) ≤ 1000000000) :
    Calls Tryd.prog 24 #[x, .pointer (some ⟨g, 0, none⟩), .int .i64 sI] w (PutPost B c g base len (symV L s) (symN L s) val w0 w) := by
  subst hsI
  refine (codeput_any g base basec B s len val L x w h.wr hX h.lie.hB (Nat.le_trans h.lie.hbw h.sz) h.lie.hg hs hL (by omega)).mono ?_
  rintro e w' ⟨rfl, h1, h2⟩
  exact ⟨rfl, _, ⟨h.lie, h1, h.ch.typed h2 (by simp) h.bz, h.up.trans (h2.more (by simp))⟩, Wrote.put' (symV L s) (symN L s) h.lt (symV_lt L s), h2.more (by simp)⟩
/-- A code laid into a variable, and read again. -/
theorem load_code {w : World} {R : Nat} {cs : Array Value} (hr : Blk w R 44 cs) (hcs : cs.size = 3) (a b d : Value) :
    (loadVar 44 ⟨R, 0, none⟩).run Tryd.prog (((w.setCell ⟨R, 0, none⟩ a).setCell ⟨R, 1, none⟩ b).setCell ⟨R, 2, none⟩ d) = .ok (.agg #[a, b, d]) (((w.setCell ⟨R, 0, none⟩ a).setCell ⟨R, 1, none⟩ b).setCell ⟨R, 2, none⟩ d) :=
  run_loadVar_mid (P := Tryd.prog) _ R 0 44 [a, b, d] _ (by
    have h9 := ((hr.set_ 0 a).set_ 1 b).set_ 2 d
    intro j v hv
    rw [Nat.zero_add, h9.cell j]
    obtain ⟨l⟩ := cs
    rcases l with _ | ⟨x, _ | ⟨y, _ | ⟨z, _ | ⟨q, l⟩⟩⟩⟩ <;> simp at hcs
    simpa using hv) Tryd.underlying44 rfl size_codeW
theorem UpdT.code {B R : Nat} {w : World} {cs : Array Value} (hr : Blk w R 44 cs) (hB : B ≤ R) (a b d : Value) : UpdT B [44] w (((w.setCell ⟨R, 0, none⟩ a).setCell ⟨R, 1, none⟩ b).setCell ⟨R, 2, none⟩ d) :=
  (((UpdT.refl B [44] w).set (i := 0) hr hB (by simp) a).set (i := 1) (hr.set_ 0 a) hB (by simp) b).set (i := 2) ((hr.set_ 0 a).set_ 1 b) hB (by simp) d
theorem WC.code {B c g base len val R : Nat} {w0 w : World} {cs : Array Value} (h : WC B c g base w0 len val w) (hr : Blk w R 44 cs) (hR : w0.heap.size ≤ R) (a b d : Value) : WC B c g base w0 len val (((w.setCell ⟨R, 0, none⟩ a).setCell ⟨R, 1, none⟩ b).setCell ⟨R, 2, none⟩ d) :=
  ((h.set (i := 0) hr hR (by decide) (by decide) (by decide) a).set (i := 1) (hr.set_ 0 a) hR (by decide) (by decide) (by decide) b).set (i := 2) ((hr.set_ 0 a).set_ 1 b) hR (by decide) (by decide) (by decide) d
end Go.Proofs.YtpiapfahcoopbaaDoor
namespace Go.Proofs.YtpiapfahcoopbaaDoor
set_option linter.unusedSimpArgs false
set_option linter.unusedVariables false
set_option linter.unnecessarySimpa false
open Go.RowKit Plain

/-- A code that was written: what is known of it. -/
def CodePost (B c g base len val size : Nat) (need : Nat → Prop) (w0 : World) (e : Ending) (w' : World) : Prop := ∃ (L : List Nat) (x : Value) (len' val' : Nat), e = .returned x ∧ LenOk 15 size L ∧ (∀ s, need s → 1 ≤ L.getD s 0) ∧ CodeAt w' w0.heap.size L x ∧ WC B c g base w0 len' val' w' ∧ Wrote len val len' val' (fun V => PreTold V len len' size L) ∧ len' ≤ len + 100000
theorem two_of (l : List Nat) (h : l.length = 2) : ∃ z y, l = [z, y] := by
  rcases l with _ | ⟨z, _ | ⟨y, _ | ⟨q, l⟩⟩⟩
  · simp at h
  · simp at h
  · exact ⟨z, y, rfl⟩
  · simp at h
set_option maxRecDepth 100000 in
set_option maxHeartbeats 8000000 in
theorem simple_any {B c g base len val : Nat} {w : World} (h : WC B c g base w len val w) (A : Option Addr) (bl cap size : Nat) (l : List Nat) (hO : w.ownsRow bl 3 1 (.slice A l.length cap) l.length ((ofN' l).map (Value.int .i64))) (hl : l.length = 1 ∨ l.length = 2) (ha : l.getD 0 0 < size ∧ l.getD 0 0 < 256) (h2 : l.length = 2 → l.getD 0 0 < l.getD 1 0 ∧ l.getD 1 0 < size ∧ l.getD 1 0 < 256) (hsz : (size : Int) ≤ 4096) (hlen : (len : Int) ≤ 900000000) :
    Calls Tryd.prog 44 #[.pointer (some ⟨c, 0, none⟩), .pointer (some ⟨g, 0, none⟩), .slice A l.length cap, .int .i64 (size : Nat)] w (CodePost B c g base len val size (fun s => s ∈ l) w) := by
  obtain ⟨gl, rfl, hcl⟩ := own_some hO (by omega)
  have hglt := (hO.lt gl rfl).2
  have kA : ∀ W, UpdT B ([42, 5, 91] : List TypeId) w W → W.cell? ⟨gl, 0, none⟩ = some (.int .i64 ((l.getD 0 0 : Nat) : Int)) := fun W hW => by
    have h := own_cell (hW.own hO (by decide)) 0 (by omega)
    rwa [ofN'_get] at h
  have kB : l.length = 2 → ∀ W, UpdT B ([42, 5, 91] : List TypeId) w W → W.cell? ⟨gl, 1, none⟩ = some (.int .i64 ((l.getD 1 0 : Nat) : Int)) := fun h2 W hW => by
    have h := own_cell (hW.own hO (by decide)) 1 (by omega)
    rwa [ofN'_get] at h
  have hW1 := h.alloc (.cells #[.slice none 0 0, .slice none 0 0, .bool false] 44)
  have hR1 := Blk.new w 44 #[.slice none 0 0, .slice none 0 0, .bool false]
  obtain ⟨a, hA⟩ : ∃ a, a = l.getD 0 0 := ⟨_, rfl⟩
  rw [← hA] at ha kA h2
  obtain ⟨ha1, ha2⟩ := ha
  have hlI : (1 : Int) ≤ (l.length : Int) := by omega
  have hlJ : (l.length : Int) ≤ 2 := by omega
  have haI : (a : Int) < (size : Int) := by omega
  replace hO := hide hO
  replace kA := hide kA
  replace kB := hide kB
  replace hA := hide hA
  replace h := hide h
  replace h2 := hide h2
  replace hl := hide hl
  clear hcl
  go_enter Tryd.func44, Tryd.ntmps44
  go_wp2_with fail
  refine (put_wc hW1 1 1 _ _ rfl rfl (by omega) (by decide) (by decide)).mono ?_
  rintro e w2 ⟨rfl, val2, hW2, hT2, hu2⟩
  have hR2 := hu2.typ _ _ _ hR1 (by decide)
  replace hW2 := hide hW2
  replace hR2 := hide hR2
  replace hT2 := hide hT2
  clear hu2 hW1 hR1
  go_wp2_with fail
  refine (put_wc hW2.out (l.length - 1) 1 _ _ (by omega) rfl (by omega) (by decide) (by have := hl.out; omega)).mono ?_
  rintro e w3 ⟨rfl, val3, hW3, hT3, hu3⟩
  have hR3 := hide (hu3.typ _ _ _ hR2.out (by decide))
  have hT3' := hide (hT2.out.and hT3)
  replace hW3 := hide hW3
  have hs3 : w.heap.size ≤ w3.heap.size := hW3.out.sz
  clear hu3 hW2 hR2 hT2 hT3
  go_upto_region 4 with (first | (refine wpList_makeN _ rfl (.tmp 17) (.tmp 17) 23 rfl w.heap.size 3 .i64 8 Tryd.underlying23 info_int .i64 .i64 _ _ size rfl rfl rfl rfl (by omega) (by simp only [maxLen]; omega) hs3 ?_; intro w4 ho4 hg4 hz4; replace ho4 := hide ho4; have hu4 := hide ((Upd.refl [] w3).grown hg4 (fun g h => by cases h)); replace hg4 := hide hg4) | fail)
  have hu4' : UpdT B [] w3 w4 := hu4.out.typed0
  have hW4 := hide (hW3.out.made hu4')
  have hR4 := hide (hu4'.typ _ _ _ hR3.out (by simp))
  have kA4 := kA.out _ hW4.out.up
  have hOge := (ho4.out.lt w3.heap.size rfl).1
  have hOlt := (ho4.out.lt w3.heap.size rfl).2
  clear hu4 hu4' hg4 hW3 hR3 hz4
  generalize w3.heap.size = O at *
  go_cut [27] from 19 to 27 (fun u27 wc => ∃ t : Bool, u27 = .bool t ∧ (t = true → a < 2) ∧ WC B c g base w (len + 1 + 1) val3 wc ∧ UpdT B ([42, 5, 91] : List TypeId) w4 wc)
  case first =>
    by_cases h2a : a < 2
    · have h2I : (a : Int) < 2 := by omega
      go_wp2_with (first | (go_at_call 42; (with_reducible refine (is_wc hW4.out _ (by decide) (by decide)).mono ?_); rintro e w5 ⟨b, rfl, hW5, hu5⟩; replace hW5 := hide hW5; replace hu5 := hide hu5) | fail)
      go_meet
      exact ⟨!b, rfl, fun _ => h2a, hW5.out, hu5.out⟩
    · have h2I : ¬ (a : Int) < 2 := by omega
      go_wp2_with fail
      go_meet
      exact ⟨false, rfl, fun h => by simp at h, hW4.out, UpdT.refl _ _ _⟩
  case rest =>
    obtain ⟨t, rfl, ht, hW5, hu5⟩ := hcut
    have hR5 := hide (hu5.typ _ _ _ hR4.out (by decide))
    have ho5 := hide (hu5.own ho4.out (by decide))
    have kA5 := kA.out _ hW5.up
    have hs5 := hu5.size
    replace hW5 := hide hW5
    replace ht := hide ht
    clear hu5 hR4 ho4 kA4 hW4
    go_upto_if 27 with fail
    go_cut [] from 28 to 41 (fun w6 => ∃ (f val' : Nat), f ≤ 1 ∧ WC B c g base w (len + 4 + 7 * f) val' w6 ∧ Wrote (len + 2) val3 (len + 4 + 7 * f) val' (fun V => Told V (len + 2) 1 f ∧ Told V (len + 3) (7 * f + 1) a) ∧ UpdT B ([42, 5, 91] : List TypeId) wc w6)
    case first =>
      cases t with
      | true =>
        have h2a := ht.out rfl
        go_wp2_with fail
        refine (put_wc hW5.out 0 1 _ _ rfl rfl (by omega) (by decide) (by decide)).mono ?_
        rintro e w6 ⟨rfl, val6, hW6, hT6, hu6⟩
        have kA6 := kA.out _ hW6.up
        replace hW6 := hide hW6
        replace hT6 := hide hT6
        replace hu6 := hide hu6
        go_wp2_with fail
        refine (put_wc hW6.out a 1 _ _ rfl rfl (by omega) (by decide) (by omega)).mono ?_
        rintro e w7 ⟨rfl, val7, hW7, hT7, hu7⟩
        have hTT := hide (hT6.out.and hT7)
        replace hW7 := hide hW7
        replace hu7 := hide (hu6.out.trans hu7)
        clear hT7
        go_wp2_with fail
        go_meet
        exact ⟨0, val7, by decide, hW7.out, hTT.out, hu7.out⟩
      | false =>
        go_wp2_with fail
        refine (put_wc hW5.out 1 1 _ _ rfl rfl (by omega) (by decide) (by decide)).mono ?_
        rintro e w6 ⟨rfl, val6, hW6, hT6, hu6⟩
        have kA6 := kA.out _ hW6.up
        replace hW6 := hide hW6
        replace hT6 := hide hT6
        replace hu6 := hide hu6
        go_wp2_with fail
        refine (put_wc hW6.out a 8 _ _ rfl rfl (by omega) (by decide) (by omega)).mono ?_
        rintro e w7 ⟨rfl, val7, hW7, hT7, hu7⟩
        have hTT := hide (hT6.out.and hT7)
        replace hW7 := hide hW7
        replace hu7 := hide (hu6.out.trans hu7)
        clear hT7
        go_wp2_with fail
        go_meet
        exact ⟨1, val7, by decide, hW7.out, hTT.out, hu7.out⟩
    case rest =>
      obtain ⟨f, val6, hf, hW6, hT6, hu6⟩ := hcut
      have hR6 := hide (hu6.typ _ _ _ hR5.out (by decide))
      have ho6 := hu6.own ho5.out (by decide)
      have kA6 := kA.out _ hW6.up
      have hs6 := hu6.size
      clear hu6 hR5 ho5 kA5 hW5 ht
      have hRlt := hR6.out.lt
      have hOne : ¬ O = w.heap.size := by
        intro e
        obtain ⟨cs, hcs, _⟩ := own_blk' ho6
        rw [e] at hcs
        have := hcs.typ_eq hR6.out
        revert this
        decide
      have hOne' : ¬ w.heap.size = O := fun e => hOne e.symm
      have hfz := ho6.frozenAt a
      have hcO := own_cell ho6 a ha1
      generalize hX : (List.replicate size (0 : Int)).getD a 0 = X at hcO
      replace hX := hide hX
      have ho7 := own_set (k := .i64) ho6 a 1
      rw [show (List.replicate size (0 : Int)).set a 1 = ofN' ((List.replicate size 0).set a 1) from by simp [ofN', List.map_set]] at ho7
      obtain ⟨cs, hcs, _⟩ := own_blk' ho6
      have hW7 := hW6.set (i := a) hcs hOge (by decide) (by decide) (by decide) (.int .i64 1)
      have hR7 := Blk.far hR6.out (p := ⟨O, a, none⟩) hOne' (.int .i64 1)
      replace hW6 := hide hW6
      replace hT6 := hide hT6
      replace ho7 := hide ho7
      replace hW7 := hide hW7
      replace hR7 := hide hR7
      clear ho6 hcs
      rcases hl.out with hl1 | hl2
      · have hlI1 : ¬ (l.length : Int) = 2 := by omega
        have hlq : ((l.length : Int) == 2) = false := beq_false_of_ne hlI1
        replace hl1 := hide hl1
        go_wp2_with fail
        have hlk := len_one size a ha1
        refine (canonical_wn hW7.out _ w.heap.size size size ((List.replicate size 0).set a 1) (by simp) (by omega) hlk.1.le hW7.out.sz ho7.out).mono ?_
        rintro e w8 ⟨V, A1, c1, A2, c2, n1, rfl, hV, hX8, hW8, hu8⟩
        obtain ⟨x2, hx2⟩ : ∃ x2, x2 = decide (nz ((List.replicate size 0).set a 1) = 1) := ⟨_, rfl⟩
        rw [← hx2] at hV
        subst hV
        have hR8 := hu8.typ _ _ _ hR7.out (by decide)
        have hW9 := hW8.code hR8 (Nat.le_refl _) (.slice A1 n1 c1) (.slice A2 n1 c2) (.bool x2)
        have hX9 := hX8.typed (UpdT.code hR8 hW7.out.lie.bw (.slice A1 n1 c1) (.slice A2 n1 c2) (.bool x2)) (by decide)
        have hrr := load_code hR8 rfl (.slice A1 n1 c1) (.slice A2 n1 c2) (.bool x2)
        have q0 := hR8.cell 0
        have q1 := hR8.cell 1
        have q2 := hR8.cell 2
        have y0 := hR8.frozen 0
        have y1 := hR8.frozen 1
        have y2 := hR8.frozen 2
        replace hR8 := hide hR8
        replace hW8 := hide hW8
        replace hX8 := hide hX8
        replace hW9 := hide hW9
        replace hX9 := hide hX9
        replace hx2 := hide hx2
        replace hrr := hide hrr
        replace hlk := hide hlk
        clear hu8
        go_wp2_with fail
        refine bodyPost_ret (v := .agg #[.slice A1 n1 c1, .slice A2 n1 c2, .bool x2]) ?_ ?_ ?_
        · exact ret_cellP rfl rfl hrr.out
        · rfl
        refine ⟨(List.replicate size 0).set a 1, _, _, _, rfl, hlk.out.1, fun s hs => ?_, hX9.out, hW9.out, ?_, by omega⟩
        · obtain ⟨z, rfl⟩ : ∃ z, l = [z] := List.length_eq_one_iff.1 hl1.out
          have : s = z := by simpa using hs
          have hz : a = z := by rw [hA.out]; rfl
          rw [this, ← hz]
          simp [ha1]
        · refine (hT3'.out.and hT6.out).mono fun V hV => .inl ⟨a, f, ?_⟩
          have h1 := hV.1.1
          have h2 := hV.1.2
          rw [hl1.out] at h2
          exact ⟨h1, h2, hV.2.1, hV.2.2, hf, ⟨ha1, ha2⟩, rfl, rfl⟩
      · have hlI1 : (l.length : Int) = 2 := by omega
        have hlq : ((l.length : Int) == 2) = true := by simp [hlI1]
        have h1l : (1 : Int) < (l.length : Int) := by omega
        obtain ⟨hab, hb1, hb2⟩ := h2.out hl2
        have kB7 := kB.out hl2 _ hW7.out.up
        have kBB := kB.out hl2
        obtain ⟨b, hB⟩ : ∃ b, b = l.getD 1 0 := ⟨_, rfl⟩
        rw [← hB] at hab hb1 hb2 kB7 kBB
        have hbI : (b : Int) < (size : Int) := by omega
        replace hB := hide hB
        replace kBB := hide kBB
        replace hl2 := hide hl2
        replace hlI1 := hide hlI1
        clear kB h2
        go_wp2_with fail
        refine (put_wc hW7.out b 8 _ _ rfl rfl (by omega) (by decide) (by omega)).mono ?_
        rintro e w8 ⟨rfl, val8, hW8, hT8, hu8⟩
        have kB8 := kBB.out _ hW8.up
        have hR8 := hu8.typ _ _ _ hR7.out (by decide)
        have ho8 := hu8.own ho7.out (by decide)
        have hfz8 := ho8.frozenAt b
        have hcO8 := own_cell ho8 b hb1
        generalize hX8 : (ofN' ((List.replicate size 0).set a 1)).getD b 0 = X8 at hcO8
        replace hX8 := hide hX8
        have ho9 := own_set (k := .i64) ho8 b 1
        rw [show (ofN' ((List.replicate size 0).set a 1)).set b 1 = ofN' (((List.replicate size 0).set a 1).set b 1) from by simp [ofN', List.map_set]] at ho9
        obtain ⟨cs, hcs, _⟩ := own_blk' ho8
        have hW9' := hW8.set (i := b) hcs hOge (by decide) (by decide) (by decide) (.int .i64 1)
        have hR9 := Blk.far hR8 (p := ⟨O, b, none⟩) hOne' (.int .i64 1)
        replace hW8 := hide hW8
        replace hT8 := hide hT8
        replace ho9 := hide ho9
        replace hW9' := hide hW9'
        replace hR9 := hide hR9
        clear ho8 hcs hu8 hR8 hX8 kB7 hW7 hR7 ho7
        go_wp2_with fail
        have hlk := len_two size a b hab hb1
        refine (canonical_wn hW9'.out _ w.heap.size size size (((List.replicate size 0).set a 1).set b 1) (by simp) (by omega) hlk.1.le hW9'.out.sz ho9.out).mono ?_
        rintro e w10 ⟨V, A1, c1, A2, c2, n1, rfl, hV, hX8, hW8, hu8⟩
        obtain ⟨x2, hx2⟩ : ∃ x2, x2 = decide (nz (((List.replicate size 0).set a 1).set b 1) = 1) := ⟨_, rfl⟩
        rw [← hx2] at hV
        subst hV
        have hR8 := hu8.typ _ _ _ hR9.out (by decide)
        have hW9 := hW8.code hR8 (Nat.le_refl _) (.slice A1 n1 c1) (.slice A2 n1 c2) (.bool x2)
        have hX9 := hX8.typed (UpdT.code hR8 hW9'.out.lie.bw (.slice A1 n1 c1) (.slice A2 n1 c2) (.bool x2)) (by decide)
        have hrr := load_code hR8 rfl (.slice A1 n1 c1) (.slice A2 n1 c2) (.bool x2)
        have q0 := hR8.cell 0
        have q1 := hR8.cell 1
        have q2 := hR8.cell 2
        have y0 := hR8.frozen 0
        have y1 := hR8.frozen 1
        have y2 := hR8.frozen 2
        replace hR8 := hide hR8
        replace hW8 := hide hW8
        replace hX8 := hide hX8
        replace hW9 := hide hW9
        replace hX9 := hide hX9
        replace hx2 := hide hx2
        replace hrr := hide hrr
        replace hlk := hide hlk
        clear hu8
        go_wp2_with fail
        refine bodyPost_ret (v := .agg #[.slice A1 n1 c1, .slice A2 n1 c2, .bool x2]) ?_ ?_ ?_
        · exact ret_cellP rfl rfl hrr.out
        · rfl
        refine ⟨((List.replicate size 0).set a 1).set b 1, _, _, _, rfl, hlk.out.1, fun s hs => ?_, hX9.out, hW9.out, ?_, by omega⟩
        · obtain ⟨z, y, rfl⟩ : ∃ z y, l = [z, y] := two_of l hl2.out
          have hz : a = z := by rw [hA.out]; rfl
          have hy : b = y := by rw [hB.out]; rfl
          have : s = z ∨ s = y := by simpa using hs
          rw [← hz, ← hy] at this
          rcases this with e | e
          · rw [e, List.getD_eq_getElem?_getD, List.getElem?_set_ne (by omega)]
            simp [ha1]
          · rw [e]
            simp [hb1]
        · refine ((hT3'.out.and hT6.out).and hT8.out).mono fun V hV => .inr (.inl ⟨a, b, f, ?_⟩)
          have h1 := hV.1.1.1
          have h2 := hV.1.1.2
          rw [hl2.out] at h2
          exact ⟨h1, h2, hV.1.2.1, hV.1.2.2, hV.2, hf, ⟨hab, hb1, hb2⟩, by omega, rfl⟩
end Go.Proofs.YtpiapfahcoopbaaDoor
namespace Go.Proofs.YtpiapfahcoopbaaDoor
set_option linter.unusedSimpArgs false
set_option linter.unusedVariables false
set_option linter.unnecessarySimpa false
open Go.RowKit Plain

theorem info_boolw : (Tryd.prog.info? 4).map (fun i => (i.zero, i.size, i.bytes)) = some (some (Value.bool false), 1, 1) := by kernel_rfl
theorem madeBools (n : Nat) : (madeCells (Value.bool false).cells (n * 1)).toList = ofB (List.replicate n false) := by
  unfold ofB
  apply List.ext_getElem (by simp [madeCells])
  intro i h1 h2
  simp [madeCells, Value.cells, Nat.mod_one]
/-- 'make' of n truths, all false. -/
theorem wpList_makeB (w : World) {ops : Array Oper} {rest : List Oper} {o : Oper} {a : Act} {Q : Exit → Act → World → Prop}
    (hg : o.guard = none) (l c : Operand) (hop : o.op = Op.makeSlice 40 l c)
    (base : Nat) (L C : Int) (n : Nat) (hl : a.eval l = .int .i64 L) (hc : a.eval c = .int .i64 C) (hL : L = (n : Int)) (hC : C = (n : Int)) (b2 : n ≤ 4096) (b4 : base ≤ w.heap.size)
    (hK : ∀ w', w'.ownsRow base 4 1 (.slice (some ⟨w.heap.size, 0, none⟩) n n) n (ofB (List.replicate n false)) → w.grownBy w' none → w.heap.size < w'.heap.size → wpList Tryd.prog ops Q rest (a.put o.dst (.slice (some ⟨w.heap.size, 0, none⟩) n n)) w') :
    wpList Tryd.prog ops Q (o :: rest) a w := by
  obtain ⟨i, hi, hz, hs, hb⟩ := info_parts info_boolw
  refine wpList_make_full w hg l c 40 hop base 4 i _ 1 Tryd.underlying40 hi hz hs .i64 .i64 L C n hl hc hL hC (by rw [hb]; omega) (by simp only [maxLen]; omega) b4 ?_
  intro w' ho hg
  rw [madeBools] at ho
  exact hK w' ho hg (ho.lt _ rfl).2
theorem own_setB {w : World} {base : Nat} {e : TypeId} {g n cap : Nat} {u : List Bool} (h : w.ownsRow base e 1 (.slice (some ⟨g, 0, none⟩) n cap) n (ofB u)) (j : Nat) (x : Bool) :
    (w.setCell ⟨g, j, none⟩ (.bool x)).ownsRow base e 1 (.slice (some ⟨g, 0, none⟩) n cap) n (ofB (u.set j x)) := by
  unfold ofB at h ⊢
  rw [List.map_set]
  exact (h.stored j _).1
theorem ownB_len {w : World} {base : Nat} {e : TypeId} {v : Value} {n : Nat} {u : List Bool} (h : w.ownsRow base e 1 v n (ofB u)) : u.length = n := by simpa [ofB] using h.1
theorem pcells_get (ps : List (Nat × Nat)) (i : Nat) (hi : i < ps.length) (k : Nat) (hk : k < 3) : (pcells ps)[i * 3 + k]? = (pcell (ps.getD i (0, 0)))[k]? := by
  induction ps generalizing i with
  | nil => simp at hi
  | cons p ps ih =>
    have e : pcells (p :: ps) = pcell p ++ pcells ps := rfl
    cases i with
    | zero =>
      rw [e, Nat.zero_mul, Nat.zero_add, List.getElem?_append_left (by simp [pcell]; omega)]
      rfl
    | succ i =>
      rw [e, List.getElem?_append_right (by simp [pcell]; omega)]
      have := ih i (by simpa using hi)
      rw [show (i + 1) * 3 + k - (pcell p).length = i * 3 + k by simp [pcell]; omega, this]
      rfl
theorem own_pieces {w : World} {base : Nat} {e : TypeId} {A : Option Addr} {n cap : Nat} {ps : List (Nat × Nat)} (h : w.ownsRow base e 3 (.slice A n cap) n (pcells ps)) (hn : 0 < n) :
    ∃ g, A = some ⟨g, 0, none⟩ ∧ base ≤ g ∧ g < w.heap.size ∧ ∀ i, i < n → w.cell? ⟨g, i * 3, none⟩ = some (.int .i64 (((ps.getD i (0, 0)).1 : Nat) : Int)) ∧ w.cell? ⟨g, i * 3 + 1, none⟩ = some (.int .i64 (((ps.getD i (0, 0)).2 : Nat) : Int)) ∧ w.cell? ⟨g, i * 3 + 2, none⟩ = some (.int .i64 ((pBits (ps.getD i (0, 0)).1 : Nat) : Int)) := by
  have hl := h.1
  rw [pcells_len] at hl
  rcases h.2 with ⟨hv, h0⟩ | ⟨g, cp, cur, hv, hb, hh, hc, hm, hs, hx⟩
  · omega
  · injection hv with h1 _ h2
    subst h1 h2
    have hB : Blk w g e cur := hh
    refine ⟨g, rfl, hb, hB.lt, fun i hi => ?_⟩
    have key : ∀ k, k < 3 → w.cell? ⟨g, i * 3 + k, none⟩ = (pcell (ps.getD i (0, 0)))[k]? := fun k hk => by
      rw [hB.cell, ← pcells_get ps i (by omega) k hk, ← hx, List.getElem?_take, if_pos (by omega), Array.getElem?_toList]
    exact ⟨key 0 (by decide), key 1 (by decide), key 2 (by decide)⟩
theorem lengths_wn {B c g base len val : Nat} {w0 w : World} (h : WC B c g base w0 len val w) (most bu cu n : Nat) (mI : Int) (hmI : mI = (most : Int)) (u : List Bool) (A : Option Addr) (hn0 : u.length = n) (hU : w.ownsRow bu 4 1 (.slice A n cu) n (ofB u)) (h1 : 1 ≤ n) (hn : n ≤ 4096) (hm1 : 1 ≤ most) (hm : most ≤ 15) (hfit : n ≤ 2 ^ most) :
    Calls Tryd.prog 46 #[.pointer (some ⟨c, 0, none⟩), .slice A n cu, .int .i64 mI] w (LensPost B c g base len val most u w0 w) := by
  subst hn0
  exact lengths_wc h most bu cu mI hmI u A hU h1 hn hm1 hm hfit
def OrdPost (B c g base len val : Nat) (w0 w : World) (e : Ending) (w' : World) : Prop := ∃ (go co : Nat), e = .returned (.slice (some ⟨go, 0, none⟩) 19 co) ∧ w'.ownsRow w.heap.size 3 1 (.slice (some ⟨go, 0, none⟩) 19 co) 19 ((ofN' ord).map (Value.int .i64)) ∧ WC B c g base w0 len val w' ∧ UpdT B ([42, 5, 91] : List TypeId) w w'
theorem order_wc {B c g base len val : Nat} {w0 w : World} (h : WC B c g base w0 len val w) : Calls Tryd.prog 61 #[] w (OrdPost B c g base len val w0 w) := by
  refine (order_any B w).mono ?_
  rintro e w' ⟨v, rfl, h1, h2⟩
  obtain ⟨A, co, rfl⟩ := own_shape h1
  obtain ⟨go, rfl, _⟩ := own_some h1 (by decide)
  exact ⟨go, co, rfl, h1, h.made h2, h2.more (by simp)⟩
end Go.Proofs.YtpiapfahcoopbaaDoor

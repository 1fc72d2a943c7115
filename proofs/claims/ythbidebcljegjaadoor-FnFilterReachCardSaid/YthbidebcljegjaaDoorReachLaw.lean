/- The filters change nothing but the values next to the edge: the law. -/
import Derived.Test.YthbidebcljegjaaDoorReachImpl
import Derived.Test.YthbidebcljegjaaDoorBoolAll
import Derived.Test.YthbidebcljegjaaDoorMake
import Derived.Deep.RegionHeld3
import Derived.Deep.DeepCutAuto
import Derived.Deep.CutBlock
import Derived.BigGuardPart
namespace Go.Proofs.YthbidebcljegjaaDoor
set_option linter.unusedSimpArgs false
set_option linter.unusedVariables false
open Go.RowKit

/-- The place j behind the edge, of line m. -/
def plc (c s st : Int) (m : Nat) (j : Int) : Nat := (c + m * st + j * s).toNat
def Reach1 (c s st : Int) (k : Nat) : Prop := ∃ m : Nat, m < 16 ∧ ∃ j : Int, (j = -1 ∨ j = 0) ∧ k = plc c s st m j
def Reach3 (c s st : Int) (four : Bool) (k : Nat) : Prop := ∃ m : Nat, m < 16 ∧ ∃ j : Int, ((if four then -2 else -3) ≤ j ∧ j ≤ (if four then 1 else 2)) ∧ k = plc c s st m j
theorem fline_far (lev s : Int) (P : List Int) (c : Int) (k : Nat) (h1 : k ≠ (c - s).toNat) (h2 : k ≠ c.toNat) : (fline lev s P c).getD k 0 = P.getD k 0 := by
  unfold fline
  split
  · simp only [List.getD_eq_getElem?_getD, List.getElem?_set, Ne.symm h1, Ne.symm h2, if_false]
  · rfl
theorem flines_far (lev s st c : Int) (k : Nat) : ∀ (n : Nat) (P : List Int), (∀ m : Nat, m < n → k ≠ (c + m * st - s).toNat ∧ k ≠ (c + m * st).toNat) → (flines lev s st n P c).getD k 0 = P.getD k 0
  | 0, P, _ => rfl
  | n + 1, P, h => by
    rw [flines_succ, fline_far _ _ _ _ _ (h n (by omega)).1 (h n (by omega)).2]
    exact flines_far lev s st c k n P (fun m hm => h m (by omega))
theorem flines_tch (lev s st c : Int) (P : List Int) (hB : Bytes P) : Tch (Reach1 c s st) P (flines lev s st 16 P c) :=
  ⟨flines_len _ _ _ _ _ _, flines_bytes _ _ _ _ _ _ hB, fun k hk => flines_far lev s st c k 16 P (fun m hm => ⟨fun e => hk ⟨m, hm, -1, .inl rfl, by rw [e]; unfold plc; congr 1; omega⟩, fun e => hk ⟨m, hm, 0, .inr rfl, by rw [e]; unfold plc; congr 1; omega⟩⟩)⟩
/-- What was marked up to place j of line m. -/
def Done (m : Nat) (j : Int) (m' : Nat) (j' : Int) : Prop := m' < m ∨ (m' = m ∧ j' < j)
def Marks (T : Int → Prop) (c s st : Int) (l : List Bool) (m : Nat) (j : Int) : Prop := ∀ m' j', Done m j m' j' → -3 ≤ j' → j' < 3 → T j' → l.getD (plc c s st m' j') false = true
theorem Marks.start (T : Int → Prop) (c s st : Int) (l : List Bool) : Marks T c s st l 0 (-3) := fun m' j' h h1 _ _ => by
  rcases h with h | h
  · omega
  · omega
theorem Marks.line {T : Int → Prop} {c s st : Int} {l : List Bool} {m : Nat} (h : Marks T c s st l m 3) : Marks T c s st l (m + 1) (-3) := fun m' j' hd h1 h2 ht => by
  refine h m' j' ?_ h1 h2 ht
  rcases hd with hd | hd
  · by_cases e : m' = m
    · exact .inr ⟨e, h2⟩
    · exact .inl (by omega)
  · omega
theorem Marks.put {T : Int → Prop} {c s st : Int} {l : List Bool} {m : Nat} {j : Int} {v : Bool} (h : Marks T c s st l m j) (hl : plc c s st m j < l.length) (h1 : l.getD (plc c s st m j) false = true → v = true) (h2 : T j → v = true) : Marks T c s st (l.set (plc c s st m j) v) m (j + 1) := by
  intro m' j' hd a b ht
  have e : (l.set (plc c s st m j) v).getD (plc c s st m' j') false = if plc c s st m j = plc c s st m' j' then v else l.getD (plc c s st m' j') false := by
    simp only [List.getD_eq_getElem?_getD, List.getElem?_set]
    by_cases e : plc c s st m j = plc c s st m' j'
    · rw [if_pos e, if_pos e, if_pos hl]; rfl
    · rw [if_neg e, if_neg e]
  rw [e]
  by_cases hd' : Done m j m' j'
  · have hh := h m' j' hd' a b ht
    by_cases ee : plc c s st m j = plc c s st m' j'
    · rw [if_pos ee]; rw [← ee] at hh; exact h1 hh
    · rw [if_neg ee]; exact hh
  · have : m' = m ∧ j' = j := by
      unfold Done at hd hd'
      rcases hd with hd | hd
      · exact absurd (.inl hd) hd'
      · refine ⟨hd.1, ?_⟩
        by_cases e : j' < j
        · exact absurd (.inr ⟨hd.1, e⟩) hd'
        · omega
    obtain ⟨rfl, rfl⟩ := this
    rw [if_pos rfl]
    exact h2 ht
def T1 (j : Int) : Prop := j = -1 ∨ j = 0
def T3 (four : Bool) (j : Int) : Prop := (if four then -2 else -3) ≤ j ∧ j ≤ (if four then 1 else 2)
theorem marks1 {c s st : Int} {l : List Bool} (h : Marks T1 c s st l 16 (-3)) (k : Nat) (hk : Reach1 c s st k) : l.getD k false = true := by
  obtain ⟨m, hm, j, hj, rfl⟩ := hk
  exact h m j (.inl hm) (by omega) (by omega) hj
theorem marks3 {c s st : Int} {four : Bool} {l : List Bool} (h : Marks (T3 four) c s st l 16 (-3)) (k : Nat) (hk : Reach3 c s st four k) : l.getD k false = true := by
  obtain ⟨m, hm, j, hj, rfl⟩ := hk
  refine h m j (.inl hm) ?_ ?_ hj
  · have := hj.1; split at this <;> omega
  · have := hj.2; split at this <;> omega
theorem own_cellB {w : World} {base : Nat} {e : TypeId} {g n cap : Nat} {l : List Bool} (h : w.ownsRow base e 1 (.slice (some ⟨g, 0, none⟩) n cap) n (l.map Value.bool)) (j : Nat) (hj : j < n) : w.cell? ⟨g, j, none⟩ = some (.bool (l.getD j false)) := by
  rw [h.cellAt j (by omega)]
  have hl : l.length = n := by simpa using h.1
  simp [hl, hj]
theorem own_setB {w : World} {base : Nat} {e : TypeId} {g n cap : Nat} {l : List Bool} (h : w.ownsRow base e 1 (.slice (some ⟨g, 0, none⟩) n cap) n (l.map Value.bool)) (j : Nat) (x : Bool) :
    (w.setCell ⟨g, j, none⟩ (.bool x)).ownsRow base e 1 (.slice (some ⟨g, 0, none⟩) n cap) n ((l.set j x).map Value.bool) := by
  rw [List.map_set]; exact (h.stored j _).1
theorem made_bools (n : Nat) : (madeCells (Value.bool false).cells (n * 1)).toList = (List.replicate n false).map Value.bool := by
  apply List.ext_getElem
  · simp [madeCells]
  · intro i h1 h2
    simp [madeCells, Value.cells, Nat.mod_one]

set_option maxRecDepth 100000 in
set_option maxHeartbeats 8000000 in
theorem reach_main (A : Option Addr) (cap : Nat) (P : List Int) (lev il hl c s st : Int) (four : Bool) (w : World) (hL : Luts w) (hB : Bytes P) (hlev : 0 ≤ lev ∧ lev ≤ 255) (hil : 0 ≤ il ∧ il ≤ 255) (hhl : 0 ≤ hl ∧ hl ≤ 255) (hr : Rd .u8 w w.heap.size A P)
    (hE : edgeB P.length 16 4 c st s = true) (hA : apartB 16 4 st s = true) :
    Calls Tryd.prog 8 #[.slice A P.length cap, .agg #[.int .i64 lev, .int .i64 il, .int .i64 hl], .agg #[.int .i64 c, .int .i64 st, .int .i64 s], .bool four] w fun e w' => e = .returned (.bool true) ∧ Below w.heap.size w w' := by
  have hLt := hL.lt
  have hE' := hE
  simp only [edgeB, Bool.and_eq_true, decide_eq_true_eq] at hE'
  obtain ⟨⟨hlen, hw⟩, hlines⟩ := hE'
  simp [within] at hw
  have hbd : -16384 ≤ c ∧ c ≤ 16384 ∧ -16384 ≤ s ∧ s ≤ 16384 ∧ -16384 ≤ st ∧ st ≤ 16384 := by omega
  have hF8 : Fits8 P.length c s st 16 := fun m hm j h1 h2 => linesOk_at hlines m hm j h1 h2
  have hF : Fits P.length c s st 16 := by
    intro m hm
    have h1 := linesOk_at hlines m hm (-2) (by decide) (by decide)
    have h2 := linesOk_at hlines m hm (-1) (by decide) (by decide)
    have h3 := linesOk_at hlines m hm 0 (by decide) (by decide)
    have h4 := linesOk_at hlines m hm 1 (by decide) (by decide)
    omega
  have hpos : 0 < P.length := by have := hF8 0 (by decide) 0 (by decide) (by decide); omega
  have hs : s ≠ 0 := by
    have := (apart_at hA 0 1 (by decide) (by decide) (by decide)).1
    intro e
    subst e
    simp at this
  obtain ⟨wa, hwa⟩ : ∃ wa, wa = (w.alloc (.cells #[.int .i64 lev, .int .i64 il, .int .i64 hl] 28)).alloc (.cells #[.int .i64 c, .int .i64 st, .int .i64 s] 28) := ⟨_, rfl⟩
  have hba : Below w.heap.size w wa := by rw [hwa]; exact ((Below.refl w.heap.size w).alloc (Nat.le_refl _) _).alloc (by simp) _
  have hsa : wa.heap.size = w.heap.size + 1 + 1 := by rw [hwa]; simp
  have r0 : Blk wa w.heap.size 28 #[.int .i64 lev, .int .i64 il, .int .i64 hl] := by rw [hwa]; exact (Blk.new w _ _).alloc _
  have r1 : Blk wa (w.heap.size + 1) 28 #[.int .i64 c, .int .i64 st, .int .i64 s] := by
    have h := Blk.new (w.alloc (.cells #[.int .i64 lev, .int .i64 il, .int .i64 hl] 28)) 28 #[.int .i64 c, .int .i64 st, .int .i64 s]
    rw [World.size_alloc] at h
    rw [hwa]
    exact h
  have cE : Calls Tryd.prog 20 #[.slice A P.length cap, .int .i64 16, .int .i64 4, .int .i64 c, .int .i64 st, .int .i64 s] wa fun e w' => e = .returned (.bool (edgeB P.length 16 4 c st s)) ∧ Below wa.heap.size wa w' :=
    isEdge_any A cap P.length 16 4 c st s wa (by omega) (by decide) (by decide)
  have cA : ∀ W, Calls Tryd.prog 21 #[.int .i64 16, .int .i64 4, .int .i64 st, .int .i64 s] W fun e w' => e = .returned (.bool (apartB 16 4 st s)) ∧ W = w' :=
    fun W => isApart_any 16 4 st s W (by decide) (by decide) (by omega) (by omega) (by omega) (by omega)
  rw [hE] at cE
  rw [hA] at cA
  have cR : ∀ W : World, Blk W w.heap.size 28 #[.int .i64 lev, .int .i64 il, .int .i64 hl] → Calls Tryd.prog 17 #[.slice (some ⟨w.heap.size, 0, none⟩) 3 3, .int .i64 0, .int .i64 255] W fun e w' => e = .returned (.bool (within 0 255 [lev, il, hl])) ∧ W = w' := fun W h => inRange_any (some ⟨w.heap.size, 0, none⟩) 3 (w.heap.size + 1) [lev, il, hl] 0 255 W (by simp) (Rd.ofCells (by omega) (fun j hj => by rw [Nat.zero_add, h.cell j]; exact three_cells lev il hl j hj))
  have hwi : within 0 255 [lev, il, hl] = true := by simp [within]; omega
  rw [hwi] at cR
  have cI := fun W => implSimple_any A cap P lev c s st W hB hF hlev hbd hlen
  have cN := fun W => implNormal_any A cap P lev il hl c s st four (Reach3 c s st four) W hB hF8 hlev hil hhl hbd (by omega) (fun m hm j h1 h2 => ⟨m, hm, j, ⟨h1, h2⟩, rfl⟩)
  have hT := flines_tch lev s st c P hB
  generalize flines lev s st 16 P c = F at *
  replace cE := hide cE
  replace cA := hide cA
  replace cR := hide cR
  replace cI := hide cI
  replace cN := hide cN
  replace hL := hide hL
  replace hr := hide hr
  replace hT := hide hT
  replace hF8 := hide hF8
  replace hba := hide hba
  replace r0 := hide r0
  replace r1 := hide r1
  have g1 : ¬ (2147483647 : Int) < (P.length : Int) := by omega
  clear hF hE hA hlines hs hw hwi
  go_enter Tryd.func8, Tryd.ntmps8
  go_wp2_with fail
  rw [← hwa]
  clear hwa
  (with_reducible refine (cE.out).mono ?_)
  rintro e w1 ⟨rfl, hb1⟩
  have r0' := r0.out.below hb1 (by omega)
  have r1' := r1.out.below hb1 (by omega)
  have c0 : w1.cell? ⟨w.heap.size, 0, none⟩ = some (.int .i64 lev) := r0'.cell 0
  have c1 : w1.cell? ⟨w.heap.size, 1, none⟩ = some (.int .i64 il) := r0'.cell 1
  have c2 : w1.cell? ⟨w.heap.size, 2, none⟩ = some (.int .i64 hl) := r0'.cell 2
  have d0 : w1.cell? ⟨w.heap.size + 1, 0, none⟩ = some (.int .i64 c) := r1'.cell 0
  have d1 : w1.cell? ⟨w.heap.size + 1, 1, none⟩ = some (.int .i64 st) := r1'.cell 1
  have d2 : w1.cell? ⟨w.heap.size + 1, 2, none⟩ = some (.int .i64 s) := r1'.cell 2
  have hb2 := hide (hba.out.trans (hb1.mono hba.out.size))
  have cR1 := hide (cR.out w1 r0')
  have hs1 : wa.heap.size ≤ w1.heap.size := hb1.size
  replace r0' := hide r0'
  replace r1' := hide r1'
  clear hb1 hba r0 r1 cE cR
  go_wp2_with (first | (go_at_call 21; (with_reducible refine (cA.out _).mono ?_); rintro e w' ⟨rfl, rfl⟩) | (go_at_call 17; (with_reducible refine (cR1.out).mono ?_); rintro e w' ⟨rfl, rfl⟩) | fail)
  (with_reducible refine (cI.out _ ((hr.out.below hb2.out).more hb2.out.size)).mono ?_)
  rintro e w2 ⟨ga, ca, rfl, hoa, hb3⟩
  have hb4 := hide (hb2.out.trans (hb3.mono hb2.out.size))
  have r2 := r0'.out.below hb3 (by omega)
  have r3 := r1'.out.below hb3 (by omega)
  have c0 : w2.cell? ⟨w.heap.size, 0, none⟩ = some (.int .i64 lev) := r2.cell 0
  have c1 : w2.cell? ⟨w.heap.size, 1, none⟩ = some (.int .i64 il) := r2.cell 1
  have c2 : w2.cell? ⟨w.heap.size, 2, none⟩ = some (.int .i64 hl) := r2.cell 2
  have d0 : w2.cell? ⟨w.heap.size + 1, 0, none⟩ = some (.int .i64 c) := r3.cell 0
  have d1 : w2.cell? ⟨w.heap.size + 1, 1, none⟩ = some (.int .i64 st) := r3.cell 1
  have d2 : w2.cell? ⟨w.heap.size + 1, 2, none⟩ = some (.int .i64 s) := r3.cell 2
  replace hoa := hide hoa
  have hs2 : w1.heap.size ≤ w2.heap.size := hb3.size
  replace r2 := hide r2
  replace r3 := hide r3
  clear hb3 hb2 r0' r1' cR1 cA cI
  go_wp2_with fail
  (with_reducible refine (cN.out _ ((hr.out.below hb4.out).more hb4.out.size)).mono ?_)
  rintro e w3 ⟨gb, cb, Q, rfl, hTq, hob, hb5⟩
  have hoa' := hide ((Upd.ofBelow (S := []) hb5).own hoa.out (by simp))
  have hb6 := hide (hb4.out.trans (hb5.mono hb4.out.size))
  have r4 := hide (r2.out.below hb5 (by omega))
  have r5 := hide (r3.out.below hb5 (by omega))
  have hs3 : w2.heap.size ≤ w3.heap.size := hb5.size
  replace hob := hide hob
  replace hTq := hide hTq
  clear hb5 hb4 r2 r3 hoa cN c0 c1 c2 d0 d1 d2
  go_wp2_with fail
  go_cut [11, 12] (fun s11 s12 wx => ∃ gx gy : Nat, s11 = .slice (some ⟨gx, 0, none⟩) P.length P.length ∧ s12 = .slice (some ⟨gy, 0, none⟩) P.length P.length ∧ gx ≠ gy ∧ w3.heap.size ≤ gx ∧ w3.heap.size ≤ gy ∧
    wx.ownsRow w3.heap.size 4 1 (.slice (some ⟨gx, 0, none⟩) P.length P.length) P.length ((List.replicate P.length false).map Value.bool) ∧
    wx.ownsRow w3.heap.size 4 1 (.slice (some ⟨gy, 0, none⟩) P.length P.length) P.length ((List.replicate P.length false).map Value.bool) ∧ Below w3.heap.size w3 wx)
  case first =>
    obtain ⟨i0, hi, hz, hz1, hz2⟩ := info_parts info_bool
    obtain ⟨wm, hrun1, ho1, hgr1⟩ := run_make_full (P := Tryd.prog) (w := w3.drew) w3.heap.size 56 4 i0 (.bool false) 1 Tryd.underlying56 hi hz hz1 .i64 .i64 P.length (by rw [hz2]; omega) (by simp only [maxLen]; omega) (Nat.le_refl _)
    have hlt1 : w3.heap.size < wm.heap.size := by
      obtain ⟨g', _, e1, _, h2⟩ := ho1.form hpos
      injection e1 with e1
      injection e1 with e1
      injection e1 with e1
      subst e1
      exact h2
    obtain ⟨wn, hrun2, ho2, hgr2⟩ := run_make_full (P := Tryd.prog) (w := wm) w3.heap.size 56 4 i0 (.bool false) 1 Tryd.underlying56 hi hz hz1 .i64 .i64 P.length (by rw [hz2]; omega) (by simp only [maxLen]; omega) (by omega)
    rw [made_bools] at ho1 ho2
    have ho1' := hide (ho1.kept hgr2 (.inr (by simp [Value.ownBlock])))
    have hbn : Hid (Below w3.heap.size w3 wn) := hide ((((Below.refl w3.heap.size w3).drew).grown hgr1 (Nat.le_refl _) (fun k hk => by cases hk)).grown hgr2 (by omega) (fun k hk => by cases hk))
    have hw3 : (w3.drew).heap.size = w3.heap.size := rfl
    rw [hw3] at hrun1
    replace ho2 := hide ho2
    clear ho1 hgr1 hgr2 hi hz hz1 hz2 hw3
    go_region
    all_goals (go_wp2; go_meet; first | exact ⟨w3.heap.size, wm.heap.size, rfl, rfl, by omega, Nat.le_refl _, by omega, ho1'.out, ho2.out, hbn.out⟩ | exact ⟨wm.heap.size, w3.heap.size, rfl, rfl, by omega, by omega, Nat.le_refl _, ho2.out, ho1'.out, hbn.out⟩)
  case rest =>
    obtain ⟨gx, gy, rfl, rfl, hxy, hgx, hgy, ho1, ho2, hbc⟩ := hcut
    obtain ⟨⟨bc1, bc2⟩, ⟨bs1, bs2⟩, bt1, bt2⟩ : (-16384 ≤ c ∧ c ≤ 16384) ∧ (-16384 ≤ s ∧ s ≤ 16384) ∧ -16384 ≤ st ∧ st ≤ 16384 := by omega
    have hs9 : w.heap.size + 1 + 1 ≤ w3.heap.size := by omega
    replace ho1 := hide ho1
    replace ho2 := hide ho2
    replace hbc := hide hbc
    clear c0 c1 c2 d0 d1 d2
    go_wp2
    go_loopg [13] 16 (fun k u13 wr => ∃ m : Nat, k + m = 16 ∧ u13 = .int .i64 m ∧ (∃ l1 l3 : List Bool, l1.length = P.length ∧ l3.length = P.length ∧
      wr.ownsRow w3.heap.size 4 1 (.slice (some ⟨gx, 0, none⟩) P.length P.length) P.length (l1.map Value.bool) ∧ wr.ownsRow w3.heap.size 4 1 (.slice (some ⟨gy, 0, none⟩) P.length P.length) P.length (l3.map Value.bool) ∧
      Marks T1 c s st l1 m (-3) ∧ Marks (T3 four) c s st l3 m (-3)) ∧ Below w3.heap.size w3 wr)
    case atStart => exact ⟨0, rfl, rfl, ⟨_, _, by simp, by simp, ho1.out, ho2.out, Marks.start _ _ _ _ _, Marks.start _ _ _ _ _⟩, hbc.out⟩
    case round =>
      obtain ⟨m, hm, rfl, ⟨l1, l3, hl1, hl3, hx, hy, hM1, hM3⟩, hbel⟩ := hrel
      clear ho1 ho2 hbc
      cases gk with
      | zero =>
        have hm' : m = 16 := by omega
        subst hm'
        have hoa2 := hide ((Upd.ofBelow (S := []) hbel).own hoa'.out (by simp))
        have hob2 := hide ((Upd.ofBelow (S := []) hbel).own hob.out (by simp))
        have hb7 := hide (hb6.out.trans (hbel.mono hb6.out.size))
        have hm1 := hide (marks1 hM1)
        have hm3 := hide (marks3 hM3)
        obtain ⟨wz, hwz⟩ : ∃ wz : World, wz = wr := ⟨_, rfl⟩
        subst hwz
        replace hx := hide hx
        replace hy := hide hy
        clear hbel hM1 hM3 hm
        go_wp2
        go_loopg [16] P.length (fun k u16 wr => ∃ i : Nat, k + i = P.length ∧ u16 = .int .i64 i ∧ wr.ownsRow w1.heap.size 5 1 (.slice (some ⟨ga, 0, none⟩) P.length ca) P.length (F.map (Value.int .u8)) ∧ wr.ownsRow w2.heap.size 5 1 (.slice (some ⟨gb, 0, none⟩) P.length cb) P.length (Q.map (Value.int .u8)) ∧
          wr.ownsRow w3.heap.size 4 1 (.slice (some ⟨gx, 0, none⟩) P.length P.length) P.length (l1.map Value.bool) ∧ wr.ownsRow w3.heap.size 4 1 (.slice (some ⟨gy, 0, none⟩) P.length P.length) P.length (l3.map Value.bool) ∧ Below w.heap.size w wr)
        case atStart => exact ⟨0, by omega, rfl, hoa2.out, hob2.out, hx.out, hy.out, hb7.out⟩
        case round =>
          obtain ⟨i, hi, rfl, ha, hb, hx, hy, hbl⟩ := hrel
          clear hoa2 hob2 hb7 hoa' hob
          cases gk with
          | zero =>
            have hi' : i = P.length := by omega
            subst hi'
            have cB := hide (readBool_any wr (hL.out.below hbl hLt))
            replace hbl := hide hbl
            clear ha hb hx hy
            go_wp2_with fail
            (with_reducible refine (cB.out).mono ?_)
            rintro e w9 ⟨rfl, hb9⟩
            have hb10 := hide (hbl.out.trans (hb9.mono hbl.out.size))
            clear hb9
            go_wp2
            go_ret
            exact ⟨rfl, hb10.out⟩
          | succ k =>
            have hin : i < P.length := by omega
            have hii : (i : Int) < (P.length : Int) := by omega
            have hi0 : (0 : Int) ≤ (i : Int) := by omega
            obtain ⟨b, off, rfl, hbb, hcell⟩ := hr.out.at_ hin
            have k0 := (hbl.cell (p := ⟨b, off + i, none⟩) hbb).trans (hcell i hin)
            have k1 := own_cell ha i hin
            have k2 := own_cell hb i hin
            have k3 := own_cellB hx i hin
            have k4 := own_cellB hy i hin
            have s1 : F.getD i 0 ≠ P.getD i 0 → l1.getD i false = true := fun h => hm1.out i (Classical.byContradiction fun hn => h (hT.out.same i hn))
            have s3 : Q.getD i 0 ≠ P.getD i 0 → l3.getD i false = true := fun h => hm3.out i (Classical.byContradiction fun hn => h (hTq.out.same i hn))
            have hda := hide fun n => own_drewN ha n
            have hdb := hide fun n => own_drewN hb n
            have hdx := hide fun n => own_drewN hx n
            have hdy := hide fun n => own_drewN hy n
            have hdl : Hid (∀ n, Below w.heap.size w (wr.drewN n)) := hide fun n => ⟨hbl.os, hbl.tape, hbl.output, hbl.size, hbl.block⟩
            generalize F.getD i 0 = x at *
            generalize P.getD i 0 = y at *
            generalize Q.getD i 0 = z at *
            generalize l1.getD i false = o1 at *
            generalize l3.getD i false = o3 at *
            clear ha hb hx hy hbl hcell
            by_cases hxy : x = y
            · subst hxy
              clear s1
              by_cases hzy : z = x
              · subst hzy
                clear s3
                go_wp2
                go_quiet (fail)
                go_wp2
                go_roundg k
                case measure => omega
                case rel => exact ⟨i + 1, by omega, by go_num, hda.out _, hdb.out _, hdx.out _, hdy.out _, hdl.out _⟩
              · have h3 := s3 hzy
                subst h3
                have n3 : (z != x) = true := by simp [hzy]
                have n3' : (z == x) = false := by simp [hzy]
                clear s3
                replace hzy := hide hzy
                go_wp2
                go_quiet (fail)
                go_wp2
                go_roundg k
                case measure => omega
                case rel => exact ⟨i + 1, by omega, by go_num, hda.out _, hdb.out _, hdx.out _, hdy.out _, hdl.out _⟩
            · have h1 := s1 hxy
              subst h1
              have n1 : (x != y) = true := by simp [hxy]
              have n1' : (x == y) = false := by simp [hxy]
              clear s1
              replace hxy := hide hxy
              by_cases hzy : z = y
              · subst hzy
                clear s3
                go_wp2
                go_quiet (fail)
                go_wp2
                go_roundg k
                case measure => omega
                case rel => exact ⟨i + 1, by omega, by go_num, hda.out _, hdb.out _, hdx.out _, hdy.out _, hdl.out _⟩
              · have h3 := s3 hzy
                subst h3
                have n3 : (z != y) = true := by simp [hzy]
                have n3' : (z == y) = false := by simp [hzy]
                clear s3
                replace hzy := hide hzy
                go_wp2
                go_quiet (fail)
                go_wp2
                go_roundg k
                case measure => omega
                case rel => exact ⟨i + 1, by omega, by go_num, hda.out _, hdb.out _, hdx.out _, hdy.out _, hdl.out _⟩
      | succ k =>
        have hm16 : m < 16 := by omega
        have hmi : (m : Int) < 16 := by omega
        have hm0 : (0 : Int) ≤ (m : Int) := by omega
        obtain ⟨p1, p2⟩ := mul_bd (m : Int) st (by omega) (by omega) bt1 bt2
        obtain ⟨wo, hwo⟩ : ∃ wo : World, wo = wr := ⟨_, rfl⟩
        subst hwo
        replace hx := hide hx
        replace hy := hide hy
        replace hbel := hide hbel
        replace hM1 := hide hM1
        replace hM3 := hide hM3
        go_wp2
        go_loopg [14] 6 (fun k u14 wr => ∃ j : Int, (k : Int) + j = 3 ∧ -3 ≤ j ∧ u14 = .int .i64 j ∧ (∃ l1 l3 : List Bool, l1.length = P.length ∧ l3.length = P.length ∧
          wr.ownsRow w3.heap.size 4 1 (.slice (some ⟨gx, 0, none⟩) P.length P.length) P.length (l1.map Value.bool) ∧ wr.ownsRow w3.heap.size 4 1 (.slice (some ⟨gy, 0, none⟩) P.length P.length) P.length (l3.map Value.bool) ∧
          Marks T1 c s st l1 m j ∧ Marks (T3 four) c s st l3 m j) ∧ Below w3.heap.size w3 wr)
        case atStart => exact ⟨-3, by decide, by decide, rfl, ⟨l1, l3, hl1, hl3, hx.out, hy.out, hM1.out, hM3.out⟩, hbel.out⟩
        case round =>
          clear hx hy hbel hM1 hM3 hl1 hl3
          obtain ⟨j, hj, hj3, rfl, ⟨q1, q3, hl1, hl3, hx, hy, hM1, hM3⟩, hbel⟩ := hrel
          cases gk with
          | zero =>
            have hj' : j = 3 := by omega
            subst hj'
            replace hx := hide hx
            replace hy := hide hy
            replace hbel := hide hbel
            replace hM1 := hide hM1
            replace hM3 := hide hM3
            go_wp2
            go_roundg k
            case measure => omega
            case rel => exact ⟨m + 1, by omega, by go_num, ⟨q1, q3, hl1, hl3, hx.out, hy.out, hM1.out.line, hM3.out.line⟩, hbel.out⟩
          | succ k2 =>
            have hjlt : j < 3 := by omega
            obtain ⟨e1, e2⟩ := mul_bd j s (by omega) (by omega) bs1 bs2
            obtain ⟨f1, f2⟩ : 0 ≤ c + (m : Int) * st + j * s ∧ c + (m : Int) * st + j * s < (P.length : Int) := hF8.out m hm16 j (by omega) (by omega)
            have hlt : plc c s st m j < P.length := by unfold plc; omega
            have hr5 := r5.out.below hbel (by omega)
            have d0 : wr.cell? ⟨w.heap.size + 1, 0, none⟩ = some (.int .i64 c) := hr5.cell 0
            have d1 : wr.cell? ⟨w.heap.size + 1, 1, none⟩ = some (.int .i64 st) := hr5.cell 1
            have d2 : wr.cell? ⟨w.heap.size + 1, 2, none⟩ = some (.int .i64 s) := hr5.cell 2
            have x0 : wr.cell? ⟨gx, (c + (m : Int) * st + j * s).toNat, none⟩ = some (.bool (q1.getD (plc c s st m j) false)) := own_cellB hx _ hlt
            have y0 : wr.cell? ⟨gy, (c + (m : Int) * st + j * s).toNat, none⟩ = some (.bool (q3.getD (plc c s st m j) false)) := own_cellB hy _ hlt
            have xf : wr.frozen? ⟨gx, (c + (m : Int) * st + j * s).toNat, none⟩ = false := hx.frozenAt _
            have yf : wr.frozen? ⟨gy, (c + (m : Int) * st + j * s).toNat, none⟩ = false := hy.frozenAt _
            obtain ⟨v1, hv1⟩ : ∃ v1 : Bool, v1 = (q1.getD (plc c s st m j) false || decide (j = -1) || decide (j = 0)) := ⟨_, rfl⟩
            obtain ⟨v3, hv3⟩ : ∃ v3 : Bool, v3 = (q3.getD (plc c s st m j) false || !four || (decide (-3 < j) && decide (j < 2))) := ⟨_, rfl⟩
            generalize hb1 : q1.getD (plc c s st m j) false = b1 at *
            generalize hb3 : q3.getD (plc c s st m j) false = b3 at *
            replace hb1 := hide hb1
            replace hb3 := hide hb3
            replace hv1 := hide hv1
            replace hv3 := hide hv3
            replace hx := hide hx
            replace hy := hide hy
            replace hbel := hide hbel
            replace hM1 := hide hM1
            replace hM3 := hide hM3
            replace hlt := hide hlt
            clear hr5
            go_upto_region 17 with fail
            go_cut [119] (fun s119 wx => wx = wr.setCell ⟨gx, (c + (m : Int) * st + j * s).toNat, none⟩ (.bool v1))
            case first =>
              cases b1
              · by_cases j1 : j = -1
                · have hvt : v1 = true := by rw [hv1.out, j1]; rfl
                  have n1 : (j == -1) = true := by simp [j1]
                  replace j1 := hide j1
                  replace hvt := hide hvt
                  go_wp2
                  go_meet
                  rw [hvt.out]
                · by_cases j0 : j = 0
                  · have hvt : v1 = true := by rw [hv1.out, j0]; rfl
                    have n1 : (j == -1) = false := by simp [j1]
                    have n0 : (j == 0) = true := by simp [j0]
                    replace j0 := hide j0
                    replace j1 := hide j1
                    replace hvt := hide hvt
                    go_wp2
                    go_meet
                    rw [hvt.out]
                  · have hvt : v1 = false := by rw [hv1.out]; simp [j1, j0]
                    have n1 : (j == -1) = false := by simp [j1]
                    have n0 : (j == 0) = false := by simp [j0]
                    replace hvt := hide hvt
                    go_wp2
                    go_meet
                    rw [hvt.out]
              · have hvt : v1 = true := by rw [hv1.out]; rfl
                replace hvt := hide hvt
                go_wp2
                go_meet
                rw [hvt.out]
            case rest =>
              subst hcut
              have hne : ¬ gx = gy := hxy
              have hne' : ¬ gy = gx := fun e => hxy e.symm
              have hx' := hide (own_setB hx.out (plc c s st m j) v1)
              have hy' := hide (((Upd.refl [gx] wr).setCell (p := ⟨gx, plc c s st m j, none⟩) (.inl (by simp)) (.bool v1)).own hy.out (fun g hg => by simp [Value.ownBlock] at hg; simp; omega))
              have hB' := hide (hbel.out.setCell (p := ⟨gx, plc c s st m j, none⟩) hgx (.bool v1))
              have hM1' := hide (hM1.out.put (v := v1) (by rw [hl1]; exact hlt.out) (fun h => by rw [hv1.out, ← hb1.out, h]; rfl) (fun h => by rw [hv1.out]; rcases h with h | h <;> simp [h]))
              clear hx hy hbel hM1 x0 xf
              have fin : ∀ wn : World, wn = (wr.setCell ⟨gx, plc c s st m j, none⟩ (.bool v1)).setCell ⟨gy, plc c s st m j, none⟩ (.bool v3) →
                  (∃ l1 l3 : List Bool, l1.length = P.length ∧ l3.length = P.length ∧
                    wn.ownsRow w3.heap.size 4 1 (.slice (some ⟨gx, 0, none⟩) P.length P.length) P.length (l1.map Value.bool) ∧ wn.ownsRow w3.heap.size 4 1 (.slice (some ⟨gy, 0, none⟩) P.length P.length) P.length (l3.map Value.bool) ∧
                    Marks T1 c s st l1 m (j + 1) ∧ Marks (T3 four) c s st l3 m (j + 1)) ∧ Below w3.heap.size w3 wn := by
                rintro wn rfl
                refine ⟨⟨_, _, by simpa using hl1, by simpa using hl3, ((Upd.refl [gy] _).setCell (p := ⟨gy, plc c s st m j, none⟩) (.inl (by simp)) (.bool v3)).own hx'.out (fun g hg => by simp [Value.ownBlock] at hg; simp; omega), own_setB hy'.out _ _, hM1'.out, ?_⟩, hB'.out.setCell (p := ⟨gy, plc c s st m j, none⟩) hgy _⟩
                refine hM3.out.put (v := v3) (by rw [hl3]; exact hlt.out) (fun h => by rw [hv3.out, ← hb3.out, h]; rfl) (fun h => ?_)
                rw [hv3.out]
                unfold T3 at h
                cases four
                · simp
                · simp at h
                  simp
                  right
                  omega
              replace fin := hide fin
              clear hx' hy' hB' hM1' hM3
              have hj1 : j + 1 ≤ 3 := by omega
              cases b3
              · cases four
                · have hvt : v3 = true := by rw [hv3.out]; simp
                  replace hvt := hide hvt
                  go_wp2
                  go_roundg k2
                  case measure => omega
                  case rel => exact ⟨j + 1, by omega, by omega, rfl, (fin.out _ (by rw [hvt.out]; rfl)).1, (fin.out _ (by rw [hvt.out]; rfl)).2⟩
                · by_cases ja : -3 < j
                  · by_cases jb : j < 2
                    · have hvt : v3 = true := by rw [hv3.out]; simp [ja, jb]
                      replace hvt := hide hvt
                      go_wp2
                      go_roundg k2
                      case measure => omega
                      case rel => exact ⟨j + 1, by omega, by omega, rfl, (fin.out _ (by rw [hvt.out]; rfl)).1, (fin.out _ (by rw [hvt.out]; rfl)).2⟩
                    · have hvt : v3 = false := by rw [hv3.out]; simp [jb]
                      replace hvt := hide hvt
                      go_wp2
                      go_roundg k2
                      case measure => omega
                      case rel => exact ⟨j + 1, by omega, by omega, rfl, (fin.out _ (by rw [hvt.out]; rfl)).1, (fin.out _ (by rw [hvt.out]; rfl)).2⟩
                  · have hvt : v3 = false := by rw [hv3.out]; simp [ja]
                    replace hvt := hide hvt
                    go_wp2
                    go_roundg k2
                    case measure => omega
                    case rel => exact ⟨j + 1, by omega, by omega, rfl, (fin.out _ (by rw [hvt.out]; rfl)).1, (fin.out _ (by rw [hvt.out]; rfl)).2⟩
              · have hvt : v3 = true := by rw [hv3.out]; rfl
                replace hvt := hide hvt
                go_wp2
                go_roundg k2
                case measure => omega
                case rel => exact ⟨j + 1, by omega, by omega, rfl, (fin.out _ (by rw [hvt.out]; rfl)).1, (fin.out _ (by rw [hvt.out]; rfl)).2⟩

set_option maxRecDepth 100000 in
set_option maxHeartbeats 4000000 in
/-- The law, for every argument. -/
theorem reachLaw_any (A : Option Addr) (cap : Nat) (P lr lt : List Int) (four : Bool) (w : World) (hL : Luts w) (hl : P.length ≤ 9223372036854775807) (hB : ∀ n ∈ P, (Lit.int .u8 n).wf = true) (hr : Rd .u8 w w.heap.size A P) (hn1 : lr.length = 3) (hn2 : lt.length = 3) :
    Calls Tryd.prog 8 #[.slice A P.length cap, .agg (lr.map (Value.int .i64)).toArray, .agg (lt.map (Value.int .i64)).toArray, .bool four] w fun e w' => e = .returned (.bool true) ∧ Below w.heap.size w w' := by
  match lr, lt, hn1, hn2 with
  | [lev, il, hl'], [c, st, s], _, _ =>
  show Calls Tryd.prog 8 #[.slice A P.length cap, .agg #[.int .i64 lev, .int .i64 il, .int .i64 hl'], .agg #[.int .i64 c, .int .i64 st, .int .i64 s], .bool four] w fun e w' => e = .returned (.bool true) ∧ Below w.heap.size w w'
  by_cases hall : edgeB P.length 16 4 c st s = true ∧ apartB 16 4 st s = true ∧ within 0 255 [lev, il, hl'] = true
  · obtain ⟨h1, h2, h3⟩ := hall
    simp [within] at h3
    exact reach_main A cap P lev il hl' c s st four w hL (bytes_wf hB) (by omega) (by omega) (by omega) hr h1 h2
  have hLt := hL.lt
  obtain ⟨wa, hwa⟩ : ∃ wa, wa = (w.alloc (.cells #[.int .i64 lev, .int .i64 il, .int .i64 hl'] 28)).alloc (.cells #[.int .i64 c, .int .i64 st, .int .i64 s] 28) := ⟨_, rfl⟩
  have hba : Below w.heap.size w wa := by rw [hwa]; exact ((Below.refl w.heap.size w).alloc (Nat.le_refl _) _).alloc (by simp) _
  have hsa : wa.heap.size = w.heap.size + 1 + 1 := by rw [hwa]; simp
  by_cases c1 : (2147483647 : Int) < (P.length : Int)
  · replace hba := hide hba
    clear hr hL hB hall hsa
    go_enter Tryd.func8, Tryd.ntmps8
    go_wp2
    go_ret
    exact ⟨rfl, by rw [← hwa]; exact hba.out⟩
  have r0 : Blk wa w.heap.size 28 #[.int .i64 lev, .int .i64 il, .int .i64 hl'] := by rw [hwa]; exact (Blk.new w _ _).alloc _
  have r1 : Blk wa (w.heap.size + 1) 28 #[.int .i64 c, .int .i64 st, .int .i64 s] := by
    have h := Blk.new (w.alloc (.cells #[.int .i64 lev, .int .i64 il, .int .i64 hl'] 28)) 28 #[.int .i64 c, .int .i64 st, .int .i64 s]
    rw [World.size_alloc] at h
    rw [hwa]
    exact h
  have cB := fun W h => readBool_any W (hL.below (w' := W) (B := w.heap.size) h hLt)
  have cE : Calls Tryd.prog 20 #[.slice A P.length cap, .int .i64 16, .int .i64 4, .int .i64 c, .int .i64 st, .int .i64 s] wa fun e w' => e = .returned (.bool (edgeB P.length 16 4 c st s)) ∧ Below wa.heap.size wa w' :=
    isEdge_any A cap P.length 16 4 c st s wa (by omega) (by decide) (by decide)
  replace cB := hide cB
  replace hba := hide hba
  replace r0 := hide r0
  replace r1 := hide r1
  cases hE : edgeB P.length 16 4 c st s
  · rw [hE] at cE
    replace cE := hide cE
    clear hE hL hr hB hall
    go_enter Tryd.func8, Tryd.ntmps8
    go_wp2_with fail
    rw [← hwa]
    clear hwa
    (with_reducible refine (cE.out).mono ?_)
    rintro e w1 ⟨rfl, hb1⟩
    have hb2 := hide (hba.out.trans (hb1.mono hba.out.size))
    clear hb1
    go_wp2_with fail
    (with_reducible refine (cB.out _ hb2.out).mono ?_)
    rintro e w2 ⟨rfl, hb3⟩
    have hb4 := hide (hb2.out.trans (hb3.mono hb2.out.size))
    clear hb3
    go_wp2
    go_ret
    exact ⟨rfl, hb4.out⟩
  have hE' := hE
  simp only [edgeB, Bool.and_eq_true, decide_eq_true_eq] at hE'
  obtain ⟨⟨hlen, hw⟩, hlines⟩ := hE'
  simp [within] at hw
  have cA : ∀ W, Calls Tryd.prog 21 #[.int .i64 16, .int .i64 4, .int .i64 st, .int .i64 s] W fun e w' => e = .returned (.bool (apartB 16 4 st s)) ∧ W = w' :=
    fun W => isApart_any 16 4 st s W (by decide) (by decide) (by omega) (by omega) (by omega) (by omega)
  rw [hE] at cE
  replace cE := hide cE
  cases hA : apartB 16 4 st s
  · rw [hA] at cA
    replace cA := hide cA
    clear hE hA hL hr hB hall hw hlines
    go_enter Tryd.func8, Tryd.ntmps8
    go_wp2_with fail
    rw [← hwa]
    clear hwa
    (with_reducible refine (cE.out).mono ?_)
    rintro e w1 ⟨rfl, hb1⟩
    have r1' := r1.out.below hb1 (by omega)
    have d1 : w1.cell? ⟨w.heap.size + 1, 1, none⟩ = some (.int .i64 st) := r1'.cell 1
    have d2 : w1.cell? ⟨w.heap.size + 1, 2, none⟩ = some (.int .i64 s) := r1'.cell 2
    have hb2 := hide (hba.out.trans (hb1.mono hba.out.size))
    clear hb1 r1'
    go_wp2_with (first | (go_at_call 21; (with_reducible refine (cA.out _).mono ?_); rintro e w' ⟨rfl, rfl⟩) | fail)
    (with_reducible refine (cB.out _ hb2.out).mono ?_)
    rintro e w2 ⟨rfl, hb3⟩
    have hb4 := hide (hb2.out.trans (hb3.mono hb2.out.size))
    clear hb3
    go_wp2
    go_ret
    exact ⟨rfl, hb4.out⟩
  have hW : within 0 255 [lev, il, hl'] = false := by
    cases h : within 0 255 [lev, il, hl']
    · rfl
    · exact absurd ⟨hE, hA, h⟩ hall
  have cR : ∀ W : World, Blk W w.heap.size 28 #[.int .i64 lev, .int .i64 il, .int .i64 hl'] → Calls Tryd.prog 17 #[.slice (some ⟨w.heap.size, 0, none⟩) 3 3, .int .i64 0, .int .i64 255] W fun e w' => e = .returned (.bool (within 0 255 [lev, il, hl'])) ∧ W = w' := fun W h => inRange_any (some ⟨w.heap.size, 0, none⟩) 3 (w.heap.size + 1) [lev, il, hl'] 0 255 W (by simp) (Rd.ofCells (by omega) (fun j hj => by rw [Nat.zero_add, h.cell j]; exact three_cells lev il hl' j hj))
  rw [hA] at cA
  rw [hW] at cR
  replace cA := hide cA
  replace cR := hide cR
  clear hE hA hW hL hr hB hall hw hlines
  go_enter Tryd.func8, Tryd.ntmps8
  go_wp2_with fail
  rw [← hwa]
  clear hwa
  (with_reducible refine (cE.out).mono ?_)
  rintro e w1 ⟨rfl, hb1⟩
  have r1' := r1.out.below hb1 (by omega)
  have d1 : w1.cell? ⟨w.heap.size + 1, 1, none⟩ = some (.int .i64 st) := r1'.cell 1
  have d2 : w1.cell? ⟨w.heap.size + 1, 2, none⟩ = some (.int .i64 s) := r1'.cell 2
  have cR1 := hide (cR.out w1 (r0.out.below hb1 (by omega)))
  have hb2 := hide (hba.out.trans (hb1.mono hba.out.size))
  clear hb1 r1'
  go_wp2_with (first | (go_at_call 21; (with_reducible refine (cA.out _).mono ?_); rintro e w' ⟨rfl, rfl⟩) | (go_at_call 17; (with_reducible refine (cR1.out).mono ?_); rintro e w' ⟨rfl, rfl⟩) | fail)
  (with_reducible refine (cB.out _ hb2.out).mono ?_)
  rintro e w2 ⟨rfl, hb3⟩
  have hb4 := hide (hb2.out.trans (hb3.mono hb2.out.size))
  clear hb3
  go_wp2
  go_ret
  exact ⟨rfl, hb4.out⟩
end Go.Proofs.YthbidebcljegjaaDoor

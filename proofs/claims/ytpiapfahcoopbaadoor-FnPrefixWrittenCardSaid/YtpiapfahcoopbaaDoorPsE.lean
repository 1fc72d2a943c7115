/- A code is read; the symbols behind it. -/
import Derived.Test.YtpiapfahcoopbaaDoorPsD
import Derived.Test.YtpiapfahcoopbaaDoorRows2
import Derived.Deep.DeepCutAuto
import Derived.Deep.CutBlock
namespace Go.Proofs.YtpiapfahcoopbaaDoor
set_option linter.unusedSimpArgs false
set_option linter.unusedVariables false
set_option linter.unnecessarySimpa false
open Go.RowKit Plain

theorem blk_setCells_same {g : Nat} {t : TypeId} {cs : Array Value} : ∀ (vs : List Value) (o : Nat) {w : World}, (∀ j v, vs[j]? = some v → cs[o + j]? = some v) → Blk w g t cs → Blk (w.setCells g o vs) g t cs
  | [], _, _, _, h => h
  | v :: vs, o, w, hv, h => by
    have h0 := hv 0 v rfl
    have hb : Blk (w.setCell ⟨g, o, none⟩ v) g t cs := by
      have h1 := h.set_ o v
      have e : cs.setIfInBounds o v = cs := by
        obtain ⟨hlt, he⟩ := Array.getElem?_eq_some_iff.1 h0
        apply Array.ext
        · simp
        · intro i h2 h3
          rw [Array.getElem_setIfInBounds]
          by_cases e : o = i
          · subst e
            rw [if_pos rfl]
            exact he.symm
          · rw [if_neg e]
      rwa [e] at h1
    exact blk_setCells_same vs (o + 1) (fun j v' h' => by have := hv (j + 1) v' (by simpa using h'); rwa [show o + 1 + j = o + (j + 1) by omega]) hb
theorem size_hTree : (Tryd.prog.info? 82).map (·.size) = some 129 := by kernel_rfl
theorem one_hTree : Tryd.zeroCells82.all (·.oneCell') = true := by kernel_rfl
theorem zt_size : Tryd.zeroCells82.size = 129 := by rw [← Array.length_toList]; exact eq_of_beq zt_len
/-- A tree variable, laid as zero. -/
theorem tree0_var (w : World) : Tree0 ((w.alloc (.cells Tryd.zeroCells82 82)).setCells w.heap.size 0 Tryd.zeroCells82.toList) w.heap.size ∧ Upd [] w ((w.alloc (.cells Tryd.zeroCells82 82)).setCells w.heap.size 0 Tryd.zeroCells82.toList) := by
  have hb := Blk.new w 82 Tryd.zeroCells82
  refine ⟨⟨_, blk_setCells_same _ 0 (fun j v hv => by rw [Nat.zero_add]; simpa using hv) hb, zt_size, ⟨_, Array.getElem?_eq_getElem (by rw [zt_size]; decide)⟩, zt_at⟩, ?_⟩
  have u := upd_setCells (S := [w.heap.size]) (g := w.heap.size) (by simp) Tryd.zeroCells82.toList 0 ((Upd.refl [w.heap.size] w).alloc (.cells Tryd.zeroCells82 82))
  exact u.wide (fun k hk hlt => by simp at hk; omega)
/-- Kinds that stand for more than themselves. -/
theorem kind_more (kd : Nat) (h1 : 16 ≤ kd) (h2 : kd ≤ 18) (b e : Nat) : pBits kd = [2, 3, 7].getD (kd - 16) 0 ∧ expand1 b kd e = List.replicate (e + [3, 3, 11].getD (kd - 16) 0) (if kd = 16 then b else 0) ∧ afterB b kd = b := by
  rcases (by omega : kd = 16 ∨ kd = 17 ∨ kd = 18) with h | h | h <;> subst h <;> exact ⟨rfl, rfl, rfl⟩
theorem kind_one (kd : Nat) (h : kd < 16) (b e : Nat) : pBits kd = 0 ∧ expand1 b kd e = [kd] ∧ afterB b kd = if kd = 0 then b else kd := by
  refine ⟨by unfold pBits; rw [if_pos h], by unfold expand1; rw [if_pos h], ?_⟩
  unfold afterB
  by_cases h0 : kd = 0
  · rw [if_pos h0, if_neg (fun q => q.2 h0)]
  · rw [if_neg h0, if_pos ⟨h, h0⟩]
theorem take_snocP {α : Type} (ps : List α) (d : α) (m : Nat) (h : m < ps.length) : ps.take (m + 1) = ps.take m ++ [ps.getD m d] := by
  rw [List.take_succ_eq_append_getElem h]
  simp [h]
theorem expand_pre (ps : List (Nat × Nat)) (m : Nat) (h : m ≤ ps.length) : (expandP 8 (ps.take m)).length ≤ (expandP 8 ps).length := by
  have : ∀ (a c : List (Nat × Nat)) (b : Nat), (expandP b a).length ≤ (expandP b (a ++ c)).length := by
    intro a
    induction a with
    | nil => intro c b; simp [expandP]
    | cons p a ih =>
      intro c b
      have := ih c (afterB b p.1)
      simp only [List.cons_append, expandP, List.length_append]
      omega
  have h2 := this (ps.take m) (ps.drop m) 8
  rwa [List.take_append_drop] at h2
theorem row_set (E : List Nat) (t x : Nat) (h : 0 < t) : (E ++ List.replicate t 0).set E.length x = (E ++ [x]) ++ List.replicate (t - 1) 0 := by
  rw [List.set_append_right _ _ (Nat.le_refl _), Nat.sub_self]
  obtain ⟨t, rfl⟩ : ∃ s, t = s + 1 := ⟨t - 1, by omega⟩
  simp [List.replicate_succ]
def DclPost (Bs : List Nat) (gd r base cap : Nat) (A : Option Addr) (ae au ar : Addr) (q O size : Nat) (L : List Nat) (w : World) (e : Ending) (w' : World) : Prop := e = .returned .nilIface ∧ RC Bs gd r base cap A ae au ar q w' ∧ w'.ownsRow base 59 1 (.slice (some ⟨O, 0, none⟩) size size) size ((ofN' L).map (Value.int .u32)) ∧ Upd [gd, r, O] w w'
set_option maxRecDepth 100000 in
set_option maxHeartbeats 8000000 in
theorem dcl_any {Bs : List Nat} {gd r base cap p1 p2 size M O K0 : Nat} {A : Option Addr} {ae au ar : Addr} {w : World} (h : RC Bs gd r base cap A ae au ar p1 w) (K L : List Nat) (ps : List (Nat × Nat)) (hCnt : CntTold (leN Bs) p1 p2 size ps.length M) (hK : LenOk 7 19 K) (hP : PcsTold (leN Bs) K p2 ps ps.length) (hE : ∃ z, expandP 8 ps ++ List.replicate z 0 = L ∧ (z = 0 ∨ M = ps.length)) (hM : ps.length ≤ M ∧ M ≤ size) (hL : L.length = size) (hsz : (size : Int) ≤ 4096) (hU : ∀ x ∈ ps, PieceOk x ∧ 1 ≤ K.getD x.1 0) (hq : pcP K p2 ps ps.length ≤ 8 * Bs.length)
    (hO : w.ownsRow base 59 1 (.slice (some ⟨O, 0, none⟩) size size) size ((ofN' (List.replicate size 0)).map (Value.int .u32))) (hO1 : O ≠ gd ∧ O ≠ r) (hK0 : K0 < w.heap.size) (hKr : Rd .u32 w w.heap.size (some ⟨K0, 0, none⟩) (ofN' K)) :
    Calls Tryd.prog 72 #[.pointer (some ⟨gd, 0, none⟩), .slice (some ⟨O, 0, none⟩) size size, .slice (some ⟨K0, 0, none⟩) 19 19] w (DclPost Bs gd r base cap A ae au ar (pcP K p2 ps ps.length) O size L w) := by
  obtain ⟨ht0, hu0⟩ := tree0_var w
  have hT0 := (Blk.new w 82 Tryd.zeroCells82).there 129 (by rw [zt_size]; decide)
  have hOb := hO.lt O rfl
  have hRlt := h.lt
  have e1 := h.e1
  have e2 := h.e2
  replace h := hide h
  replace hCnt := hide hCnt
  replace hK := hide hK
  replace hP := hide hP
  replace hE := hide hE
  replace hL := hide hL
  replace hU := hide hU
  replace hO := hide hO
  replace hKr := hide hKr
  replace ht0 := hide ht0
  replace hu0 := hide hu0
  replace hT0 := hide hT0
  go_enter Tryd.func72, Tryd.ntmps72
  go_upto_region 2 with (first | (refine wpList_store_mid rfl 82 (.tmp 7) (.tmp 21) rfl w.heap.size 0 Tryd.zeroCells82 rfl rfl (by rw [zt_size]; exact hT0.out) (by rw [zt_size]; exact size_hTree) one_hTree ?_) | fail)
  generalize (w.alloc (.cells Tryd.zeroCells82 82)).setCells w.heap.size 0 Tryd.zeroCells82.toList = w1 at *
  have hz1 : w.heap.size < w1.heap.size := by
    obtain ⟨cs, hb, _⟩ := ht0.out.h
    exact hb.lt
  have h1 := h.out.made hu0.out
  have hO1' := hu0.out.own hO.out (by simp)
  have hK1 := hKr.out.upd hu0.out (Nat.le_refl _) (by simp)
  have cB := buildRd_any w.heap.size (some ⟨K0, 0, none⟩) 19 w.heap.size 19 7 K ar w1 hK.out (by decide) (by decide) hK1 (by omega) (fun a ha => by injection ha with ha; subst ha; show K0 ≠ _; omega) ht0.out h1.tab (by have := hRlt; have := h1.gd_; omega) (by have := h1.gd_; omega)
  replace h1 := hide h1
  replace cB := hide cB
  replace hO1' := hide hO1'
  clear hT0
  go_wp2_with fail
  (with_reducible refine (cB.out).mono ?_)
  rintro e w2 ⟨rfl, nt, hnt, hT2, hu2⟩
  have h2 := h1.out.move hu2 (by simp; have := h1.out.gd_; omega) (by simp; omega) (by simp; omega)
  have hO2 := hu2.own hO1'.out (by intro g' hg'; injection hg' with hg'; subst hg'; simp; omega)
  have huw2 := (hu0.out.step hu2 (by simp <;> omega) : Upd [] w w2)
  replace hT2 := hide hT2
  replace hO2 := hide hO2
  replace huw2 := hide huw2
  clear hu2 cB h1 hO1' hK1
  go_wp2_with fail
  have hp2q := pcP_mono K p2 ps (Nat.zero_le ps.length)
  replace hp2q : p2 ≤ pcP K p2 ps ps.length := hp2q
  obtain ⟨b, hb1, hb⟩ : ∃ b, Told (leN Bs) p1 1 b ∧ ((b = 0 ∧ p2 = p1 + 1 ∧ M = size) ∨ (b = 1 ∧ ∃ k, k ≤ 7 ∧ p2 = p1 + 6 + 2 * k ∧ Told (leN Bs) (p1 + 1) 3 k ∧ Told (leN Bs) (p1 + 4) (2 + 2 * k) (ps.length - 2) ∧ 2 ≤ ps.length ∧ M = ps.length)) := by
    rcases hCnt.out with ⟨a, b, c⟩ | ⟨k, a, b, c, d⟩
    · exact ⟨0, b, .inl ⟨rfl, a, c⟩⟩
    · exact ⟨1, c, .inr ⟨rfl, k, a, b, d⟩⟩
  have hpp : p1 + 1 ≤ p2 := by
    rcases hb with ⟨_, h, _⟩ | ⟨_, k, _, h, _⟩ <;> omega
  refine (read_rc h2 1 b _ rfl (by decide) (by omega) hb1).mono ?_
  rintro e w3 ⟨rfl, h3, hu3⟩
  replace hb := hide hb
  replace h3 := hide h3
  replace hu3 := hide hu3
  clear h2 hb1
  go_upto_if 38 with fail
  go_cut [9, 12, 13, 14] from 38 to 66 (fun u9 u12 u13 u14 wc => u9 = .int .i64 (M : Nat) ∧ RC Bs gd r base cap A ae au ar p2 wc ∧ Upd [gd, r] w2 wc)
  case first =>
    rcases hb.out with ⟨rfl, h4, h5⟩ | ⟨rfl, k, hk7, h4, h5, h6, h7, h8⟩
    · have h3' := h3.out
      rw [← h4] at h3'
      replace h3' := hide h3'
      replace h4 := hide h4
      replace h5 := hide h5
      go_wp2_with fail
      go_meet
      exact ⟨by rw [h5.out], h3'.out, hu3.out⟩
    · replace h4 := hide h4
      replace h8 := hide h8
      go_wp2_with fail
      refine (read_rc h3.out 3 k _ rfl (by decide) (by have := h4.out; omega) h5).mono ?_
      rintro e w4 ⟨rfl, hr4, hu4⟩
      replace hu4 := hide (hu3.out.trans hu4)
      have hkI : (k : Int) ≤ 7 := by omega
      have hwk : IntKind.u32.wrap (2 * (k : Int)) = 2 * (k : Int) := IntWalk.u32_in _ (by omega)
      replace h6 := hide h6
      clear h5
      go_wp2_with fail
      refine (read_rc hr4 (2 + 2 * k) (ps.length - 2) _ (by omega) (by omega) (by have := h4.out; omega) h6.out).mono ?_
      rintro e w5 ⟨rfl, hr5, hu5⟩
      have hr5' := hr5
      rw [show p1 + 1 + 3 + (2 + 2 * k) = p2 by have := h4.out; omega] at hr5'
      have hN : ((ps.length - 2 : Nat) : Int) + 2 = (M : Int) := by have := h8.out; omega
      have hNb : ((ps.length - 2 : Nat) : Int) ≤ 4096 := by omega
      generalize ps.length - 2 = N at *
      have hMs : ¬ (size : Int) < (M : Int) := by omega
      replace hr5' := hide hr5'
      replace hu5 := hide (hu4.out.trans hu5)
      clear hr4 hr5 hu4 h6
      go_wp2_with fail
      go_meet
      exact ⟨rfl, hr5'.out, hu5.out⟩
  case rest =>
    clear h3 hu3 hb
    obtain ⟨rfl, h3, hu3⟩ := hcut
    have hO3 := hu3.own hO2.out (by intro g' hg'; injection hg' with hg'; subst hg'; simp; omega)
    have hu3' := hu3.wide (S := [gd, r, O]) (fun k hk _ => by simp at hk ⊢; omega)
    obtain ⟨z, hz1, hz2⟩ := hE.out
    have hfl : (expandP 8 ps).length + z = size := by have := hL.out; rw [← hz1] at this; simpa using this
    replace h3 := hide h3
    replace hO3 := hide hO3
    replace hu3' := hide hu3'
    replace hz1 := hide hz1
    replace hz2 := hide hz2
    clear hu3 hO2 hCnt
    go_wp2_with fail
    go_loopg [9, 15, 16] ps.length (fun k u9 u15 u16 wr => ∃ (m : Nat) (E : List Nat), k + m = ps.length ∧ E = expandP 8 (ps.take m) ∧ u9 = .int .i64 ((M - m : Nat) : Int) ∧ u15 = .int .u32 (lastB 8 (ps.take m) : Nat) ∧ u16 = .int .i64 (E.length : Nat) ∧ RC Bs gd r base cap A ae au ar (pcP K p2 ps m) wr ∧ wr.ownsRow base 59 1 (.slice (some ⟨O, 0, none⟩) size size) size ((ofN' (E ++ List.replicate (size - E.length) 0)).map (Value.int .u32)) ∧ Upd [gd, r, O] w2 wr)
    case atStart => exact ⟨0, [], by omega, rfl, by rw [Nat.sub_zero], rfl, rfl, h3.out, hO3.out, hu3'.out⟩
    case round =>
      clear h3 hO3 hu3'
      obtain ⟨m, E, hk, hEd, rfl, rfl, rfl, hr, ho, hu⟩ := hrel
      have hEl : E.length ≤ (expandP 8 ps).length := by rw [hEd]; exact expand_pre ps m (by omega)
      cases gk with
      | zero =>
        obtain rfl : m = ps.length := by omega
        rw [List.take_length] at hEd
        have hfin : DclPost Bs gd r base cap A ae au ar (pcP K p2 ps ps.length) O size L w (.returned .nilIface) wr := by
          refine ⟨rfl, hr, ?_, (huw2.out.wide (by simp)).trans hu⟩
          rw [← hz1.out, ← hEd]
          rw [← hEd] at hfl
          rwa [show size - E.length = z by omega] at ho
        replace hfin := hide hfin
        rw [← hEd] at hfl
        by_cases hs : E.length < size
        · have hsI : (E.length : Int) < (size : Int) := by omega
          have hM0 : ((M - ps.length : Nat) : Int) = 0 := by
            rcases hz2.out with h | h <;> omega
          replace hEd := hide hEd
          clear hr ho hu
          rw [hM0]
          go_wp2_with fail
          go_ret
          exact hfin.out
        · have hsI : ¬ (E.length : Int) < (size : Int) := by omega
          replace hEd := hide hEd
          clear hr ho hu
          go_wp2_with fail
          go_ret
          exact hfin.out
      | succ k =>
        have hm : m < ps.length := by omega
        have hmem : ps.getD m (0, 0) ∈ ps := by
          have e1 : ps.getD m (0, 0) = ps[m] := by simp [hm]
          rw [e1]
          exact List.getElem_mem _
        obtain ⟨⟨hk18, hex⟩, hK1⟩ := hU.out _ hmem
        obtain ⟨hsy, hto⟩ := hP.out m hm
        have hts := take_snocP ps (0, 0) m hm
        have hE2 : expandP 8 (ps.take (m + 1)) = E ++ expand1 (lastB 8 (ps.take m)) (ps.getD m (0, 0)).1 (ps.getD m (0, 0)).2 := by rw [hts, expandP_append, hEd]
        have hB2 : lastB 8 (ps.take (m + 1)) = afterB (lastB 8 (ps.take m)) (ps.getD m (0, 0)).1 := by rw [hts, lastB_append]
        have hEl2 := expand_pre ps (m + 1) (by omega)
        rw [hE2, List.length_append] at hEl2
        have hpj : pcP K p2 ps (m + 1) = pcP K p2 ps m + symN K (ps.getD m (0, 0)).1 + pBits (ps.getD m (0, 0)).1 := rfl
        have hmono := pcP_mono K p2 ps (show m + 1 ≤ ps.length by omega)
        have hMm : ((M - m : Nat) : Int) - 1 = ((M - (m + 1) : Nat) : Int) := by omega
        have hMp : (0 : Int) < ((M - m : Nat) : Int) := by omega
        have hM0 : ¬ ((M - m : Nat) : Int) = 0 := by omega
        have hMb : ((M - m : Nat) : Int) ≤ 4096 := by omega
        generalize (ps.getD m (0, 0)).1 = kd at *
        generalize (ps.getD m (0, 0)).2 = ex at *
        generalize hpd : pcP K p2 ps m = pm at *
        generalize hbd : lastB 8 (ps.take m) = bf at *
        have hTr := hT2.out.upd hu (by simp; omega) (by simp; omega)
        have cN := next_rc hr w.heap.size nt kd 7 19 K hTr hK.out (by decide) (by decide) (by omega) hK1 hsy (by omega) (by have := hr.lt; omega)
        generalize M - m = Mm at *
        generalize hMn : M - (m + 1) = Mn at *
        replace hMn := hide hMn
        have hElI : (E.length : Int) < (size : Int) := by
          have := expand1_pos bf kd ex
          omega
        have hElb : (E.length : Int) ≤ 4096 := by omega
        have hkdI : (kd : Int) ≤ 18 := by omega
        replace hEd := hide hEd
        replace hts := hide hts
        replace hE2 := hide hE2
        replace hB2 := hide hB2
        replace hpj := hide hpj
        replace hpd := hide hpd
        replace hbd := hide hbd
        replace hr := hide hr
        replace ho := hide ho
        replace hu := hide hu
        replace cN := hide cN
        replace hmem := hide hmem
        replace hsy := hide hsy
        replace hto := hide hto
        replace hex := hide hex
        replace hmono := hide hmono
        clear hTr
        go_wp2_with fail
        (with_reducible refine (cN.out).mono ?_)
        rintro e w5 ⟨rfl, h5, hu5⟩
        have ho5 := hide (hu5.own ho.out (by intro g' hg'; injection hg' with hg'; subst hg'; simp; omega))
        have hu5' := hide (hu.out.trans (hu5.wide (S := [gd, r, O]) (fun k hk _ => by simp at hk ⊢; omega)))
        replace h5 := hide h5
        clear cN hr ho hu hu5
        by_cases h16 : kd < 16
        · have h16I : (kd : Int) < 16 := by omega
          obtain ⟨k1, k2, k3⟩ := kind_one kd h16 bf ex
          have hps : pcP K p2 ps (m + 1) = pm + symN K kd := by rw [hpj.out, k1, Nat.add_zero]
          have hE3 := hE2.out
          rw [k2] at hE3
          have hB3 := hB2.out
          rw [k3] at hB3
          have hset := own_set (k := .u32) ho5.out E.length ((kd : Nat) : Int)
          rw [show (ofN' (E ++ List.replicate (size - E.length) 0)).set E.length ((kd : Nat) : Int) = ofN' ((E ++ [kd]) ++ List.replicate (size - (E ++ [kd]).length) 0) from by
            rw [← show (size - E.length) - 1 = size - (E ++ [kd]).length by simp; omega, ← row_set E (size - E.length) kd (by omega)]
            simp [ofN', List.map_set]] at hset
          have hfz := ho5.out.frozenAt E.length
          have hco := own_cell ho5.out E.length (by omega)
          generalize (ofN' (E ++ List.replicate (size - E.length) 0)).getD E.length 0 = X at hco
          have h6 := h5.out.move ((Upd.refl [O] w5).setCell (p := ⟨O, E.length, none⟩) (.inl (by simp)) (.int .u32 (kd : Nat))) (by simp; omega) (by simp; omega) (by simp; omega)
          have hu6 := hu5'.out.setCell (p := ⟨O, E.length, none⟩) (.inl (by simp)) (.int .u32 (kd : Nat))
          have hlen : (E ++ [kd]).length = E.length + 1 := by simp
          replace hset := hide hset
          replace h6 := hide h6
          replace hu6 := hide hu6
          replace hE3 := hide hE3
          replace hB3 := hide hB3
          replace hps := hide hps
          replace hlen := hide hlen
          replace k1 := hide k1
          replace k2 := hide k2
          replace k3 := hide k3
          by_cases hk0 : kd = 0
          · subst hk0
            go_wp2_with fail
            go_roundg k
            case measure => omega
            case rel => exact ⟨m + 1, E ++ [0], by omega, hE3.out.symm, by rw [hMn.out], by rw [hB3.out]; simp, by rw [hlen.out]; go_num, by rw [hps.out]; exact h6.out, hset.out, hu6.out⟩
          · have hkI : ¬ (kd : Int) = 0 := by omega
            have hkq : ((kd : Int) == 0) = false := beq_false_of_ne hkI
            have hkq2 : ((kd : Int) != 0) = true := by simp [bne, hkq]
            go_wp2_with fail
            go_roundg k
            case measure => omega
            case rel => exact ⟨m + 1, E ++ [kd], by omega, hE3.out.symm, by rw [hMn.out], by rw [hB3.out, if_neg hk0], by rw [hlen.out]; go_num, by rw [hps.out]; exact h6.out, hset.out, hu6.out⟩
        · have h16I : ¬ (kd : Int) < 16 := by omega
          obtain ⟨j, hj⟩ : ∃ j, j = kd - 16 := ⟨_, rfl⟩
          obtain ⟨k1, k2, k3⟩ := kind_more kd (by omega) hk18 bf ex
          have hkj : (kd : Int) - 16 = (j : Int) := by omega
          have hj3 : (j : Int) < 3 := by omega
          rw [← hj] at k1 k2
          have g1 := h5.out.rep.bits j (by omega)
          have hps : pcP K p2 ps (m + 1) = pm + symN K kd + [2, 3, 7].getD j 0 := by rw [hpj.out, k1]
          have hex' := hex.out
          have hto' := hto.out
          have hfit : pm + symN K kd + [2, 3, 7].getD j 0 ≤ 8 * Bs.length := by
            have := hmono.out
            rw [hps] at this
            omega
          rw [k1] at hex' hto'
          have hE3 := hE2.out
          rw [k2] at hE3 hEl2
          have hB3 := hB2.out
          rw [k3] at hB3
          rw [List.length_replicate] at hEl2
          have hrb : [2, 3, 7].getD j 0 ≤ 7 := by
            rcases (by omega : j = 0 ∨ j = 1 ∨ j = 2) with h | h | h <;> subst h <;> decide
          have hro : [3, 3, 11].getD j 0 ≤ 11 := by
            rcases (by omega : j = 0 ∨ j = 1 ∨ j = 2) with h | h | h <;> subst h <;> decide
          have hex7 : ex < 128 := Nat.lt_of_lt_of_le hex' (Nat.le_trans (Nat.pow_le_pow_right (by decide) hrb) (by decide))
          have cR := read_rc h5.out ([2, 3, 7].getD j 0) ex _ rfl (by omega) hfit hto'
          have hg2 : ∀ W, RC Bs gd r base cap A ae au ar (pm + symN K kd + [2, 3, 7].getD j 0) W → W.cell? ⟨7, j, none⟩ = some (.int .u8 (([3, 3, 11].getD j 0 : Nat) : Int)) := fun W hW => hW.rep.offs j (by omega)
          generalize [2, 3, 7].getD j 0 = rb at *
          generalize [3, 3, 11].getD j 0 = ro at *
          have hrbI : (rb : Int) ≤ 7 := by omega
          have hroI : (ro : Int) ≤ 11 := by omega
          have hexI : (ex : Int) < 128 := by omega
          obtain ⟨rep, hrep⟩ : ∃ rep, rep = ex + ro := ⟨_, rfl⟩
          have hrepI : (ex : Int) + (ro : Int) = (rep : Int) := by omega
          have hrepb : (rep : Int) ≤ 139 := by omega
          rw [← hrep] at hE3 hEl2
          have hfitI : ¬ (size : Int) < (E.length : Int) + (rep : Int) := by omega
          obtain ⟨cl, hcl⟩ : ∃ cl, cl = if kd = 16 then bf else 0 := ⟨_, rfl⟩
          rw [← hcl] at hE3
          replace hg2 := hide hg2
          replace hps := hide hps
          replace hE3 := hide hE3
          replace hB3 := hide hB3
          replace hj := hide hj
          replace hrep := hide hrep
          replace hcl := hide hcl
          replace cR := hide cR
          clear k1 k2 k3 hex' hto' hfit
          go_wp2_with fail
          (with_reducible refine (cR.out).mono ?_)
          rintro e w6 ⟨rfl, h6, hu6⟩
          have g2 := hg2.out w6 h6
          have ho6 := hide (hu6.own ho5.out (by intro g' hg'; injection hg' with hg'; subst hg'; simp; omega))
          have hu6' := hide (hu5'.out.trans (hu6.wide (S := [gd, r, O]) (fun k hk _ => by simp at hk ⊢; omega)))
          replace h6 := hide h6
          clear hu6 cR h5 ho5 hu5' g1 hg2
          go_upto_if 123 with fail
          go_cut [20] from 122 to 124 (fun u20 wc => u20 = .int .u32 (cl : Nat) ∧ w6 = wc)
          case first =>
            by_cases hkk : kd = 16
            · have hkI : (kd : Int) = 16 := by omega
              rw [if_pos hkk] at hcl
              replace hkk := hide hkk
              go_wp2_with fail
              go_meet
              exact ⟨by rw [hcl.out], rfl⟩
            · have hkI : ¬ (kd : Int) = 16 := by omega
              have hkq : ((kd : Int) == 16) = false := beq_false_of_ne hkI
              rw [if_neg hkk] at hcl
              go_wp2_with fail
              go_meet
              exact ⟨by rw [hcl.out]; rfl, rfl⟩
          case rest =>
            obtain ⟨rfl, rfl⟩ := hcut
            clear g2
            go_wp2_with fail
            go_loopg [16, 19] rep (fun k u16 u19 wr => ∃ (t : Nat) (F : List Nat), k + t = rep ∧ F = E ++ List.replicate t cl ∧ F.length = E.length + t ∧ u19 = .int .u32 (k : Nat) ∧ u16 = .int .i64 (F.length : Nat) ∧ RC Bs gd r base cap A ae au ar (pm + symN K kd + rb) wr ∧ wr.ownsRow base 59 1 (.slice (some ⟨O, 0, none⟩) size size) size ((ofN' (F ++ List.replicate (size - F.length) 0)).map (Value.int .u32)) ∧ Upd [gd, r, O] w2 wr)
            case atStart => exact ⟨0, E, rfl, by simp, rfl, rfl, rfl, h6.out, ho6.out, hu6'.out⟩
            case round =>
              clear h6 ho6 hu6'
              obtain ⟨t, F, hkt, hF, hFl, rfl, rfl, h7, ho7, hu7⟩ := hrel
              cases gk with
              | zero =>
                obtain rfl : t = rep := by omega
                replace h7 := hide h7
                replace ho7 := hide ho7
                replace hu7 := hide hu7
                replace hF := hide hF
                replace hFl := hide hFl
                go_wp2_with fail
                go_roundg k
                case measure => omega
                case rel => exact ⟨m + 1, F, by omega, by rw [hE3.out, hF.out], by rw [hMn.out], by rw [hB3.out], rfl, by rw [hps.out]; exact h7.out, ho7.out, hu7.out⟩
              | succ k2 =>
                have hFI : (F.length : Int) < (size : Int) := by omega
                have hFb : (F.length : Int) ≤ 4096 := by omega
                have hset := own_set (k := .u32) ho7 F.length ((cl : Nat) : Int)
                rw [show (ofN' (F ++ List.replicate (size - F.length) 0)).set F.length ((cl : Nat) : Int) = ofN' ((F ++ [cl]) ++ List.replicate (size - (F ++ [cl]).length) 0) from by
                  rw [← show (size - F.length) - 1 = size - (F ++ [cl]).length by simp; omega, ← row_set F (size - F.length) cl (by omega)]
                  simp [ofN', List.map_set]] at hset
                have hfz := ho7.frozenAt F.length
                have hco := own_cell ho7 F.length (by omega)
                generalize (ofN' (F ++ List.replicate (size - F.length) 0)).getD F.length 0 = X at hco
                have h8 := h7.move ((Upd.refl [O] wr).setCell (p := ⟨O, F.length, none⟩) (.inl (by simp)) (.int .u32 (cl : Nat))) (by simp; omega) (by simp; omega) (by simp; omega)
                have hu8 := hu7.setCell (p := ⟨O, F.length, none⟩) (.inl (by simp)) (.int .u32 (cl : Nat))
                have hlen : (F ++ [cl]).length = F.length + 1 := by simp
                have hF2 : F ++ [cl] = E ++ List.replicate (t + 1) cl := by rw [hF, List.append_assoc, ← List.replicate_succ']
                have hk2 : ((k2 + 1 : Nat) : Int) - 1 = (k2 : Int) := by omega
                have hk2p : (0 : Int) < ((k2 + 1 : Nat) : Int) := by omega
                have hk2b : ((k2 + 1 : Nat) : Int) ≤ 139 := by omega
                replace hset := hide hset
                replace h8 := hide h8
                replace hu8 := hide hu8
                replace hlen := hide hlen
                replace hF2 := hide hF2
                replace hF := hide hF
                replace hFl := hide hFl
                replace h7 := hide h7
                replace ho7 := hide ho7
                replace hu7 := hide hu7
                go_wp2_with fail
                go_roundg k2
                case measure => omega
                case rel => exact ⟨t + 1, F ++ [cl], by omega, hF2.out, by rw [hlen.out, hFl.out]; omega, rfl, by rw [hlen.out]; go_num, h8.out, hset.out, hu8.out⟩
end Go.Proofs.YtpiapfahcoopbaaDoor
namespace Go.Proofs.YtpiapfahcoopbaaDoor
set_option linter.unusedSimpArgs false
set_option linter.unusedVariables false
set_option linter.unnecessarySimpa false
open Go.RowKit Plain

def DhtPost (Bs : List Nat) (gd r base cap : Nat) (A : Option Addr) (ae au ar : Addr) (q g : Nat) (L : List Nat) (w : World) (e : Ending) (w' : World) : Prop := e = .returned .nilIface ∧ RC Bs gd r base cap A ae au ar q w' ∧ (∃ nt, w.heap.size ≤ nt ∧ RdT L w' g nt) ∧ Upd [gd, r, g] w w'
set_option maxRecDepth 100000 in
set_option maxHeartbeats 8000000 in
theorem dht_s1 {Bs : List Nat} {gd r base cap p q size g a f : Nat} {A : Option Addr} {ae au ar : Addr} {w : World} (h : RC Bs gd r base cap A ae au ar p w) (L : List Nat) (hs : Simp1 (leN Bs) p q size a f L) (hsz : (size : Int) ≤ 4096) (hq : q ≤ 8 * Bs.length) (h0 : Tree0 w g) (hg : base ≤ g ∧ g ≠ gd ∧ g ≠ r) :
    Calls Tryd.prog 63 #[.pointer (some ⟨gd, 0, none⟩), .pointer (some ⟨g, 0, none⟩), .int .u32 (size : Nat)] w (DhtPost Bs gd r base cap A ae au ar q g L w) := by
  obtain ⟨t0, t1, t2, t3, f1, ⟨a1, a2⟩, hq_, hL⟩ := hs
  have hglt : g < w.heap.size := by obtain ⟨cs, a1, _⟩ := h0.h; exact a1.lt
  have hRlt := h.lt
  have e2 := h.e2
  have hfI : (f : Int) ≤ 1 := by omega
  replace h0 := hide h0
  replace t1 := hide t1
  replace t2 := hide t2
  replace t3 := hide t3
  replace hq_ := hide hq_
  replace hL := hide hL
  go_enter Tryd.func63, Tryd.ntmps63
  go_wp2_with fail
  refine (read_rc h 1 1 _ rfl (by decide) (by have := hq_.out; omega) t0).mono ?_
  rintro e w1 ⟨rfl, h1, u1⟩
  replace u1 := hide u1
  clear h t0
  go_wp2_with fail
  refine (read_rc h1 1 0 _ rfl (by decide) (by have := hq_.out; omega) t1.out).mono ?_
  rintro e w2 ⟨rfl, h2, u2⟩
  replace u2 := hide (u1.out.trans u2)
  clear h1 u1 t1
  go_wp2_with fail
  refine (read_rc h2 1 f _ rfl (by decide) (by have := hq_.out; omega) t2.out).mono ?_
  rintro e w3 ⟨rfl, h3, u3⟩
  have h4 := h3.alloc (.cells #[.int .u32 0, .int .u32 0] 118)
  have hb4 := Blk.new w3 118 #[.int .u32 0, .int .u32 0]
  have u4 := (u2.out.trans u3).alloc (.cells #[.int .u32 0, .int .u32 0] 118)
  have hz4 : (w3.alloc (.cells #[.int .u32 0, .int .u32 0] 118)).heap.size = w3.heap.size + 1 := by simp
  have hz3 : w.heap.size ≤ w3.heap.size := (u2.out.trans u3).size
  have hw7 : IntKind.u32.wrap (7 * (f : Int)) = 7 * (f : Int) := IntWalk.u32_in _ (by omega)
  replace u4 := hide u4
  replace hb4 := hide hb4
  replace hz4 := hide hz4
  clear h2 h3 u2 u3 t2
  go_wp2_with fail
  refine (read_rc h4 (7 * f + 1) a _ (by omega) (by omega) (by have := hq_.out; omega) t3.out).mono ?_
  rintro e w5 ⟨rfl, h5, u5⟩
  have hb5 := hb4.out.upd u5 (by simp; omega)
  have x0 := hb5.cell 0
  have x1 := hb5.cell 1
  have y0 := hb5.frozen 0
  have h6 := h5.move ((Upd.refl [w3.heap.size] w5).setCell (p := ⟨w3.heap.size, 0, none⟩) (.inl (by simp)) (.int .u32 (a : Nat))) (by simp; have := h5.gd_; omega) (by simp; omega) (by simp; omega)
  have u6 : Upd [gd, r] w (w5.setCell ⟨w3.heap.size, 0, none⟩ (.int .u32 (a : Nat))) := (u4.out.trans u5).setCell (p := ⟨w3.heap.size, 0, none⟩) (.inr (by simp; omega)) (.int .u32 (a : Nat))
  have h06 := h0.out.upd u6 (by simp; omega)
  have cB := buildS1_any g size a 0 ar _ a1 hsz h06 h6.tab (by omega) (by omega)
  replace h6 := hide h6
  replace u6 := hide u6
  replace cB := hide cB
  replace hb5 := hide hb5
  clear h5 u5 h06 h4 u4 hb4 t3
  go_wp2_with fail
  (with_reducible refine (cB.out).mono ?_)
  rintro e w7 ⟨rfl, nt, hnt, hT, u7⟩
  have hfin : DhtPost Bs gd r base cap A ae au ar q g L w (.returned .nilIface) w7 := by
    refine ⟨rfl, ?_, ⟨nt, Nat.le_trans u6.out.size hnt, by rw [hL.out]; exact hT⟩, (u6.out.wide (S := [gd, r, g]) (fun k hk _ => by simp at hk ⊢; omega)).trans (u7.wide (fun k hk _ => by simp at hk ⊢; omega))⟩
    have h7 := h6.out.move u7 (by simp; omega) (by simp; omega) (by simp; omega)
    rwa [show p + 1 + 1 + 1 + (7 * f + 1) = q by have := hq_.out; omega] at h7
  replace hfin := hide hfin
  clear hT u7 cB h6 u6
  go_wp2_with fail
  go_ret
  exact hfin.out
set_option maxRecDepth 100000 in
set_option maxHeartbeats 8000000 in
theorem dht_s2 {Bs : List Nat} {gd r base cap p q size g a b f : Nat} {A : Option Addr} {ae au ar : Addr} {w : World} (h : RC Bs gd r base cap A ae au ar p w) (L : List Nat) (hs : Simp2 (leN Bs) p q size a b f L) (hsz : (size : Int) ≤ 4096) (hq : q ≤ 8 * Bs.length) (h0 : Tree0 w g) (hg : base ≤ g ∧ g ≠ gd ∧ g ≠ r) :
    Calls Tryd.prog 63 #[.pointer (some ⟨gd, 0, none⟩), .pointer (some ⟨g, 0, none⟩), .int .u32 (size : Nat)] w (DhtPost Bs gd r base cap A ae au ar q g L w) := by
  obtain ⟨t0, t1, t2, t3, t4, f1, ⟨hab, hb1, hb2⟩, hq_, hL⟩ := hs
  have hglt : g < w.heap.size := by obtain ⟨cs, a1, _⟩ := h0.h; exact a1.lt
  have hRlt := h.lt
  have e2 := h.e2
  have hfI : (f : Int) ≤ 1 := by omega
  replace h0 := hide h0
  replace t1 := hide t1
  replace t2 := hide t2
  replace t3 := hide t3
  replace t4 := hide t4
  replace hq_ := hide hq_
  replace hL := hide hL
  go_enter Tryd.func63, Tryd.ntmps63
  go_wp2_with fail
  refine (read_rc h 1 1 _ rfl (by decide) (by have := hq_.out; omega) t0).mono ?_
  rintro e w1 ⟨rfl, h1, u1⟩
  replace u1 := hide u1
  clear h t0
  go_wp2_with fail
  refine (read_rc h1 1 1 _ rfl (by decide) (by have := hq_.out; omega) t1.out).mono ?_
  rintro e w2 ⟨rfl, h2, u2⟩
  replace u2 := hide (u1.out.trans u2)
  clear h1 u1 t1
  go_wp2_with fail
  refine (read_rc h2 1 f _ rfl (by decide) (by have := hq_.out; omega) t2.out).mono ?_
  rintro e w3 ⟨rfl, h3, u3⟩
  have h4 := h3.alloc (.cells #[.int .u32 0, .int .u32 0] 118)
  have hb4 := Blk.new w3 118 #[.int .u32 0, .int .u32 0]
  have u4 := (u2.out.trans u3).alloc (.cells #[.int .u32 0, .int .u32 0] 118)
  have hz4 : (w3.alloc (.cells #[.int .u32 0, .int .u32 0] 118)).heap.size = w3.heap.size + 1 := by simp
  have hz3 : w.heap.size ≤ w3.heap.size := (u2.out.trans u3).size
  have hw7 : IntKind.u32.wrap (7 * (f : Int)) = 7 * (f : Int) := IntWalk.u32_in _ (by omega)
  replace u4 := hide u4
  replace hb4 := hide hb4
  replace hz4 := hide hz4
  clear h2 h3 u2 u3 t2
  go_wp2_with fail
  refine (read_rc h4 (7 * f + 1) a _ (by omega) (by omega) (by have := hq_.out; omega) t3.out).mono ?_
  rintro e w5 ⟨rfl, h5, u5⟩
  have hb5 := hb4.out.upd u5 (by simp; omega)
  have x0 := hb5.cell 0
  have x1 := hb5.cell 1
  have y0 := hb5.frozen 0
  have y1 := hb5.frozen 1
  have h6 := h5.move ((Upd.refl [w3.heap.size] w5).setCell (p := ⟨w3.heap.size, 0, none⟩) (.inl (by simp)) (.int .u32 (a : Nat))) (by simp; have := h5.gd_; omega) (by simp; omega) (by simp; omega)
  have u6 : Upd [gd, r] w (w5.setCell ⟨w3.heap.size, 0, none⟩ (.int .u32 (a : Nat))) := (u4.out.trans u5).setCell (p := ⟨w3.heap.size, 0, none⟩) (.inr (by simp; omega)) (.int .u32 (a : Nat))
  have hb6 := hb5.set_ 0 (.int .u32 (a : Nat))
  have hz6 : (w5.setCell ⟨w3.heap.size, 0, none⟩ (.int .u32 (a : Nat))).heap.size = w5.heap.size := by simp [World.setCell]
  replace u6 := hide u6
  replace hb5 := hide hb5
  replace hb6 := hide hb6
  replace hz6 := hide hz6
  clear h5 u5 h4 u4 hb4 t3
  go_wp2_with fail
  generalize w5.setCell ⟨w3.heap.size, 0, none⟩ (.int .u32 (a : Nat)) = w6 at *
  refine (read_rc h6 8 b _ rfl (by decide) (by have := hq_.out; omega) (by have h9 := t4.out; rwa [show p + 4 + 7 * f = p + 1 + 1 + 1 + (7 * f + 1) by omega] at h9)).mono ?_
  rintro e w7 ⟨rfl, h7, u7⟩
  have hb7 := hb6.out.upd u7 (by simp; omega)
  have z0 : w7.cell? ⟨w3.heap.size, 0, none⟩ = some (.int .u32 (a : Nat)) := hb7.cell 0
  have z1 : w7.cell? ⟨w3.heap.size, 1, none⟩ = some (.int .u32 0) := hb7.cell 1
  have v1 := hb7.frozen 1
  have h8 := h7.move ((Upd.refl [w3.heap.size] w7).setCell (p := ⟨w3.heap.size, 1, none⟩) (.inl (by simp)) (.int .u32 (b : Nat))) (by simp; have := h7.gd_; omega) (by simp; omega) (by simp; omega)
  have u8 : Upd [gd, r] w (w7.setCell ⟨w3.heap.size, 1, none⟩ (.int .u32 (b : Nat))) := (u6.out.trans u7).setCell (p := ⟨w3.heap.size, 1, none⟩) (.inr (by simp; omega)) (.int .u32 (b : Nat))
  have h08 := h0.out.upd u8 (by simp; omega)
  have cB := buildS2_any g size a b ar _ hab hb1 hsz h08 h8.tab (by omega) (by omega)
  replace h8 := hide h8
  replace u8 := hide u8
  replace cB := hide cB
  replace hb7 := hide hb7
  clear h7 u7 h08 h6 u6 hb6 hb5 t4 x0 x1 y0 y1
  go_wp2_with fail
  (with_reducible refine (cB.out).mono ?_)
  rintro e w9 ⟨rfl, nt, hnt, hT, u9⟩
  have hfin : DhtPost Bs gd r base cap A ae au ar q g L w (.returned .nilIface) w9 := by
    refine ⟨rfl, ?_, ⟨nt, Nat.le_trans u8.out.size hnt, by rw [hL.out]; exact hT⟩, (u8.out.wide (S := [gd, r, g]) (fun k hk _ => by simp at hk ⊢; omega)).trans (u9.wide (fun k hk _ => by simp at hk ⊢; omega))⟩
    have h7 := h8.out.move u9 (by simp; omega) (by simp; omega) (by simp; omega)
    rwa [show p + 1 + 1 + 1 + (7 * f + 1) + 8 = q by have := hq_.out; omega] at h7
  replace hfin := hide hfin
  clear hT u9 cB h8 u8
  go_wp2_with fail
  go_ret
  exact hfin.out
end Go.Proofs.YtpiapfahcoopbaaDoor
namespace Go.Proofs.YtpiapfahcoopbaaDoor
set_option linter.unusedSimpArgs false
set_option linter.unusedVariables false
set_option linter.unnecessarySimpa false
open Go.RowKit Plain

/-- The lengths of kinds, as they are read: the first m in the order. -/
def kP (K : List Nat) : Nat → List Nat
  | 0 => List.replicate 19 0
  | m + 1 => (kP K m).set (ord.getD m 0) (K.getD (ord.getD m 0) 0)
theorem kP_len (K : List Nat) (m : Nat) : (kP K m).length = 19 := by
  induction m with
  | zero => simp [kP]
  | succ m ih => simp [kP, ih]
theorem ord_lt : ∀ i, i < 19 → ord.getD i 0 < 19 := by decide
theorem ord_inv : ∀ s, s < 19 → ∃ i, i < 19 ∧ ord.getD i 0 = s := by decide
theorem kP_get (K : List Nat) (m s : Nat) (hm : m ≤ 19) : (kP K m).getD s 0 = 0 ∨ (kP K m).getD s 0 = K.getD s 0 := by
  induction m with
  | zero => exact .inl (getD_zeros _ _)
  | succ m ih =>
    have hl := kP_len K m
    have ho := ord_lt m (by omega)
    unfold kP
    by_cases h : ord.getD m 0 = s
    · rw [← h, List.getD_eq_getElem?_getD, List.getElem?_set_self (by omega)]
      exact .inr rfl
    · rw [List.getD_eq_getElem?_getD, List.getElem?_set_ne h, ← List.getD_eq_getElem?_getD]
      exact ih (by omega)
theorem kP_got (K : List Nat) (m i : Nat) (hm : m ≤ 19) (hi : i < m) : (kP K m).getD (ord.getD i 0) 0 = K.getD (ord.getD i 0) 0 := by
  induction m with
  | zero => omega
  | succ m ih =>
    have hl := kP_len K m
    have ho := ord_lt m (by omega)
    unfold kP
    by_cases h : ord.getD m 0 = ord.getD i 0
    · rw [← h, List.getD_eq_getElem?_getD, List.getElem?_set_self (by omega)]
      rfl
    · rw [List.getD_eq_getElem?_getD, List.getElem?_set_ne h, ← List.getD_eq_getElem?_getD]
      refine ih (by omega) ?_
      rcases Nat.lt_or_ge i m with h1 | h1
      · exact h1
      · rw [show i = m by omega] at h
        exact absurd rfl h
theorem kP_all (K : List Nat) (n : Nat) (hK : K.length = 19) (hn : n ≤ 19) (hz : ∀ i, n ≤ i → i < 19 → K.getD (ord.getD i 0) 0 = 0) : kP K n = K := by
  apply List.ext_getElem
  · rw [kP_len, hK]
  · intro s h1 h2
    have key : (kP K n).getD s 0 = K.getD s 0 := by
      obtain ⟨i, hi, rfl⟩ := ord_inv s (by omega)
      rcases Nat.lt_or_ge i n with h | h
      · exact kP_got K n i hn h
      · have h3 := hz i h hi
        rcases kP_get K n (ord.getD i 0) hn with h4 | h4
        · rw [h4, h3]
        · exact h4
    simpa [h1, h2] using key
theorem info_u32w : (Tryd.prog.info? 59).map (fun i => (i.zero, i.size, i.bytes)) = some (some (Value.int .u32 0), 1, 4) := by kernel_rfl
theorem z19_is : (#[.int .u32 0, .int .u32 0, .int .u32 0, .int .u32 0, .int .u32 0, .int .u32 0, .int .u32 0, .int .u32 0, .int .u32 0, .int .u32 0, .int .u32 0, .int .u32 0, .int .u32 0, .int .u32 0, .int .u32 0, .int .u32 0, .int .u32 0, .int .u32 0, .int .u32 0] : Array Value) = ((ofN' (List.replicate 19 0)).map (Value.int .u32)).toArray := rfl
theorem size_19 : (Tryd.prog.info? 120).map (·.size) = some (#[.int .u32 0, .int .u32 0, .int .u32 0, .int .u32 0, .int .u32 0, .int .u32 0, .int .u32 0, .int .u32 0, .int .u32 0, .int .u32 0, .int .u32 0, .int .u32 0, .int .u32 0, .int .u32 0, .int .u32 0, .int .u32 0, .int .u32 0, .int .u32 0, .int .u32 0] : Array Value).size := by kernel_rfl
theorem one_19 : (#[.int .u32 0, .int .u32 0, .int .u32 0, .int .u32 0, .int .u32 0, .int .u32 0, .int .u32 0, .int .u32 0, .int .u32 0, .int .u32 0, .int .u32 0, .int .u32 0, .int .u32 0, .int .u32 0, .int .u32 0, .int .u32 0, .int .u32 0, .int .u32 0, .int .u32 0] : Array Value).all (·.oneCell') = true := by kernel_rfl
/-- An array of lengths, laid as zero. -/
theorem arr19_var (w : World) : ∃ w3, w3 = (w.alloc (.cells (#[.int .u32 0, .int .u32 0, .int .u32 0, .int .u32 0, .int .u32 0, .int .u32 0, .int .u32 0, .int .u32 0, .int .u32 0, .int .u32 0, .int .u32 0, .int .u32 0, .int .u32 0, .int .u32 0, .int .u32 0, .int .u32 0, .int .u32 0, .int .u32 0, .int .u32 0] : Array Value) 120)).setCells w.heap.size 0 (#[.int .u32 0, .int .u32 0, .int .u32 0, .int .u32 0, .int .u32 0, .int .u32 0, .int .u32 0, .int .u32 0, .int .u32 0, .int .u32 0, .int .u32 0, .int .u32 0, .int .u32 0, .int .u32 0, .int .u32 0, .int .u32 0, .int .u32 0, .int .u32 0, .int .u32 0] : Array Value).toList ∧ (w.alloc (.cells (#[.int .u32 0, .int .u32 0, .int .u32 0, .int .u32 0, .int .u32 0, .int .u32 0, .int .u32 0, .int .u32 0, .int .u32 0, .int .u32 0, .int .u32 0, .int .u32 0, .int .u32 0, .int .u32 0, .int .u32 0, .int .u32 0, .int .u32 0, .int .u32 0, .int .u32 0] : Array Value) 120)).there w.heap.size 0 (#[.int .u32 0, .int .u32 0, .int .u32 0, .int .u32 0, .int .u32 0, .int .u32 0, .int .u32 0, .int .u32 0, .int .u32 0, .int .u32 0, .int .u32 0, .int .u32 0, .int .u32 0, .int .u32 0, .int .u32 0, .int .u32 0, .int .u32 0, .int .u32 0, .int .u32 0] : Array Value).size ∧ Blk w3 w.heap.size 120 ((ofN' (List.replicate 19 0)).map (Value.int .u32)).toArray ∧ Upd [] w w3 := by
  rw [← z19_is]
  generalize (#[.int .u32 0, .int .u32 0, .int .u32 0, .int .u32 0, .int .u32 0, .int .u32 0, .int .u32 0, .int .u32 0, .int .u32 0, .int .u32 0, .int .u32 0, .int .u32 0, .int .u32 0, .int .u32 0, .int .u32 0, .int .u32 0, .int .u32 0, .int .u32 0, .int .u32 0] : Array Value) = Z
  have hb := Blk.new w 120 Z
  have u := upd_setCells (S := [w.heap.size]) (g := w.heap.size) (by simp) Z.toList 0 ((Upd.refl [w.heap.size] w).alloc (.cells Z 120))
  exact ⟨_, rfl, Blk.there hb Z.size (Nat.le_refl _), blk_setCells_same _ 0 (fun j v hv => by rw [Nat.zero_add]; simpa using hv) hb, u.wide (fun k hk hlt => by simp at hk; omega)⟩
set_option maxRecDepth 100000 in
set_option maxHeartbeats 8000000 in
theorem dht_n {Bs : List Nat} {gd r base cap p q size g n p2 M : Nat} {A : Option Addr} {ae au ar : Addr} {w : World} (h : RC Bs gd r base cap A ae au ar p w) (L K : List Nat) (ps : List (Nat × Nat)) (hs : Norm (leN Bs) p q size n p2 M K ps L) (hLk : LenOk 15 size L) (hsz : (size : Int) ≤ 4096) (hq : q ≤ 8 * Bs.length) (h0 : Tree0 w g) (hg : base ≤ g ∧ g ≠ gd ∧ g ≠ r) :
    Calls Tryd.prog 63 #[.pointer (some ⟨gd, 0, none⟩), .pointer (some ⟨g, 0, none⟩), .int .u32 (size : Nat)] w (DhtPost Bs gd r base cap A ae au ar q g L w) := by
  obtain ⟨t0, ⟨n4, n19⟩, t1, kt, k0, kok, cnt, pcs, use, q_, mM, exp⟩ := hs
  have hglt : g < w.heap.size := by obtain ⟨cs, a1, _⟩ := h0.h; exact a1.lt
  have hRlt := h.lt
  have e1 := h.e1
  have e2 := h.e2
  have hp2q := pcP_mono K p2 ps (Nat.zero_le ps.length)
  replace hp2q : p2 ≤ pcP K p2 ps ps.length := hp2q
  have hpp : p + 5 + 3 * n ≤ p2 := by
    rcases cnt with ⟨h, _⟩ | ⟨k, _, h, _⟩ <;> omega
  replace h0 := hide h0
  replace t1 := hide t1
  replace kt := hide kt
  replace k0 := hide k0
  replace kok := hide kok
  replace cnt := hide cnt
  replace pcs := hide pcs
  replace use := hide use
  replace q_ := hide q_
  replace mM := hide mM
  replace exp := hide exp
  replace hLk := hide hLk
  replace hp2q := hide hp2q
  go_enter Tryd.func63, Tryd.ntmps63
  go_wp2_with fail
  refine (read_rc h 1 0 _ rfl (by decide) (by have := q_.out; have := hp2q.out; omega) t0).mono ?_
  rintro e w1 ⟨rfl, h1, u1⟩
  replace u1 := hide u1
  clear h t0
  go_wp2_with fail
  refine (read_rc h1 4 (n - 4) _ rfl (by decide) (by have := q_.out; have := hp2q.out; omega) t1.out).mono ?_
  rintro e w2 ⟨rfl, h2, u2⟩
  have hn4 : ((n - 4 : Nat) : Int) + 4 = (n : Int) := by omega
  have hn4b : ((n - 4 : Nat) : Int) ≤ 15 := by omega
  have hnI : ¬ (19 : Int) < (n : Int) := by omega
  have hnJ : (n : Int) ≤ 19 := by omega
  generalize n - 4 = n' at *
  replace u2 := hide (u1.out.trans u2)
  replace h2 := hide h2
  clear h1 u1 t1
  obtain ⟨w3, hw3, hth, hbC, uC⟩ := arr19_var w2
  replace hth := hide hth
  replace hbC := hide hbC
  replace uC := hide uC
  replace hw3 := hide hw3
  go_upto_region 29 with (first | (refine wpList_store_mid rfl 120 (.tmp 14) (.tmp 88) rfl w2.heap.size 0 (#[.int .u32 0, .int .u32 0, .int .u32 0, .int .u32 0, .int .u32 0, .int .u32 0, .int .u32 0, .int .u32 0, .int .u32 0, .int .u32 0, .int .u32 0, .int .u32 0, .int .u32 0, .int .u32 0, .int .u32 0, .int .u32 0, .int .u32 0, .int .u32 0, .int .u32 0] : Array Value) rfl rfl hth.out size_19 one_19 ?_; rw [← hw3.out]) | fail)
  have hC3 : w2.heap.size < w3.heap.size := hbC.out.lt
  have h3 := h2.out.made uC.out
  have u3 := u2.out.trans (uC.out.wide (S := [gd, r]) (by simp))
  have hz2 := u2.out.size
  have hgd := h2.out.gd_
  have hrr := h2.out.r_
  have hb2 := h2.out.base_
  have e3 := h2.out.e3
  have hne1 : ¬ w2.heap.size = 3 := by omega
  have hne2 : ¬ 3 = w2.heap.size := by omega
  replace h3 := hide h3
  replace u3 := hide u3
  clear u2 uC h2 hth hw3
  generalize w2.heap.size = C at *
  go_wp2_with fail
  go_loopg [15] n (fun k u15 wr => ∃ i : Nat, k + i = n ∧ u15 = .int .u32 (i : Nat) ∧ RC Bs gd r base cap A ae au ar (p + 5 + 3 * i) wr ∧ Blk wr C 120 ((ofN' (kP K i)).map (Value.int .u32)).toArray ∧ Upd [gd, r] w wr ∧ C < wr.heap.size)
  case atStart => exact ⟨0, rfl, rfl, h3.out, hbC.out, u3.out, hC3⟩
  case round =>
    clear h3 hbC u3
    obtain ⟨i, hk, rfl, hr, hb, hu, hCl⟩ := hrel
    cases gk with
    | succ k =>
      have hiI : (i : Int) < (n : Int) := by omega
      have hi19 : (i : Int) < 19 := by omega
      have ho19 := ord_lt i (by omega)
      have g1 := hr.rep.ordr i (by omega)
      have hkp : kP K (i + 1) = (kP K i).set (ord.getD i 0) (K.getD (ord.getD i 0) 0) := rfl
      have hto := kt.out i (by omega)
      have hg : ∀ W, RC Bs gd r base cap A ae au ar (p + 5 + 3 * (i + 1)) W → W.cell? ⟨3, i, none⟩ = some (.int .u8 ((ord.getD i 0 : Nat) : Int)) := fun W hW => hW.rep.ordr i (by omega)
      generalize ord.getD i 0 = o at *
      generalize K.getD o 0 = x at *
      have hoI : (o : Int) < 19 := by omega
      have hkl := kP_len K i
      have hcell : ∀ W, Blk W C 120 ((ofN' (kP K i)).map (Value.int .u32)).toArray → W.cell? ⟨C, o, none⟩ = some (.int .u32 (((kP K i).getD o 0 : Nat) : Int)) := fun W hW => by
        rw [hW.cell o]
        simp [ofN', show o < (kP K i).length by omega]
      generalize hX : (kP K i).getD o 0 = X at *
      have y0 := hcell _ hb
      have y1 := hb.frozen o
      have hset : ∀ W, Blk W C 120 ((ofN' (kP K i)).map (Value.int .u32)).toArray → Blk (W.setCell ⟨C, o, none⟩ (.int .u32 (x : Nat))) C 120 ((ofN' (kP K (i + 1))).map (Value.int .u32)).toArray := fun W hW => by
        have h9 := hW.set_ o (.int .u32 (x : Nat))
        refine h9.to rfl ?_
        rw [hkp]
        simp [ofN', List.map_set]
      have hfit : p + 5 + 3 * i + 3 ≤ 8 * Bs.length := by have := q_.out; have := hp2q.out; omega
      obtain ⟨pi, hpi⟩ : ∃ pi, pi = p + 5 + 3 * i := ⟨_, rfl⟩
      have hpn : p + 5 + 3 * (i + 1) = pi + 3 := by omega
      rw [← hpi] at hr hto hfit
      rw [hpn] at hg
      have cR := hide (fun (W : World) (h : RC Bs gd r base cap A ae au ar pi W) => read_rc h 3 x 3 rfl (by decide) hfit hto)
      have hrd := hr.drew
      have hbd := hb.drew
      replace hr := hide hr
      replace hrd := hide hrd
      replace hb := hide hb
      replace hbd := hide hbd
      replace hu := hide hu
      replace hcell := hide hcell
      replace hset := hide hset
      replace hX := hide hX
      replace hkp := hide hkp
      replace hpi := hide hpi
      replace hpn := hide hpn
      replace hg := hide hg
      replace hto := hide hto
      go_wp2_with fail
      go_region_held3 (fun W => W.cell? ⟨3, i, none⟩ = some (.int .u8 (o : Nat)))
        (first | go_keep | exact hg.out _ h9.out)
        (first | (go_at_call 52; (with_reducible refine (cR.out _ (by first | exact hr.out | exact hrd.out)).mono ?_); rintro e w9 ⟨rfl, h9, u9⟩; have hb9 := (by first | exact hbd.out.upd u9 (by simp; omega) | exact hb.out.upd u9 (by simp; omega) : Blk w9 C 120 ((ofN' (kP K i)).map (Value.int .u32)).toArray); have z0 := hcell.out _ hb9; have z1 := hb9.frozen o; replace h9 := hide h9; replace u9 := hide u9; replace hb9 := hide hb9))
      go_wp2_with fail
      go_roundg k
      case measure => omega
      case rel =>
        have h10 := h9.out.move ((Upd.refl [C] w9).setCell (p := ⟨C, o, none⟩) (.inl (by simp)) (.int .u32 (x : Nat))) (by simp; omega) (by simp; omega) (by simp; omega)
        refine ⟨i + 1, by omega, by go_num, by rw [hpn.out]; exact h10, hset.out _ hb9.out, ?_, ?_⟩
        · exact (hu.out.drew.trans u9.out).setCell (p := ⟨C, o, none⟩) (.inr (by simp; omega)) (.int .u32 (x : Nat))
        · have := u9.out.size
          simp [World.setCell]
          exact Nat.lt_of_lt_of_le hCl this
    | zero =>
      obtain rfl : i = n := by omega
      have hiI : ¬ (i : Int) < (i : Int) := by omega
      rw [kP_all K i kok.out.len n19 k0.out] at hb
      have hbr : base ≤ wr.heap.size := hr.base_
      have hur := hu.size
      replace hr := hide hr
      replace hb := hide hb
      replace hu := hide hu
      go_upto_region 36 with (first | (refine wpList_makeN _ rfl (.tmp 106) (.tmp 106) 69 rfl base 59 .u32 4 Tryd.underlying69 info_u32w .u32 .u32 _ _ size rfl rfl rfl rfl (by omega) (by simp only [maxLen]; omega) hbr ?_; intro w4 ho4 hg4 hz4; replace ho4 := hide ho4; have u4 := hide ((Upd.refl [] wr).grown hg4 (fun g h => by cases h)); replace hg4 := hide hg4) | fail)
      have h4 := hr.out.made u4.out
      have hb4 := hb.out.upd u4.out (by simp)
      have hO4 := ho4.out
      rw [show List.replicate size (0 : Int) = ofN' (List.replicate size 0) from by simp [ofN']] at hO4
      have hKr : Rd .u32 w4 w4.heap.size (some ⟨C, 0, none⟩) (ofN' K) := Rd.ofCells hb4.lt (fun j hj => by
        rw [Nat.zero_add, hb4.cell j]
        have hj' : j < K.length := by simpa [ofN'] using hj
        simp [ofN', hj'])
      have cD := dcl_any (O := wr.heap.size) (K0 := C) h4 K L ps cnt.out kok.out pcs.out exp.out mM.out hLk.out.len hsz use.out (by have := q_.out; omega) hO4 ⟨by have := hr.out.lt; omega, by have := hr.out.lt; omega⟩ hb4.lt hKr
      have u40 := hu.out.trans (u4.out.wide (S := [gd, r]) (by simp))
      replace u40 := hide u40
      replace cD := hide cD
      clear h4 hb4 hO4 hKr hb hr hu hg4 u4 ho4
      generalize wr.heap.size = O at *
      go_wp2_with fail
      (with_reducible refine (cD.out).mono ?_)
      rintro e w5 ⟨rfl, h5, ho5, u5⟩
      have u50 : Upd [gd, r] w w5 := u40.out.step u5 (by intro k hk hlt; simp at hk ⊢; omega)
      have h05 := h0.out.upd u50 (by simp; omega)
      have cB := buildRd_any g (some ⟨O, 0, none⟩) size w5.heap.size size 15 L ar w5 hLk.out (by decide) hsz (Rd.ofOwn ho5) (Nat.le_refl _) (fun a ha => by injection ha with ha; subst ha; show O ≠ g; omega) h05 h5.tab (by omega) (by omega)
      replace u50 := hide u50
      replace h5 := hide h5
      replace cB := hide cB
      clear ho5 u5 h05 cD u40
      go_wp2_with fail
      (with_reducible refine (cB.out).mono ?_)
      rintro e w6 ⟨rfl, nt, hnt, hT, u6⟩
      have hfin : DhtPost Bs gd r base cap A ae au ar q g L w (.returned .nilIface) w6 := by
        refine ⟨rfl, ?_, ⟨nt, Nat.le_trans u50.out.size hnt, hT⟩, (u50.out.wide (S := [gd, r, g]) (fun k hk _ => by simp at hk ⊢; omega)).trans (u6.wide (fun k hk _ => by simp at hk ⊢; omega))⟩
        rw [q_.out]
        exact h5.out.move u6 (by simp; omega) (by simp; omega) (by simp; omega)
      replace hfin := hide hfin
      clear hT u6 cB h5 u50
      go_wp2_with fail
      go_ret
      exact hfin.out
/-- A code that was written is read, in whichever form. -/
theorem dht_any {Bs : List Nat} {gd r base cap p q size g : Nat} {A : Option Addr} {ae au ar : Addr} {w : World} (h : RC Bs gd r base cap A ae au ar p w) (L : List Nat) (hs : PreTold (leN Bs) p q size L) (hLk : LenOk 15 size L) (hsz : (size : Int) ≤ 4096) (hq : q ≤ 8 * Bs.length) (h0 : Tree0 w g) (hg : base ≤ g ∧ g ≠ gd ∧ g ≠ r) :
    Calls Tryd.prog 63 #[.pointer (some ⟨gd, 0, none⟩), .pointer (some ⟨g, 0, none⟩), .int .u32 (size : Nat)] w (DhtPost Bs gd r base cap A ae au ar q g L w) := by
  rcases hs with ⟨a, f, hs⟩ | ⟨a, b, f, hs⟩ | ⟨n, p2, M, K, ps, hs⟩
  · exact dht_s1 h L hs hsz hq h0 hg
  · exact dht_s2 h L hs hsz hq h0 hg
  · exact dht_n h L K ps hs hLk hsz hq h0 hg
end Go.Proofs.YtpiapfahcoopbaaDoor
namespace Go.Proofs.YtpiapfahcoopbaaDoor
set_option linter.unusedSimpArgs false
set_option linter.unusedVariables false
set_option linter.unnecessarySimpa false
open Go.RowKit Plain

/-- Where the m-th symbol begins. -/
def symP (L : List Nat) (p0 : Nat) (l : List Nat) : Nat → Nat
  | 0 => p0
  | m + 1 => symP L p0 l m + symN L (l.getD m 0)
theorem symP_mono (L : List Nat) (p0 : Nat) (l : List Nat) {a b : Nat} (h : a ≤ b) : symP L p0 l a ≤ symP L p0 l b := by
  induction b with
  | zero => obtain rfl : a = 0 := by omega
            exact Nat.le_refl _
  | succ b ih =>
    rcases Nat.lt_or_ge b a with h1 | h1
    · obtain rfl : a = b + 1 := by omega
      exact Nat.le_refl _
    · have := ih h1
      simp only [symP]
      omega
theorem symP_le {L : List Nat} (h : ∀ x ∈ L, x ≤ 15) (p0 : Nat) (l : List Nat) (m : Nat) : symP L p0 l m ≤ p0 + 15 * m := by
  induction m with
  | zero => simp [symP]
  | succ m ih =>
    have h1 := symN_le h (l.getD m 0)
    simp only [symP]
    omega
/-- The first m symbols stand in the bits. -/
def SymsTold (V : Nat) (L : List Nat) (p0 : Nat) (l : List Nat) (m : Nat) : Prop := ∀ j, j < m → SymTold V L (symP L p0 l j) (l.getD j 0)
theorem SymsTold.succ {V : Nat} {L : List Nat} {p0 : Nat} {l : List Nat} {m : Nat} (h : SymsTold V L p0 l m) (h1 : SymTold V L (symP L p0 l m) (l.getD m 0)) : SymsTold V L p0 l (m + 1) := by
  intro j hj
  rcases Nat.lt_or_ge j m with h3 | h3
  · exact h j h3
  · obtain rfl : j = m := by omega
    exact h1
/-- What 'next' reads at a place, and how many bits that takes. -/
def dG (L Bs : List Nat) (s p : Nat) : Nat := if nz L = 1 then s else dec L Bs p
def nG (L Bs : List Nat) (p : Nat) : Nat := if nz L = 1 then 0 else L.getD (dec L Bs p) 0
theorem read_syms {L Bs l : List Nat} {p0 size s : Nat} (hL : LenOk 15 size L) (hl : ∀ x ∈ l, x < size ∧ 1 ≤ L.getD x 0) (hs : nz L = 1 → L.getD s 0 ≠ 0) (ht : SymsTold (leN Bs) L p0 l l.length) : ∀ m, m ≤ l.length → runG (nG L Bs) p0 m = symP L p0 l m ∧ ∀ j, j < m → dG L Bs s (symP L p0 l j) = l.getD j 0 := by
  have key : ∀ j, j < l.length → dG L Bs s (symP L p0 l j) = l.getD j 0 ∧ nG L Bs (symP L p0 l j) = symN L (l.getD j 0) := fun j hj => by
    have hm : l.getD j 0 ∈ l := by
      have e1 : l.getD j 0 = l[j] := by simp [hj]
      rw [e1]
      exact List.getElem_mem _
    obtain ⟨h1, h2⟩ := hl _ hm
    unfold dG nG symN
    by_cases hn : nz L = 1
    · rw [if_pos hn, if_pos hn, if_pos hn]
      exact ⟨nz_one hn (hs hn) (by omega), rfl⟩
    · obtain ⟨hk, _⟩ := hL.kS (by decide) hn
      have hd : dec L Bs (symP L p0 l j) = l.getD j 0 := dec_eq hL.le hk (hit_told hL.le (by omega) hn ⟨by rw [hL.len]; exact h1, by omega⟩ (ht j hj))
      rw [if_neg hn, if_neg hn, if_neg hn, hd]
      exact ⟨rfl, rfl⟩
  intro m
  induction m with
  | zero => exact fun _ => ⟨rfl, fun j hj => by omega⟩
  | succ m ih =>
    intro hm
    obtain ⟨h1, h2⟩ := ih (by omega)
    refine ⟨?_, fun j hj => (key j (by omega)).1⟩
    rw [runG, h1, (key m (by omega)).2]
    rfl
theorem doorTree_any {P : Ending → World → Prop} (d g : Addr) (v : Value) (w : World) (h : Calls Tryd.prog 63 #[.pointer (some d), .pointer (some g), v] w fun e w' => (∃ x, e = .returned x) ∧ P e w') :
    Calls Tryd.prog 48 #[.pointer (some d), .pointer (some g), v] w P := by
  replace h := hide h
  go_enter Tryd.func48, Tryd.ntmps48
  go_wp2_with fail
  (with_reducible refine (h.out).mono ?_)
  rintro e w' ⟨⟨x, rfl⟩, hP⟩
  replace hP := hide hP
  go_wp2
  exact hP.out
theorem next_ok {L Bs : List Nat} {size gd r base cap pos0 g nt : Nat} {A : Option Addr} {ae au ar : Addr} {w : World} (hLk : LenOk 15 size L) (hsz : size ≤ 4096) (h : RC Bs gd r base cap A ae au ar pos0 w) (hT : RdT L w g nt) (hg : g ≠ gd ∧ g ≠ r ∧ nt ≠ gd ∧ nt ≠ r) :
    ∃ s, (nz L = 1 → L.getD s 0 ≠ 0) ∧ (∀ p, dG L Bs s p ≤ 1000000) ∧ NextOK (dG L Bs s) (nG L Bs) Bs g gd r cap A au w := by
  have hln := hLk.len
  have e1 := h.e1
  have h1 := h.gd_
  have h2 := h.r_
  have hS : ∀ k ∈ [gd, r], base ≤ k := fun k hk => by
    simp at hk
    rcases hk with e | e <;> omega
  have hEl := h.ends.lt
  rcases hT.h with ⟨hn, s, lt, hs1, hs2, hO⟩ | ⟨hn, ct, ns, lt, hDn⟩
  · refine ⟨s, fun _ => hs2, fun p => by unfold dG; rw [if_pos hn]; omega, fun i pos nb bt w1 hK hnb hD hU => ?_⟩
    refine (next1_any g nt gd r base cap i pos nb bt s A Bs lt ae au w1 (by omega) (hO.upd hU (by simp; omega) (by simp; omega)) h.oct h.len hK hnb hD (h.rd.upd hU h.base_ hS) (Nat.le_trans h.base_ hU.size) (h.ends.keep fun p hp => hU.cell (by rcases hp with e | e <;> omega) (by simp; rcases hp with e | e <;> omega)) h1 h2 h.ne (by omega) hg).mono ?_
    rintro e w' ⟨i', nb', bt', rfl, q1, q2, q3, q4⟩
    have hd : dG L Bs s pos = s := if_pos hn
    have hnn : nG L Bs pos = 0 := if_pos hn
    refine ⟨fun _ => ⟨i', nb', bt', by rw [hd], by rw [hnn]; exact q1, q2, q3⟩, fun hbad => ?_, q4⟩
    have := hK.nb_
    have := hK.le
    rw [hnn] at hbad
    omega
  · obtain ⟨hk, _⟩ := hLk.kS (by decide) hn
    refine ⟨0, fun h => absurd h hn, fun p => by
      unfold dG
      rw [if_neg hn]
      have := (dec_hit hLk.le hk Bs p).1.lt
      omega, fun i pos nb bt w1 hK hnb hD hU => ?_⟩
    refine (next_any g nt ct gd r base cap i pos nb bt A L Bs ns lt ae au w1 hLk.le hk (by omega) (hDn.upd hU (by simp; omega) (by simp; omega)) h.oct h.len hK hnb hD (h.rd.upd hU h.base_ hS) (Nat.le_trans h.base_ hU.size) (h.ends.keep fun p hp => hU.cell (by rcases hp with e | e <;> omega) (by simp; rcases hp with e | e <;> omega)) h1 h2 h.ne (by omega) hg).mono ?_
    intro e w' hP
    have hd : dG L Bs 0 pos = dec L Bs pos := if_neg hn
    have hnn : nG L Bs pos = L.getD (dec L Bs pos) 0 := if_neg hn
    unfold NextG
    rw [hd, hnn]
    exact hP
/-- All symbols are read as they were written. -/
def PrefPost (l : List Nat) (w : World) (e : Ending) (w' : World) : Prop := ∃ v, e = .returned (.tuple #[v, .int .i64 0]) ∧ w'.ownsRow w.heap.size 3 1 v l.length ((ofN' l).map (Value.int .i64)) ∧ Upd [] w w'
set_option maxRecDepth 100000 in
set_option maxHeartbeats 4000000 in
theorem implPrefix_any (A : Option Addr) (cap size q n : Nat) (L Bs l : List Nat) (ar ae au : Addr) (w : World) (hT : PreTold (leN Bs) 0 q size L) (hLk : LenOk 15 size L) (hsz : (size : Int) ≤ 4096) (hl : ∀ x ∈ l, x < size ∧ 1 ≤ L.getD x 0) (hSy : SymsTold (leN Bs) L q l l.length) (hq : symP L q l l.length ≤ 8 * Bs.length) (hB : Oct Bs) (hlb : (Bs.length : Int) ≤ 1048576) (hn : (l.length : Int) ≤ 4096) (hnl : n = l.length)
    (hS : Rd .u8 w w.heap.size A (ofN' Bs)) (hTab : TabH w ar) (hE : Ends w ae au) (hRep : RepH w) :
    Calls Tryd.prog 25 #[.slice A Bs.length cap, .int .i64 (size : Nat), .int .i64 (n : Nat)] w (PrefPost l w) := by
  have hTl := hTab.lt
  have hEl := hE.lt
  have hRl := hRep.lt
  have u1 := (Upd.refl [] w).alloc (.cells Tryd.zeroCells82 82)
  have h0b := (tree0_new w).upd ((Upd.refl [] _).alloc (.cells #[.slice A Bs.length cap, .int .i64 0, .int .i64 (-1)] 101)) (by simp)
  have h0c := h0b.upd ((Upd.refl [] _).alloc (.cells #[.iface 57 (.pointer (some ⟨w.heap.size + 1, 0, none⟩)), .int .u32 0, .int .u32 0] 99)) (by simp)
  have hR3 := (Blk.new (w.alloc (.cells Tryd.zeroCells82 82)) 101 #[.slice A Bs.length cap, .int .i64 0, .int .i64 (-1)]).alloc (.cells #[.iface 57 (.pointer (some ⟨w.heap.size + 1, 0, none⟩)), .int .u32 0, .int .u32 0] 99)
  have hD3 := Blk.new ((w.alloc (.cells Tryd.zeroCells82 82)).alloc (.cells #[.slice A Bs.length cap, .int .i64 0, .int .i64 (-1)] 101)) 99 #[.iface 57 (.pointer (some ⟨w.heap.size + 1, 0, none⟩)), .int .u32 0, .int .u32 0]
  have u3 := (u1.alloc (.cells #[.slice A Bs.length cap, .int .i64 0, .int .i64 (-1)] 101)).alloc (.cells #[.iface 57 (.pointer (some ⟨w.heap.size + 1, 0, none⟩)), .int .u32 0, .int .u32 0] 99)
  have hz3 : (((w.alloc (.cells Tryd.zeroCells82 82)).alloc (.cells #[.slice A Bs.length cap, .int .i64 0, .int .i64 (-1)] 101)).alloc (.cells #[.iface 57 (.pointer (some ⟨w.heap.size + 1, 0, none⟩)), .int .u32 0, .int .u32 0] 99)).heap.size = w.heap.size + 3 := by simp
  simp only [World.size_alloc] at hD3 hR3
  have hqq := symP_mono L q l (Nat.zero_le l.length)
  replace hqq : q ≤ symP L q l l.length := hqq
  clear h0b u1
  replace hT := hide hT
  replace hLk := hide hLk
  replace hl := hide hl
  replace hSy := hide hSy
  replace hq := hide hq
  replace hqq := hide hqq
  replace hB := hide hB
  replace hS := hide hS
  replace hTab := hide hTab
  replace hE := hide hE
  replace hRep := hide hRep
  replace h0c := hide h0c
  replace hR3 := hide hR3
  replace hD3 := hide hD3
  replace u3 := hide u3
  replace hz3 := hide hz3
  replace hnl := hide hnl
  go_enter Tryd.func25, Tryd.ntmps25
  go_wp2_with (first | (go_at_call 31; refine (newReader_any _ _ _ _).mono ?_; rintro e w' ⟨rfl, rfl⟩) | (go_at_call 30; refine (newBits_any _ _).mono ?_; rintro e w' ⟨rfl, rfl⟩) | fail)
  generalize ((w.alloc (.cells Tryd.zeroCells82 82)).alloc (.cells #[.slice A Bs.length cap, .int .i64 0, .int .i64 (-1)] 101)).alloc (.cells #[.iface 57 (.pointer (some ⟨w.heap.size + 1, 0, none⟩)), .int .u32 0, .int .u32 0] 99) = w3 at *
  have h3 : RC Bs (w.heap.size + 1 + 1) (w.heap.size + 1) w.heap.size cap A ae au ar 0 w3 :=
    ⟨hB.out, by omega, ⟨0, 0, 0, Kept.start Bs, by decide, ⟨hD3.out, -1, hR3.out⟩⟩, hS.out.upd u3.out (Nat.le_refl _) (by simp), hE.out.keep fun p hp => u3.out.cell (by rcases hp with e | e <;> omega) (by simp), hTab.out.upd u3.out (by simp) (by simp), hRep.out.upd u3.out hRl (by simp), u3.out.size, by omega, by omega, by omega, by omega, by omega, hRl⟩
  have cD := dht_any h3 L hT.out hLk.out hsz (Nat.le_trans hqq.out hq.out) h0c.out ⟨Nat.le_refl _, by omega, by omega⟩
  have cT := doorTree_any (P := DhtPost Bs (w.heap.size + 1 + 1) (w.heap.size + 1) w.heap.size cap A ae au ar q w.heap.size L w3) ⟨w.heap.size + 1 + 1, 0, none⟩ ⟨w.heap.size, 0, none⟩ _ w3 (cD.mono fun e w' h => ⟨⟨_, h.1⟩, h⟩)
  replace cT := hide cT
  clear cD h3 hR3 hD3 h0c hT
  (with_reducible refine (cT.out).mono ?_)
  rintro e w5 ⟨rfl, h5, ⟨nt, hnt, hRT⟩, u5⟩
  have u50 : Upd [] w w5 := u3.out.step u5 (by intro k hk hlt; simp at hk; omega)
  obtain ⟨s, hs1, hs2, hOK⟩ := next_ok hLk.out (by omega) h5 hRT ⟨by omega, by omega, by have := hz3.out; omega, by have := hz3.out; omega⟩
  obtain ⟨i5, nb5, bt5, hK5, hnb5, hD5⟩ := h5.dec
  have cS := symbols_any w.heap.size (w.heap.size + 1 + 1) (w.heap.size + 1) cap i5 q nb5 bt5 l.length A (dG L Bs s) (nG L Bs) Bs au w5 hn hs2 hK5 hnb5 hD5 hOK (by omega)
  have hrd := read_syms hLk.out hl.out hs1 hSy.out
  rw [hnl.out]
  replace cS := hide cS
  replace u50 := hide u50
  replace hrd := hide hrd
  clear hs1 hs2 hOK hK5 hD5 h5 hRT u5 cT hnl
  go_wp2_with fail
  (with_reducible refine (cS.out).mono ?_)
  rintro e w6 ⟨m, v, ⟨hm1, hm2, hm3⟩, rfl, ho6, u6⟩
  have hml : m = l.length := by
    rcases hm3 with h | h
    · exact h
    · rcases Nat.lt_or_ge m l.length with h1 | h1
      · rw [(hrd.out (m + 1) h1).1] at h
        exact absurd (Nat.le_trans (symP_mono L q l h1) hq.out) h
      · omega
  subst hml
  have hrs : runSG (dG L Bs s) (nG L Bs) q l.length = ofN' l := by
    unfold runSG ofN'
    apply List.ext_getElem
    · simp
    · intro j h1 h2
      have hj : j < l.length := by simpa using h2
      have e1 := (hrd.out j (by omega)).1
      have e2 := (hrd.out l.length (Nat.le_refl _)).2 j hj
      simp only [List.getElem_map, List.getElem_range]
      rw [e1, e2]
      simp [hj]
  rw [hrs] at ho6
  have hk0 : kindI l.length l.length = 0 := if_pos rfl
  rw [hk0]
  have hfin : PrefPost l w (.returned (.tuple #[v, .int .i64 0])) w6 := ⟨v, rfl, own_down ho6 u50.out.size, u50.out.step u6 (by simp; omega)⟩
  replace hfin := hide hfin
  obtain ⟨A6, c6, rfl⟩ := own_shape ho6
  clear ho6 u6 hrs hk0 hm1 hm2 hm3
  go_wp2_with fail
  go_ret2
  exact hfin.out
end Go.Proofs.YtpiapfahcoopbaaDoor

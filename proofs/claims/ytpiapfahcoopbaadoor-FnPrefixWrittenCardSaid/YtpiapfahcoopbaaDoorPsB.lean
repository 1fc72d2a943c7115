/- Full trees of lengths; kinds of lengths; what a written code tells. -/
import Derived.Test.YtpiapfahcoopbaaDoorPsA
import Derived.Deep.DeepCutAuto
import Derived.Deep.CutBlock
import Derived.Test.YtpiapfahcoopbaaDoorHitPlain
namespace Go.Proofs.YtpiapfahcoopbaaDoor
set_option linter.unusedSimpArgs false
set_option linter.unusedVariables false
open Go.RowKit Plain

/-- How much of a tree of depth 15 lengths fill. -/
def sw (l : List Nat) : Nat := (l.map fun x => 2 ^ (15 - x)).sum
/-- Lengths of a full tree, not deeper than 'most'. -/
structure Full (most : Nat) (l : List Nat) : Prop where
  sum : sw l = 32768
  most : ∀ x ∈ l, x ≤ most
  one : l.length = 1 ∨ ∀ x ∈ l, 1 ≤ x
theorem sw_set (l : List Nat) (k : Nat) (hk : k < l.length) (y : Nat) : sw (l.set k y) + 2 ^ (15 - l.getD k 0) = sw l + 2 ^ (15 - y) := by
  induction l generalizing k with
  | nil => simp at hk
  | cons x l ih =>
    cases k with
    | zero => simp [sw]; omega
    | succ k =>
      have := ih k (by simpa using hk)
      simp [sw] at this ⊢
      omega
theorem sw_append (l : List Nat) (y : Nat) : sw (l ++ [y]) = sw l + 2 ^ (15 - y) := by simp [sw]
theorem Full.start (most : Nat) : Full most [0] := ⟨rfl, by simp, .inl rfl⟩
theorem Full.split {most : Nat} {l : List Nat} (h : Full most l) (hm : most ≤ 15) {k : Nat} (hk : k < l.length) (hx : l.getD k 0 < most) : Full most (l.set k (l.getD k 0 + 1) ++ [l.getD k 0 + 1]) := by
  refine ⟨?_, ?_, .inr ?_⟩
  · have h1 := sw_set l k hk (l.getD k 0 + 1)
    have h2 : 2 ^ (15 - l.getD k 0) = 2 * 2 ^ (15 - (l.getD k 0 + 1)) := by
      rw [show 15 - l.getD k 0 = (15 - (l.getD k 0 + 1)) + 1 by omega, Nat.pow_succ]
      omega
    have h3 := h.sum
    rw [sw_append]
    omega
  · intro x hm2
    rcases List.mem_append.1 hm2 with h1 | h1
    · rcases List.mem_or_eq_of_mem_set h1 with h2 | h2
      · exact h.most x h2
      · omega
    · have : x = l.getD k 0 + 1 := by simpa using h1
      omega
  · intro x hm2
    rcases List.mem_append.1 hm2 with h1 | h1
    · rcases h.one with h4 | h4
      · obtain ⟨y, rfl⟩ := List.length_eq_one_iff.1 h4
        obtain rfl : k = 0 := by simpa using hk
        have : x = y + 1 := by simpa using h1
        omega
      · rcases List.mem_or_eq_of_mem_set h1 with h2 | h2
        · exact h4 x h2
        · omega
    · have : x = l.getD k 0 + 1 := by simpa using h1
      omega
theorem sw_all (l : List Nat) (m : Nat) (h : ∀ x ∈ l, x = m) : sw l = l.length * 2 ^ (15 - m) := by
  induction l with
  | nil => simp [sw]
  | cons x l ih =>
    have h1 := ih (fun y hy => h y (by simp [hy]))
    have h2 := h x (by simp)
    subst h2
    rw [show sw (x :: l) = 2 ^ (15 - x) + sw l from by simp [sw], h1, List.length_cons, Nat.add_mul]
    omega
theorem Full.low {most : Nat} {l : List Nat} (h : Full most l) (hm : most ≤ 15) (hl : l.length < 2 ^ most) : ∃ k, k < l.length ∧ l.getD k 0 < most := by
  by_cases he : ∃ k, k < l.length ∧ l.getD k 0 < most
  · exact he
  · exfalso
    have hall : ∀ x ∈ l, x = most := by
      intro x hx
      obtain ⟨k, hk, rfl⟩ := List.getElem_of_mem hx
      have h1 := h.most _ hx
      rcases Nat.lt_or_ge l[k] most with h2 | h2
      · exact absurd ⟨k, hk, by simpa [hk] using h2⟩ he
      · omega
    have h1 := sw_all l most hall
    have h2 := h.sum
    have h3 : l.length * 2 ^ (15 - most) < 2 ^ most * 2 ^ (15 - most) := Nat.mul_lt_mul_of_pos_right hl (Nat.pow_pos (by decide))
    rw [← Nat.pow_add, show most + (15 - most) = 15 by omega] at h3
    have h4 : (2 : Nat) ^ 15 = 32768 := by decide
    omega
/-- All places from k0 on, round about, are met in as many steps. -/
theorem round_all {m k0 k : Nat} (hk : k < m) (hk0 : k0 < m) : ∃ j, j < m ∧ (k0 + j) % m = k := by
  rcases Nat.lt_or_ge k k0 with h | h
  · exact ⟨m - k0 + k, by omega, by rw [show k0 + (m - k0 + k) = k + m by omega, Nat.add_mod_right]; exact Nat.mod_eq_of_lt hk⟩
  · exact ⟨k - k0, by omega, by rw [show k0 + (k - k0) = k by omega]; exact Nat.mod_eq_of_lt hk⟩
/-- The lengths that are told in the end. -/
def fin (l : List Nat) : List Nat := if l.length = 1 then [1] else l
theorem fin_len (l : List Nat) : (fin l).length = l.length := by
  unfold fin
  by_cases h : l.length = 1
  · rw [if_pos h, h]; rfl
  · rw [if_neg h]
end Go.Proofs.YtpiapfahcoopbaaDoor
namespace Go.Proofs.YtpiapfahcoopbaaDoor
set_option linter.unusedSimpArgs false
set_option linter.unusedVariables false
set_option linter.unnecessarySimpa false
open Go.RowKit Plain

theorem UpdT.setNew {B : Nat} {ts : List TypeId} {w w' : World} (h : UpdT B ts w w') {p : Addr} (hB : B ≤ p.block) (hp : w.heap.size ≤ p.block) (v : Value) : UpdT B ts w (w'.setCell p v) := by
  have u := (Upd.refl [p.block] w').setCell (p := p) (.inl (by simp)) v
  exact ⟨u.os.trans h.os, u.tape.trans h.tape, u.output.trans h.output, Nat.le_trans h.size u.size, fun k hk hlt => (u.block k (Nat.lt_of_lt_of_le hlt h.size) (by simp; omega)).trans (h.low k hk hlt), fun k t cs hb ht => (h.typ k t cs hb ht).upd u (by have := hb.lt; simp; omega)⟩
theorem UpdT.grownNew {B : Nat} {ts : List TypeId} {w w' w'' : World} (h : UpdT B ts w w') {base size n : Nat} {e : TypeId} {v : Value} {xs : List Value} (ho : w'.ownsRow base e size v n xs) (hB : B ≤ base) (hb : w.heap.size ≤ base) (hg : w'.grownBy w'' v.ownBlock) : UpdT B ts w w'' := by
  have u := (Upd.refl v.ownBlock.toList w').grown hg (fun g h => .inl (by rw [h]; simp))
  have hS : ∀ k ∈ v.ownBlock.toList, base ≤ k := fun k hk => (ho.lt k (by simpa using hk)).1
  exact ⟨u.os.trans h.os, u.tape.trans h.tape, u.output.trans h.output, Nat.le_trans h.size u.size, fun k hk hlt => (u.block k (Nat.lt_of_lt_of_le hlt h.size) (fun hm => by have := hS k hm; omega)).trans (h.low k hk hlt), fun k t cs hb2 ht => (h.typ k t cs hb2 ht).upd u (fun hm => by have := hS k hm; have := hb2.lt; omega)⟩
/-- Full lengths in a row of one's own. -/
def SplitPost (B c n most : Nat) (w : World) (e : Ending) (w' : World) : Prop := ∃ (l : List Nat) (v : Value), e = .returned v ∧ Full most l ∧ l.length = n ∧ w'.ownsRow w.heap.size 3 1 v n ((ofN' (fin l)).map (Value.int .i64)) ∧ ChAt w' B c ∧ UpdT B [91] w w'
set_option maxRecDepth 100000 in
set_option maxHeartbeats 8000000 in
theorem splits_any (B c n most : Nat) (w : World) (hC : ChAt w B c) (hB : B ≤ c) (hBw : B ≤ w.heap.size) (h1 : 1 ≤ n) (hn : n ≤ 4096) (hm : most ≤ 15) (hfit : n ≤ 2 ^ most) :
    Calls Tryd.prog 62 #[.pointer (some ⟨c, 0, none⟩), .int .i64 (n : Nat), .int .i64 (most : Nat)] w (SplitPost B c n most w) := by
  have ho0 : (w.alloc (.cells #[.int .i64 0] 3)).ownsRow w.heap.size 3 1 (.slice (some ⟨w.heap.size, 0, none⟩) 1 1) 1 ((ofN' [0]).map (Value.int .i64)) := by
    refine ⟨rfl, .inr ⟨w.heap.size, 1, #[.int .i64 0], rfl, Nat.le_refl _, Blk.new w _ _, ?_⟩⟩
    simp [maxLen, ofN']
  have hu0 := (UpdT.refl B [91] w).alloc (.cells #[.int .i64 0] 3)
  have hC0 := hC.typed ((UpdT.refl B [] w).alloc (.cells #[.int .i64 0] 3)) (by simp) hBw
  have cN := hide (fun (W : World) (m : Nat) (hC : ChAt W B c) (hW : B ≤ W.heap.size) (h1 : 1 ≤ m) (h2 : (m : Int) ≤ 1073741824) => nextc_any B c m W hC hB hW h1 h2)
  clear hC
  replace ho0 := hide ho0
  replace hu0 := hide hu0
  replace hC0 := hide hC0
  have hcS : ∀ W : World, UpdT B [91] w W → w.heap.size ≤ W.heap.size := fun W h => h.size
  go_enter Tryd.func62, Tryd.ntmps62
  go_wp2_with fail
  go_loopg [7] (n - 1) (fun k u7 wr => ∃ (l : List Nat) (A : Option Addr) (c' : Nat), k + l.length = n ∧ 1 ≤ l.length ∧ u7 = .slice A l.length c' ∧ wr.ownsRow w.heap.size 3 1 (.slice A l.length c') l.length ((ofN' l).map (Value.int .i64)) ∧ Full most l ∧ ChAt wr B c ∧ UpdT B [91] w wr)
  case atStart => exact ⟨[0], _, _, by simp; omega, by simp, rfl, ho0.out, Full.start most, hC0.out, hu0.out⟩
  case round =>
    clear ho0 hu0 hC0
    obtain ⟨l, A, c', hk, hl1, rfl, ho, hF, hCr, hu⟩ := hrel
    obtain ⟨m, hmd⟩ : ∃ m, m = l.length := ⟨_, rfl⟩
    obtain ⟨g, rfl, hcl⟩ := own_some ho (by omega)
    rw [← hmd] at hk hl1 ho hcl ⊢
    cases gk with
    | zero =>
      have hmn : ¬ (m : Int) < (n : Int) := by omega
      obtain rfl : m = n := by omega
      have hgl := (ho.lt g rfl).1
      by_cases hone : m = 1
      · subst hone
        obtain ⟨x, rfl⟩ := List.length_eq_one_iff.1 hmd.symm
        have hfz := ho.frozenAt 0
        have hset := own_set (k := .i64) ho 0 1
        have hls : (ofN' [x]).set 0 1 = ofN' (fin [x]) := rfl
        rw [hls] at hset
        have hc0 : wr.cell? ⟨g, 0, none⟩ = some (.int .i64 ((x : Nat) : Int)) := own_cell ho 0 (by omega)
        have hu3 := hu.setNew (p := ⟨g, 0, none⟩) (Nat.le_trans hBw hgl) hgl (.int .i64 1)
        obtain ⟨cs, hcs, _⟩ := own_blk' ho
        have hC3 := hCr.typed ((UpdT.refl B [3] wr).set (g := g) (i := 0) hcs (Nat.le_trans hBw hgl) (by simp) (.int .i64 1)) (by decide) (Nat.le_trans hBw hu.size)
        replace hset := hide hset
        replace hu3 := hide hu3
        replace hC3 := hide hC3
        replace hF := hide hF
        clear ho hcl hu hCr hls hcs hmd hk hl1 hfit hn h1 hmn
        go_wp2_with fail
        go_ret
        exact ⟨[x], _, rfl, hF.out, rfl, hset.out, hC3.out, hu3.out⟩
      · have honeI : ¬ (m : Int) = 1 := by omega
        have hq1 : ((m : Int) == 1) = false := beq_false_of_ne honeI
        have hfin : fin l = l := if_neg (by omega)
        rw [← hfin] at ho
        replace ho := hide ho
        replace hu := hide hu
        replace hCr := hide hCr
        replace hF := hide hF
        replace hmd := hide hmd
        clear hcl
        go_wp2_with fail
        go_ret
        exact ⟨l, _, rfl, hF.out, hmd.out.symm, ho.out, hCr.out, hu.out⟩
    | succ k =>
      have hmn : (m : Int) < (n : Int) := by omega
      obtain ⟨kk, hkk, hlow⟩ := hF.low hm (by omega)
      rw [← hmd] at hkk
      have cN1 := hide (cN.out wr m hCr (Nat.le_trans hBw hu.size) hl1 (by omega))
      replace hF := hide hF
      replace ho := hide ho
      replace hu := hide hu
      replace hcl := hide hcl
      replace hCr := hide hCr
      replace hmd := hide hmd
      replace hlow := hide hlow
      go_wp2_with fail
      (with_reducible refine (cN1.out).mono ?_)
      rintro e w2 ⟨k0, rfl, hk0, hC2, hu2⟩
      clear cN1
      have ho2 := hu2.own ho.out (by simp)
      have hcl2 : ∀ j, j < m → w2.cell? ⟨g, j, none⟩ = some (.int .i64 ((l.getD j 0 : Nat) : Int)) := fun j hj => by
        rw [own_cell ho2 j hj, ofN'_get]
      have hk0N : k0 < m := by omega
      replace hu2 := hide (hu.out.trans hu2)
      replace hC2 := hide hC2
      replace ho2 := hide ho2
      replace hcl2 := hide hcl2
      go_wp2_with fail
      go_loopg [8, 9] m (fun k8 u8 u9 wr => ∃ i : Nat, k8 + i = m ∧ u9 = .int .i64 (i : Nat) ∧ u8 = .int .i64 (((k0 + i) % m : Nat) : Int) ∧ (∀ j, j < i → most ≤ l.getD ((k0 + j) % m) 0) ∧ wr = w2)
      case atStart => exact ⟨0, rfl, rfl, by rw [Nat.add_zero, Nat.mod_eq_of_lt hk0N], fun j hj => by omega, rfl⟩
      case round =>
        obtain ⟨i, hi, rfl, rfl, hall, rfl⟩ := hrel
        cases gk with
        | zero =>
          exfalso
          obtain ⟨j, hj, hje⟩ := round_all hkk hk0N
          have := hall j (by omega)
          rw [hje] at this
          have := hlow.out
          omega
        | succ k9 =>
          have him : (i : Int) < (m : Int) := by omega
          obtain ⟨q, hq⟩ : ∃ q, q = (k0 + i) % m := ⟨_, rfl⟩
          have hqm : q < m := by rw [hq]; exact Nat.mod_lt _ (by omega)
          have hqI : (q : Int) < (m : Int) := by omega
          have hcq := hcl2.out q hqm
          have hstep : (q + 1) % m = (k0 + (i + 1)) % m := by rw [hq, Nat.mod_add_mod, Nat.add_assoc]
          rw [← hq]
          by_cases hge : most ≤ l.getD q 0
          · have hgeI : (most : Int) ≤ ((l.getD q 0 : Nat) : Int) := by omega
            have hm0 : ¬ (m : Int) = 0 := by omega
            have htm : ((q : Int) + 1).tmod (m : Int) = ((((k0 + (i + 1)) % m : Nat)) : Int) := by
              rw [Int.tmod_eq_emod_of_nonneg (by omega), ← hstep, show (q : Int) + 1 = ((q + 1 : Nat) : Int) by omega]
              exact (Int.natCast_emod _ _).symm
            have hall2 : ∀ j, j < i + 1 → most ≤ l.getD ((k0 + j) % m) 0 := fun j hj => by
              rcases Nat.lt_or_ge j i with h' | h'
              · exact hall j h'
              · rw [show j = i by omega, ← hq]; exact hge
            generalize l.getD q 0 = x at *
            replace hall2 := hide hall2
            replace hq := hide hq
            replace hstep := hide hstep
            generalize hq2 : (k0 + (i + 1)) % m = q2 at *
            replace hq2 := hide hq2
            clear hall
            go_wp2_with fail
            go_roundg k9
            case measure => omega
            case rel => exact ⟨i + 1, by omega, by go_num, by rw [hq2.out], hall2.out, rfl⟩
          · have hgeI : ¬ (most : Int) ≤ ((l.getD q 0 : Nat) : Int) := by omega
            have hlt : l.getD q 0 < most := by omega
            have hFs := hF.out.split hm (k := q) (by have := hmd.out; omega) hlt
            have hfz := ho2.out.frozenAt q
            have hset := own_set (k := .i64) ho2.out q (((l.getD q 0 : Nat) : Int) + 1)
            have hls : (ofN' l).set q (((l.getD q 0 : Nat) : Int) + 1) = ofN' (l.set q (l.getD q 0 + 1)) := by
              unfold ofN'
              rw [List.map_set]
              rfl
            rw [hls] at hset
            have hgl := (ho2.out.lt g rfl).1
            have hne2 : ¬ g = c := fun e => by
              subst e
              have := own_ne ho2.out hC2.out.h.choose_spec.choose_spec.choose_spec.choose_spec.choose_spec.1 (by decide)
              exact this rfl
            have hx15 : ((l.getD q 0 : Nat) : Int) ≤ 15 := by omega
            have hlen2 : (l.set q (l.getD q 0 + 1)).length = m := by rw [List.length_set]; exact hmd.out.symm
            have hq2 : (l.set q (l.getD q 0 + 1)).getD q 0 = l.getD q 0 + 1 := by
              have : q < l.length := by have := hmd.out; omega
              simp [this]
            generalize l.getD q 0 = x at *
            have hu3 := hu2.out.setNew (p := ⟨g, q, none⟩) (Nat.le_trans hBw hgl) hgl (.int .i64 ((x : Int) + 1))
            obtain ⟨cs, hcs, _⟩ := own_blk' ho2.out
            have hC3 := hC2.out.typed ((UpdT.refl B [3] wr).set (g := g) (i := q) hcs (Nat.le_trans hBw hgl) (by simp) (.int .i64 ((x : Int) + 1))) (by decide) (Nat.le_trans hBw hu2.out.size)
            obtain ⟨w3, hw3⟩ : ∃ w3, wr.setCell ⟨g, q, none⟩ (.int .i64 ((x : Int) + 1)) = w3 := ⟨_, rfl⟩
            rw [hw3] at hset hu3 hC3
            have hset0 := hset
            have hc3 : w3.cell? ⟨g, q, none⟩ = some (.int .i64 ((x : Int) + 1)) := by
              rw [own_cell hset q hqm, ofN'_get, hq2]
              rfl
            generalize hl2 : l.set q (x + 1) = l2 at *
            have hcap := own_cap' hset
            have hsz3 := hu3.size
            have hap : (ofN' l2).map (Value.int .i64) ++ [.int .i64 ((x : Int) + 1)] = (ofN' (l2 ++ [x + 1])).map (Value.int .i64) := by simp [ofN']
            replace hset := hide hset
            replace hu3 := hide hu3
            replace hC3 := hide hC3
            replace hFs := hide hFs
            replace hq := hide hq
            replace hstep := hide hstep
            replace hq2 := hide hq2
            replace hap := hide hap
            replace hl2 := hide hl2
            replace hls := hide hls
            clear hset0 hall hge hcs
            go_wp2_with (first | (refine wpList_push rfl (.tmp 44) (.tmp 49) 23 rfl w.heap.size 3 (.int .i64 0) 8 Tryd.underlying23 info_int rfl (.slice (some ⟨g, 0, none⟩) m c') m ((ofN' l2).map (Value.int .i64)) rfl hset.out (.int .i64 ((x : Int) + 1)) rfl rfl (by simp only [maxLen]; omega) (by omega) (by omega) ?_; intro v' w4 hown' hg'; obtain ⟨A4, c4, rfl⟩ := own_shape hown'; have hu4 := hide (hu3.out.grownNew hset.out hBw (Nat.le_refl _) hg'); have hC4 := hide (hC3.out.typed ((grown_typed hset.out hg').low' hBw) (by decide) (Nat.le_trans hBw hu3.out.size)); replace hown' := hide hown') | fail)
            go_roundg k
            case measure => omega
            case rel =>
              refine ⟨l2 ++ [x + 1], A4, c4, by simp; omega, by simp, by simp [hlen2], ?_, hFs.out, hC4.out, hu4.out⟩
              rw [← hap.out, List.length_append, hlen2]
              exact hown'.out
end Go.Proofs.YtpiapfahcoopbaaDoor
namespace Go.Proofs.YtpiapfahcoopbaaDoor
set_option linter.unusedSimpArgs false
set_option linter.unusedVariables false
set_option linter.unnecessarySimpa false
open Go.RowKit Plain

/-- The order in which lengths of kinds are written. -/
def ord : List Nat := [17, 18, 0, 1, 2, 3, 4, 5, 16, 6, 7, 8, 9, 10, 11, 12, 13, 14, 15]
set_option maxRecDepth 100000 in
set_option maxHeartbeats 4000000 in
theorem order_any (B : Nat) (w : World) :
    Calls Tryd.prog 61 #[] w fun e w' => ∃ v, e = .returned v ∧ w'.ownsRow w.heap.size 3 1 v 19 ((ofN' ord).map (Value.int .i64)) ∧ UpdT B [] w w' := by
  have hb : (w.alloc (.cells ((ofN' ord).map (Value.int .i64)).toArray 3)).ownsRow w.heap.size 3 1 (.slice (some ⟨w.heap.size, 0, none⟩) 19 19) 19 ((ofN' ord).map (Value.int .i64)) :=
    ⟨rfl, .inr ⟨w.heap.size, 19, _, rfl, Nat.le_refl _, Blk.new w _ _, by decide, by decide, rfl, rfl⟩⟩
  have hu := (UpdT.refl B [] w).alloc (.cells ((ofN' ord).map (Value.int .i64)).toArray 3)
  replace hb := hide hb
  replace hu := hide hu
  go_enter Tryd.func61, Tryd.ntmps61
  go_wp2_with fail
  go_ret
  exact ⟨_, rfl, hb.out, hu.out⟩
/-- The used symbols below m, in order. -/
def usedL (u : List Bool) (m : Nat) : List Nat := (List.range m).filter fun s => u.getD s false
theorem usedL_succ (u : List Bool) (m : Nat) : usedL u (m + 1) = usedL u m ++ if u.getD m false then [m] else [] := by
  unfold usedL
  rw [List.range_succ, List.filter_append, List.filter_cons, List.filter_nil]
theorem usedL_lt (u : List Bool) (m : Nat) : ∀ s ∈ usedL u m, s < m := by
  intro s hs
  have := (List.mem_filter.1 hs).1
  simpa using this
theorem usedL_mem (u : List Bool) (m s : Nat) : s ∈ usedL u m ↔ s < m ∧ u.getD s false = true := by
  unfold usedL
  simp
theorem usedL_nodup (u : List Bool) (m : Nat) : (usedL u m).Nodup := List.nodup_range.filter _
theorem usedL_len (u : List Bool) (m : Nat) : (usedL u m).length ≤ m := by
  unfold usedL
  exact Nat.le_trans (List.length_filter_le _ _) (by simp)
/-- Lengths put at the places l; the others have none. -/
def putL (size : Nat) (l ns : List Nat) : Nat → List Nat
  | 0 => List.replicate size 0
  | i + 1 => (putL size l ns i).set (l.getD i 0) (ns.getD i 0)
theorem putL_len (size : Nat) (l ns : List Nat) (i : Nat) : (putL size l ns i).length = size := by
  induction i with
  | zero => simp [putL]
  | succ i ih => simp [putL, ih]
theorem putL_out (size : Nat) (l ns : List Nat) (i s : Nat) (hs : ∀ j, j < i → l.getD j 0 ≠ s) : (putL size l ns i).getD s 0 = 0 := by
  induction i with
  | zero =>
    unfold putL
    by_cases h : s < size <;> simp [h]
  | succ i ih =>
    have h1 := ih (fun j hj => hs j (by omega))
    have h2 := hs i (by omega)
    unfold putL
    rw [List.getD_eq_getElem?_getD, List.getElem?_set_ne h2, ← List.getD_eq_getElem?_getD]
    exact h1
theorem set_zero_kraft (l : List Nat) (k : Nat) (hk : k < l.length) (hz : l.getD k 0 = 0) (y : Nat) : kraft (l.set k y) = kraft l + ([y].map wgt).sum := by
  induction l generalizing k with
  | nil => simp at hk
  | cons x l ih =>
    cases k with
    | zero =>
      have hx : x = 0 := by simpa using hz
      subst hx
      simp [kraft, wgt]
      omega
    | succ k =>
      have := ih k (by simpa using hk) (by simpa using hz)
      simp [kraft] at this ⊢
      omega
theorem set_zero_nz (l : List Nat) (k : Nat) (hk : k < l.length) (hz : l.getD k 0 = 0) (y : Nat) : nz (l.set k y) = nz l + [y].countP (fun x => x != 0) := by
  induction l generalizing k with
  | nil => simp at hk
  | cons x l ih =>
    cases k with
    | zero =>
      have hx : x = 0 := by simpa using hz
      subst hx
      by_cases h : y = 0 <;> simp [nz, h]
    | succ k =>
      have := ih k (by simpa using hk) (by simpa using hz)
      by_cases h : x = 0 <;> simp [nz, h] at this ⊢ <;> omega
theorem putL_wgt (size : Nat) (l ns : List Nat) (hn : l.Nodup) (hl : ∀ s ∈ l, s < size) (i : Nat) (hi : i ≤ l.length) (hi2 : i ≤ ns.length) : kraft (putL size l ns i) = ((ns.take i).map wgt).sum ∧ nz (putL size l ns i) = (ns.take i).countP (fun x => x != 0) := by
  induction i with
  | zero =>
    constructor
    · unfold putL kraft
      rw [List.map_replicate]
      simp [wgt]
    · unfold putL nz
      simp [List.countP_replicate]
  | succ i ih =>
    have ⟨h1, h2⟩ := ih (by omega) (by omega)
    have hz : (putL size l ns i).getD (l.getD i 0) 0 = 0 := putL_out size l ns i _ (fun j hj e => by
      have e1 : l.getD j 0 = l[j] := by simp [show j < l.length by omega]
      have e2 : l.getD i 0 = l[i] := by simp [show i < l.length by omega]
      rw [e1, e2] at e
      exact (List.pairwise_iff_getElem.1 hn j i (by omega) (by omega) hj) e)
    have hlt : l.getD i 0 < (putL size l ns i).length := by
      rw [putL_len]
      have e2 : l.getD i 0 = l[i] := by simp [show i < l.length by omega]
      rw [e2]
      exact hl _ (List.getElem_mem _)
    have ht : ns.take (i + 1) = ns.take i ++ [ns.getD i 0] := by
      rw [List.take_add_one]
      simp [show i < ns.length by omega]
    rw [ht, List.map_append, List.sum_append, List.countP_append, ← h1, ← h2]
    constructor
    · exact set_zero_kraft _ _ hlt hz _
    · exact set_zero_nz _ _ hlt hz _
end Go.Proofs.YtpiapfahcoopbaaDoor
namespace Go.Proofs.YtpiapfahcoopbaaDoor
set_option linter.unusedSimpArgs false
set_option linter.unusedVariables false
open Go.RowKit Plain

theorem fin_ge (most : Nat) (ns : List Nat) (h : Full most ns) : ∀ x ∈ fin ns, 1 ≤ x := by
  unfold fin
  intro x hx
  by_cases h1 : ns.length = 1
  · rw [if_pos h1] at hx
    have : x = 1 := by simpa using hx
    omega
  · rw [if_neg h1] at hx
    rcases h.one with h2 | h2
    · exact absurd h2 h1
    · exact h2 x hx
theorem fin_le (most : Nat) (ns : List Nat) (h : Full most ns) (hm : 1 ≤ most) : ∀ x ∈ fin ns, x ≤ most := by
  unfold fin
  intro x hx
  by_cases h1 : ns.length = 1
  · rw [if_pos h1] at hx
    have : x = 1 := by simpa using hx
    omega
  · rw [if_neg h1] at hx
    exact h.most x hx
theorem wgt_sum (l : List Nat) (h : ∀ x ∈ l, 1 ≤ x) : (l.map wgt).sum = sw l := by
  induction l with
  | nil => rfl
  | cons x l ih =>
    have h1 := ih (fun y hy => h y (by simp [hy]))
    have h2 := h x (by simp)
    simp [sw] at h1 ⊢
    rw [h1]
    simp [wgt, show x ≠ 0 by omega]
theorem cnt_all (l : List Nat) (h : ∀ x ∈ l, 1 ≤ x) : l.countP (fun x => x != 0) = l.length := by
  rw [List.countP_eq_length]
  intro x hx
  have := h x hx
  simp
  omega
theorem putL_le (size most : Nat) (l ns : List Nat) (h : ∀ x ∈ ns, x ≤ most) (i : Nat) : ∀ x ∈ putL size l ns i, x ≤ most := by
  induction i with
  | zero =>
    intro x hx
    have := (List.mem_replicate.1 hx).2
    omega
  | succ i ih =>
    intro x hx
    rcases List.mem_or_eq_of_mem_set hx with h1 | h1
    · exact ih x h1
    · subst h1
      by_cases h2 : i < ns.length
      · have e : ns.getD i 0 = ns[i] := by simp [h2]
        rw [e]
        exact h _ (List.getElem_mem _)
      · have e : ns.getD i 0 = 0 := by simp [List.getElem?_eq_none (by omega : ns.length ≤ i)]
        omega
/-- What the lengths tell: as many symbols as are used; a whole tree, where these are more than one. -/
theorem lens_law (size most : Nat) (l ns : List Nat) (h : Full most ns) (hm : 1 ≤ most) (hlen : ns.length = l.length) (hn : l.Nodup) (hl : ∀ s ∈ l, s < size) :
    nz (putL size l (fin ns) l.length) = l.length ∧ (2 ≤ l.length → kraft (putL size l (fin ns) l.length) = 32768) ∧ (∀ x ∈ putL size l (fin ns) l.length, x ≤ most) := by
  have hfl := fin_len ns
  have hw := putL_wgt size l (fin ns) hn hl l.length (Nat.le_refl _) (by omega)
  rw [show (fin ns).take l.length = fin ns from List.take_of_length_le (by omega), wgt_sum _ (fin_ge most ns h), cnt_all _ (fin_ge most ns h)] at hw
  refine ⟨by omega, fun h2 => ?_, putL_le _ _ _ _ (fin_le most ns h hm) _⟩
  have : fin ns = ns := if_neg (by omega)
  rw [hw.1, this, h.sum]
theorem putL_in (size : Nat) (l ns : List Nat) (hn : l.Nodup) (hl : ∀ s ∈ l, s < size) (i : Nat) (hi : i ≤ l.length) (j : Nat) (hj : j < i) : (putL size l ns i).getD (l.getD j 0) 0 = ns.getD j 0 := by
  induction i with
  | zero => omega
  | succ i ih =>
    unfold putL
    have e1 : l.getD j 0 = l[j] := by simp [show j < l.length by omega]
    have e2 : l.getD i 0 = l[i] := by simp [show i < l.length by omega]
    rcases Nat.lt_or_ge j i with h | h
    · rw [List.getD_eq_getElem?_getD, List.getElem?_set_ne (by
        rw [e1, e2]
        exact fun e => (List.pairwise_iff_getElem.1 hn j i (by omega) (by omega) h) e.symm), ← List.getD_eq_getElem?_getD]
      exact ih (by omega) h
    · have hji : j = i := by omega
      subst hji
      have hlt : l.getD j 0 < (putL size l ns j).length := by
        rw [putL_len, e1]
        exact hl _ (List.getElem_mem _)
      rw [List.getD_eq_getElem?_getD, List.getElem?_set_self hlt]
      rfl
end Go.Proofs.YtpiapfahcoopbaaDoor
namespace Go.Proofs.YtpiapfahcoopbaaDoor
set_option linter.unusedSimpArgs false
set_option linter.unusedVariables false
set_option linter.unnecessarySimpa false
open Go.RowKit Plain

/-- Truths in a row. -/
def ofB (u : List Bool) : List Value := u.map Value.bool
/-- Lengths of a code, of at least the used symbols. -/
structure LensOf (most : Nat) (u : List Bool) (L : List Nat) : Prop where
  len : L.length = u.length
  le : ∀ x ∈ L, x ≤ most
  full : nz L = 1 ∨ (2 ≤ nz L ∧ kraft L = 32768)
  used : ∀ s, s < u.length → u.getD s false = true → 1 ≤ L.getD s 0
def LenPost (B c most : Nat) (u : List Bool) (w : World) (e : Ending) (w' : World) : Prop := ∃ (L : List Nat) (v : Value), e = .returned v ∧ LensOf most u L ∧ w'.ownsRow w.heap.size 3 1 v u.length ((ofN' L).map (Value.int .i64)) ∧ ChAt w' B c ∧ UpdT B [91] w w'
theorem ownB_cell {w : World} {base : Nat} {e : TypeId} {g n cap : Nat} {u : List Bool} (h : w.ownsRow base e 1 (.slice (some ⟨g, 0, none⟩) n cap) n (ofB u)) (j : Nat) (hj : j < n) : w.cell? ⟨g, j, none⟩ = some (.bool (u.getD j false)) := by
  rw [h.cellAt j (by omega)]
  have hl : u.length = n := by simpa [ofB] using h.1
  simp [ofB, hl, hj]
set_option maxRecDepth 100000 in
set_option maxHeartbeats 8000000 in
theorem lengths_any (B c most base cu : Nat) (u : List Bool) (A : Option Addr) (w : World) (hC : ChAt w B c) (hB : B ≤ c) (hBw : B ≤ w.heap.size) (hU : w.ownsRow base 4 1 (.slice A u.length cu) u.length (ofB u)) (h1 : 1 ≤ u.length) (hn : u.length ≤ 4096) (hm1 : 1 ≤ most) (hm : most ≤ 15) (hfit : u.length ≤ 2 ^ most) :
    Calls Tryd.prog 46 #[.pointer (some ⟨c, 0, none⟩), .slice A u.length cu, .int .i64 (most : Nat)] w (LenPost B c most u w) := by
  obtain ⟨ub, cap, hv, _, _⟩ := hU.form (by omega)
  obtain rfl : A = some ⟨ub, 0, none⟩ := by injection hv
  clear hv
  have hu0 := UpdT.refl B [] w
  go_enter Tryd.func46, Tryd.ntmps46
  go_wp2_with fail
  go_loopg [8, 7] u.length (fun k u8 u7 wr => ∃ (m : Nat) (A' : Option Addr) (c' : Nat), k + m = u.length ∧ u8 = .int .i64 (m : Nat) ∧ u7 = .slice A' (usedL u m).length c' ∧ wr.ownsRow w.heap.size 3 1 (.slice A' (usedL u m).length c') (usedL u m).length ((ofN' (usedL u m)).map (Value.int .i64)) ∧ UpdT B [] w wr)
  case atStart => exact ⟨0, none, 0, rfl, rfl, rfl, ⟨rfl, .inl ⟨rfl, rfl⟩⟩, hu0⟩
  case round =>
    clear hu0
    obtain ⟨m, A', c', hk, rfl, rfl, ho, hu⟩ := hrel
    have hle := usedL_len u m
    cases gk with
    | zero =>
      have hmu : m = u.length := by omega
      have hnd := usedL_nodup u m
      have hlt := usedL_lt u m
      have hme := usedL_mem u m
      have hsz := hu.size
      rw [hmu] at hnd hlt hme ho hle ⊢
      have hCr := hC.typed hu (by simp) hBw
      have huc : UpdT B [91] w wr := hu.more (by simp)
      have hmuI : ¬ (u.length : Int) < (u.length : Int) := by omega
      have cN := hide (nextc_any B c (min u.length 256) wr hCr hB (by omega) (by omega) (by omega))
      have hmin : min (u.length : Int) 256 = ((min u.length 256 : Nat) : Int) := by omega
      generalize usedL u u.length = l at *
      replace ho := hide ho
      replace hu := hide hu
      replace hC := hide hC
      replace hCr := hide hCr
      replace huc := hide huc
      replace hnd := hide hnd
      replace hlt := hide hlt
      replace hme := hide hme
      replace hU := hide hU
      go_upto_if 28 with fail
      go_cut [7] (fun u7 wc => ∃ (l : List Nat) (A2 : Option Addr) (c2 : Nat), u7 = .slice A2 l.length c2 ∧ wc.ownsRow w.heap.size 3 1 (.slice A2 l.length c2) l.length ((ofN' l).map (Value.int .i64)) ∧ 1 ≤ l.length ∧ l.length ≤ u.length ∧ l.Nodup ∧ (∀ s ∈ l, s < u.length) ∧ (∀ s, s < u.length → u.getD s false = true → s ∈ l) ∧ ChAt wc B c ∧ UpdT B [91] w wc)
      case first =>
        by_cases hl0 : l.length = 0
        · have hnil : l = [] := List.length_eq_zero_iff.1 hl0
          subst hnil
          by_cases h256 : u.length ≤ 256
          · have hmv : ((min u.length 256 : Nat) : Int) = (u.length : Int) := by omega
            have cN' := cN.out
            rw [hmv] at cN'
            replace cN' := hide cN'
            clear hmv hmin
            have h256I : (u.length : Int) ≤ 256 := by omega
            go_wp2_with (first | (go_at_call 43; (with_reducible refine (cN'.out).mono ?_); rintro e w1 ⟨x, rfl, hx, hC1, hu1⟩; replace hC1 := hide hC1; replace hu1 := hide hu1) | fail)
            go_meet
            have hxl : x < u.length := by omega
            have hs1 := (huc.out.trans hu1.out).size
            refine ⟨[x], _, _, rfl, ⟨rfl, .inr ⟨w1.heap.size, 1, #[.int .i64 (x : Nat)], rfl, hs1, Blk.new w1 _ _, by simp, by simp [maxLen], rfl, rfl⟩⟩, by simp, by simpa using h1, by simp, by simpa using hxl, fun s hs1 hs2 => ?_, ?_, ?_⟩
            · exact absurd ((hme.out s).2 ⟨hs1, hs2⟩) (by simp)
            · exact hC1.out.typed ((UpdT.refl B [] w1).alloc _) (by simp) (Nat.le_trans hBw hs1)
            · exact (huc.out.trans hu1.out).alloc _
          · have hmv : ((min u.length 256 : Nat) : Int) = 256 := by omega
            have cN' := cN.out
            rw [hmv] at cN'
            replace cN' := hide cN'
            clear hmv hmin
            have h256I : ¬ (u.length : Int) ≤ 256 := by omega
            go_wp2_with (first | (go_at_call 43; (with_reducible refine (cN'.out).mono ?_); rintro e w1 ⟨x, rfl, hx, hC1, hu1⟩; replace hC1 := hide hC1; replace hu1 := hide hu1) | fail)
            go_meet
            have hxl : x < u.length := by omega
            have hs1 := (huc.out.trans hu1.out).size
            refine ⟨[x], _, _, rfl, ⟨rfl, .inr ⟨w1.heap.size, 1, #[.int .i64 (x : Nat)], rfl, hs1, Blk.new w1 _ _, by simp, by simp [maxLen], rfl, rfl⟩⟩, by simp, by simpa using h1, by simp, by simpa using hxl, fun s hs1 hs2 => ?_, ?_, ?_⟩
            · exact absurd ((hme.out s).2 ⟨hs1, hs2⟩) (by simp)
            · exact hC1.out.typed ((UpdT.refl B [] w1).alloc _) (by simp) (Nat.le_trans hBw hs1)
            · exact (huc.out.trans hu1.out).alloc _
        · have hl0I : ¬ (l.length : Int) = 0 := by omega
          have hq0 : ((l.length : Int) == 0) = false := beq_false_of_ne hl0I
          go_wp2_with fail
          go_meet
          exact ⟨l, A', c', rfl, ho.out, by omega, hle, hnd.out, hlt.out, fun s h1 h2 => (hme.out s).2 ⟨h1, h2⟩, hCr.out, huc.out⟩
      case rest =>
        clear ho hu hCr huc hnd hlt hme hC cN hle hsz hmin
        obtain ⟨l, A2, c2, rfl, ho, hl1, hll, hnd, hlt, hme, hCr, hu⟩ := hcut
        obtain ⟨g1, rfl, hcl⟩ := own_some ho (by omega)
        have hg1 := (ho.lt g1 rfl).2
        have hsz := hu.size
        have cS := hide (fun (W : World) (hC : ChAt W B c) (hW : B ≤ W.heap.size) => splits_any B c l.length most W hC hB hW hl1 (by omega) hm (by omega))
        replace ho := hide ho
        replace hu := hide hu
        replace hCr := hide hCr
        replace hnd := hide hnd
        replace hlt := hide hlt
        replace hme := hide hme
        clear hcl
        go_wp2_with (first | (refine wpList_makeN _ rfl (.tmp 36) (.tmp 36) 23 rfl w.heap.size 3 .i64 8 Tryd.underlying23 info_int .i64 .i64 _ _ u.length rfl rfl rfl rfl (by omega) (by simp only [maxLen]; omega) hsz ?_; intro w4 ho4 hg4 hz4; replace ho4 := hide ho4; have hu4' := hide ((Upd.refl [] wc).grown hg4 (fun g h => by cases h)); replace hg4 := hide hg4) | fail)
        have hu4 : UpdT B [] wc w4 := hu4'.out.typed0
        have hC4 := hCr.out.typed hu4 (by simp) (Nat.le_trans hBw hu.out.size)
        have hoL4 := hu4.own ho.out (by simp)
        have hu4w := hu.out.trans (hu4.more (ts' := [91]) (by simp))
        have cS4 := hide (cS.out w4 hC4 (Nat.le_trans hBw hu4w.size))
        replace hu4 := hide hu4
        replace hoL4 := hide hoL4
        replace hu4w := hide hu4w
        (with_reducible refine (cS4.out).mono ?_)
        rintro e w5 ⟨ns, v5, rfl, hF, hnl, hoN, hC5, hu5⟩
        obtain ⟨A5, c5, rfl⟩ := own_shape hoN
        have hfl := fin_len ns
        obtain ⟨g5, rfl, hcl5⟩ := own_some hoN (by omega)
        have hg5 := (hoN.lt g5 rfl).1
        have hO4 := (ho4.out.lt wc.heap.size rfl).2
        have hO1 := (ho4.out.lt wc.heap.size rfl).1
        have hoL5 := hu5.own hoL4.out (by simp)
        have hoO5 := hu5.own ho4.out (by simp)
        have hu5w := hu4w.out.trans hu5
        have hne1 : ¬ g1 = wc.heap.size := by omega
        have hne5 : ¬ g5 = wc.heap.size := by omega
        clear cS4 cS hcl5 ho4 hoL4 hu4 hu4' hC4 hu4w hg4 hu5
        generalize wc.heap.size = O at *
        replace hF := hide hF
        replace hoL5 := hide hoL5
        replace hoO5 := hide hoO5
        replace hoN := hide hoN
        replace hC5 := hide hC5
        replace hu5w := hide hu5w
        go_wp2_with fail
        go_loopg [11] l.length (fun k u11 wr => ∃ i : Nat, k + i = l.length ∧ u11 = .int .i64 (i : Nat) ∧ wr.ownsRow w.heap.size 3 1 (.slice (some ⟨O, 0, none⟩) u.length u.length) u.length ((ofN' (putL u.length l (fin ns) i)).map (Value.int .i64)) ∧ wr.ownsRow w.heap.size 3 1 (.slice (some ⟨g1, 0, none⟩) l.length c2) l.length ((ofN' l).map (Value.int .i64)) ∧ wr.ownsRow w4.heap.size 3 1 (.slice (some ⟨g5, 0, none⟩) l.length c5) l.length ((ofN' (fin ns)).map (Value.int .i64)) ∧ ChAt wr B c ∧ UpdT B [91] w wr)
        case atStart => exact ⟨0, rfl, rfl, by rw [show ofN' (putL u.length l (fin ns) 0) = List.replicate u.length 0 from by simp [ofN', putL]]; exact hoO5.out, hoL5.out, hoN.out, hC5.out, hu5w.out⟩
        case round =>
          clear hoO5 hoL5 hoN hC5 hu5w
          obtain ⟨i, hi, rfl, hoO, hoL, hoN, hCr, hur⟩ := hrel
          cases gk with
          | zero =>
            obtain rfl : i = l.length := by omega
            have hiI : ¬ (l.length : Int) < (l.length : Int) := by omega
            have hlaw := lens_law u.length most l ns hF.out hm1 hnl hnd.out hlt.out
            have hin := fun j hj => putL_in u.length l (fin ns) hnd.out hlt.out l.length (Nat.le_refl _) j hj
            have hfg := fin_ge most ns hF.out
            have hL : LensOf most u (putL u.length l (fin ns) l.length) := by
              refine ⟨putL_len _ _ _ _, hlaw.2.2, ?_, fun s hs hus => ?_⟩
              · rcases Nat.lt_or_ge l.length 2 with h2 | h2
                · exact .inl (by omega)
                · exact .inr ⟨by omega, hlaw.2.1 h2⟩
              · obtain ⟨j, hj, rfl⟩ := List.getElem_of_mem (hme.out s hs hus)
                have e1 : l.getD j 0 = l[j] := by simp [hj]
                have e2 : (fin ns).getD j 0 = (fin ns)[j] := by simp [show j < (fin ns).length by omega]
                rw [← e1, hin j hj, e2]
                exact hfg _ (List.getElem_mem _)
            replace hL := hide hL
            replace hoO := hide hoO
            replace hCr := hide hCr
            replace hur := hide hur
            clear hlaw hin hfg hoL hoN
            go_wp2_with fail
            go_ret
            exact ⟨_, _, rfl, hL.out, hoO.out, hCr.out, hur.out⟩
          | succ k =>
            have hil : i < l.length := by omega
            have hiI : (i : Int) < (l.length : Int) := by omega
            have kl := own_cell hoL i hil
            have kn := own_cell hoN i hil
            rw [ofN'_get] at kl kn
            have hsl : l.getD i 0 < u.length := by
              have e1 : l.getD i 0 = l[i] := by simp [hil]
              rw [e1]
              exact hlt.out _ (List.getElem_mem _)
            have hsI : ((l.getD i 0 : Nat) : Int) < (u.length : Int) := by omega
            have hfz := hoO.frozenAt (l.getD i 0)
            have hcO := own_cell hoO (l.getD i 0) hsl
            generalize hX : (ofN' (putL u.length l (fin ns) i)).getD (l.getD i 0) 0 = X at hcO
            replace hX := hide hX
            have hset := own_set (k := .i64) hoO (l.getD i 0) (((fin ns).getD i 0 : Nat) : Int)
            have hls : (ofN' (putL u.length l (fin ns) i)).set (l.getD i 0) (((fin ns).getD i 0 : Nat) : Int) = ofN' (putL u.length l (fin ns) (i + 1)) := by
              unfold ofN'
              rw [putL, List.map_set]
              rfl
            rw [hls] at hset
            have hL2 := own_set_far hoL (p := ⟨O, l.getD i 0, none⟩) (fun e => hne1 (by injection e)) (.int .i64 (((fin ns).getD i 0 : Nat) : Int))
            have hN2 := own_set_far hoN (p := ⟨O, l.getD i 0, none⟩) (fun e => hne5 (by injection e)) (.int .i64 (((fin ns).getD i 0 : Nat) : Int))
            obtain ⟨cs, hcs, _⟩ := own_blk' hoO
            have hOw := (hoO.lt O rfl).1
            have hC2 := hCr.typed ((UpdT.refl B [3] wr).set (g := O) (i := l.getD i 0) hcs (Nat.le_trans hBw hOw) (by simp) (.int .i64 (((fin ns).getD i 0 : Nat) : Int))) (by decide) (Nat.le_trans hBw hur.size)
            have hu2 := hur.setNew (p := ⟨O, l.getD i 0, none⟩) (Nat.le_trans hBw hOw) hOw (.int .i64 (((fin ns).getD i 0 : Nat) : Int))
            have kl2 : ∀ v, (wr.setCell ⟨O, l.getD i 0, none⟩ v).drew.cell? ⟨g1, i, none⟩ = some (.int .i64 ((l.getD i 0 : Nat) : Int)) := fun v => (World.cell?_setCell_other _ _ _ _ (fun e => by injection e with e1; exact hne1 e1.symm)).trans kl
            have kn2 : ∀ v, (wr.setCell ⟨O, l.getD i 0, none⟩ v).drew.cell? ⟨g5, i, none⟩ = some (.int .i64 (((fin ns).getD i 0 : Nat) : Int)) := fun v => (World.cell?_setCell_other _ _ _ _ (fun e => by injection e with e1; exact hne5 e1.symm)).trans kn
            generalize l.getD i 0 = s at *
            generalize (fin ns).getD i 0 = y at *
            replace hset := hide hset
            replace hL2 := hide hL2
            replace hN2 := hide hN2
            replace hC2 := hide hC2
            replace hu2 := hide hu2
            have hne1' : ¬ O = g1 := fun e => hne1 e.symm
            have hne5' : ¬ O = g5 := fun e => hne5 e.symm
            clear kl2 kn2
            clear hls hoO hoL hoN hCr hur hcs
            go_wp2_with fail
            go_region_held3 (fun W => W.cell? ⟨g1, i, none⟩ = some (.int .i64 (s : Nat)) ∧ W.cell? ⟨g5, i, none⟩ = some (.int .i64 (y : Nat))) (first | go_keep) (fail)
            go_wp2_with fail
            go_roundg k
            case measure => omega
            case rel =>
              exact ⟨i + 1, by omega, by go_num, hset.out, hL2.out, hN2.out, ⟨hC2.out.h⟩, hu2.out.drewN 1⟩
    | succ k =>
      have hmI : (m : Int) < (u.length : Int) := by omega
      have hkx := ownB_cell (hu.own hU (by simp)) m (by omega)
      have hus := usedL_succ u m
      have hsz := hu.size
      cases hb : u.getD m false with
      | false =>
        rw [hb] at hkx hus
        replace hus : usedL u (m + 1) = usedL u m := by rw [hus]; simp
        generalize hl : usedL u m = l at *
        replace ho := hide ho
        replace hu := hide hu
        replace hus := hide hus
        replace hl := hide hl
        replace hU := hide hU
        replace hb := hide hb
        go_wp2_with fail
        go_roundg k
        case measure => omega
        case rel => exact ⟨m + 1, A', c', by omega, by go_num, by rw [hus.out], by rw [hus.out]; exact ho.out, hu.out⟩
      | true =>
        rw [hb] at hkx hus
        replace hus : usedL u (m + 1) = usedL u m ++ [m] := by rw [hus]; simp
        generalize hl : usedL u m = l at *
        have hap : (ofN' l).map (Value.int .i64) ++ [.int .i64 (m : Nat)] = (ofN' (l ++ [m])).map (Value.int .i64) := by simp [ofN']
        replace ho := hide ho
        replace hu := hide hu
        replace hus := hide hus
        replace hl := hide hl
        replace hU := hide hU
        replace hb := hide hb
        replace hap := hide hap
        go_wp2_with (first | (refine wpList_push rfl (.tmp 22) (.tmp 24) 23 rfl w.heap.size 3 (.int .i64 0) 8 Tryd.underlying23 info_int rfl (.slice A' l.length c') l.length ((ofN' l).map (Value.int .i64)) rfl ho.out (.int .i64 (m : Nat)) rfl rfl (by simp only [maxLen]; omega) (by omega) (by omega) ?_; intro v' w4 hown' hg'; obtain ⟨A4, c4, rfl⟩ := own_shape hown'; have hu4 := hide (hu.out.grownNew ho.out hBw (Nat.le_refl _) hg'); replace hown' := hide hown') | fail)
        go_roundg k
        case measure => omega
        case rel =>
          refine ⟨m + 1, A4, c4, by omega, by go_num, by rw [hus.out, List.length_append]; rfl, ?_, hu4.out⟩
          rw [hus.out, ← hap.out, List.length_append]
          exact hown'.out
end Go.Proofs.YtpiapfahcoopbaaDoor
namespace Go.Proofs.YtpiapfahcoopbaaDoor
set_option linter.unusedSimpArgs false
set_option linter.unusedVariables false
open Go.RowKit Plain

/-- How many bits stand behind a kind. -/
def pBits (k : Nat) : Nat := if k < 16 then 0 else if k = 16 then 2 else if k = 17 then 3 else 7
/-- What a kind with its number stands for, by the last length that was not 0. -/
def expand1 (before k e : Nat) : List Nat := if k < 16 then [k] else if k = 16 then List.replicate (e + 3) before else if k = 17 then List.replicate (e + 3) 0 else List.replicate (e + 11) 0
def afterB (before k : Nat) : Nat := if k < 16 ∧ k ≠ 0 then k else before
def lastB (before : Nat) : List (Nat × Nat) → Nat
  | [] => before
  | p :: ps => lastB (afterB before p.1) ps
def expandP (before : Nat) : List (Nat × Nat) → List Nat
  | [] => []
  | p :: ps => expand1 before p.1 p.2 ++ expandP (afterB before p.1) ps
theorem lastB_append (ps : List (Nat × Nat)) (p : Nat × Nat) : ∀ b, lastB b (ps ++ [p]) = afterB (lastB b ps) p.1 := by
  induction ps with
  | nil => intro b; rfl
  | cons q ps ih => intro b; simp [lastB, ih]
theorem expandP_append (ps : List (Nat × Nat)) (p : Nat × Nat) : ∀ b, expandP b (ps ++ [p]) = expandP b ps ++ expand1 (lastB b ps) p.1 p.2 := by
  induction ps with
  | nil => intro b; simp [expandP, lastB]
  | cons q ps ih => intro b; simp [expandP, lastB, ih]
/-- A piece that may be written. -/
def PieceOk (p : Nat × Nat) : Prop := p.1 ≤ 18 ∧ p.2 < 2 ^ pBits p.1
theorem expand1_pos (b k e : Nat) : 1 ≤ (expand1 b k e).length := by
  unfold expand1
  by_cases h1 : k < 16
  · simp [h1]
  · by_cases h2 : k = 16
    · simp [h1, h2]
    · by_cases h3 : k = 17
      · simp [h1, h2, h3]
      · simp [h1, h2, h3]
theorem expandP_len (ps : List (Nat × Nat)) : ∀ b, ps.length ≤ (expandP b ps).length := by
  induction ps with
  | nil => intro b; simp
  | cons p ps ih =>
    intro b
    have h1 := ih (afterB b p.1)
    have h2 := expand1_pos b p.1 p.2
    simp only [expandP, List.length_append, List.length_cons]
    omega
/-- Equal numbers that stand in a list. -/
theorem take_run (l : List Nat) (at_ n x : Nat) (hn : at_ + n ≤ l.length) (h : ∀ j, j < n → l.getD (at_ + j) 0 = x) : l.take (at_ + n) = l.take at_ ++ List.replicate n x := by
  induction n with
  | zero => simp
  | succ n ih =>
    have h1 := ih (by omega) (fun j hj => h j (by omega))
    have h2 := h n (by omega)
    rw [← Nat.add_assoc, List.take_add_one, h1, List.replicate_succ', List.append_assoc]
    congr 2
    have h3 : at_ + n < l.length := by omega
    simp [h3] at h2 ⊢
    exact h2
end Go.Proofs.YtpiapfahcoopbaaDoor
namespace Go.Proofs.YtpiapfahcoopbaaDoor
set_option linter.unusedSimpArgs false
set_option linter.unusedVariables false
open Go.RowKit Plain

theorem WrAt.lt {w : World} {g base len val : Nat} (h : WrAt w g base len val) : val < 2 ^ len := by
  obtain ⟨_, _, _, _, _, h⟩ := h.h
  exact h.lt
/-- What is written from one place to another tells P, whatever is written later. -/
structure Wrote (len val len' val' : Nat) (P : Nat → Prop) : Prop where
  ext : Ext len val len' val'
  told : ∀ n V, Ext len' val' n V → P V
namespace Wrote
variable {len val len1 val1 len2 val2 : Nat} {P Q : Nat → Prop}
theorem refl (len val : Nat) (P : Nat → Prop) (h : ∀ V, P V) : Wrote len val len val P := ⟨Ext.refl _ _, fun _ V _ => h V⟩
theorem and (h : Wrote len val len1 val1 P) (h' : Wrote len1 val1 len2 val2 Q) : Wrote len val len2 val2 (fun V => P V ∧ Q V) :=
  ⟨h.ext.trans h'.ext, fun n V he => ⟨h.told n V (h'.ext.trans he), h'.told n V he⟩⟩
theorem mono (h : Wrote len val len1 val1 P) (hPQ : ∀ V, P V → Q V) : Wrote len val len1 val1 Q := ⟨h.ext, fun n V he => hPQ V (h.told n V he)⟩
theorem put (v n : Nat) (hv : val < 2 ^ len) : Wrote len val (len + n) (putV len val v n) (fun V => Told V len n (v % 2 ^ n)) := ⟨Ext.put _ _ _ _, fun _ _ he => told_put hv he⟩
theorem put' (v n : Nat) (hv : val < 2 ^ len) (hn : v < 2 ^ n) : Wrote len val (len + n) (putV len val v n) (fun V => Told V len n v) := (put v n hv).mono fun V h => by rwa [Nat.mod_eq_of_lt hn] at h
end Wrote
/-- The symbol s, by the code of K, stands at p. -/
def SymTold (V : Nat) (K : List Nat) (p s : Nat) : Prop := Told V p (symN K s) (symV K s)
theorem symV_lt (K : List Nat) (s : Nat) : symV K s < 2 ^ symN K s := by
  unfold symV symN
  by_cases h : nz K = 1
  · simp [h]
  · rw [if_neg h, if_neg h]
    exact revN_lt _ _
theorem symN_le {K : List Nat} {m : Nat} (h : ∀ x ∈ K, x ≤ m) (s : Nat) : symN K s ≤ m := by
  unfold symN
  by_cases h1 : nz K = 1
  · simp [h1]
  · rw [if_neg h1]
    by_cases h2 : s < K.length
    · have e : K.getD s 0 = K[s] := by simp [h2]
      rw [e]
      exact h _ (List.getElem_mem _)
    · simp [List.getElem?_eq_none (Nat.le_of_not_lt h2)]
theorem pBits_le (k : Nat) : pBits k ≤ 7 := by
  unfold pBits
  repeat' split
  all_goals omega
/-- Where the m-th piece begins. -/
def pcP (K : List Nat) (p0 : Nat) (ps : List (Nat × Nat)) : Nat → Nat
  | 0 => p0
  | m + 1 => pcP K p0 ps m + symN K (ps.getD m (0, 0)).1 + pBits (ps.getD m (0, 0)).1
theorem pcP_le {K : List Nat} (h : ∀ x ∈ K, x ≤ 7) (p0 : Nat) (ps : List (Nat × Nat)) (m : Nat) : pcP K p0 ps m ≤ p0 + 14 * m := by
  induction m with
  | zero => simp [pcP]
  | succ m ih =>
    have h1 := symN_le h (ps.getD m (0, 0)).1
    have h2 := pBits_le (ps.getD m (0, 0)).1
    simp only [pcP]
    omega
theorem pcP_mono (K : List Nat) (p0 : Nat) (ps : List (Nat × Nat)) {a b : Nat} (h : a ≤ b) : pcP K p0 ps a ≤ pcP K p0 ps b := by
  induction b with
  | zero => obtain rfl : a = 0 := by omega
            exact Nat.le_refl _
  | succ b ih =>
    rcases Nat.lt_or_ge b a with h1 | h1
    · obtain rfl : a = b + 1 := by omega
      exact Nat.le_refl _
    · have := ih h1
      simp only [pcP]
      omega
/-- The first m pieces stand in the bits. -/
def PcsTold (V : Nat) (K : List Nat) (p0 : Nat) (ps : List (Nat × Nat)) (m : Nat) : Prop := ∀ j, j < m → SymTold V K (pcP K p0 ps j) (ps.getD j (0, 0)).1 ∧ Told V (pcP K p0 ps j + symN K (ps.getD j (0, 0)).1) (pBits (ps.getD j (0, 0)).1) (ps.getD j (0, 0)).2
theorem PcsTold.succ {V : Nat} {K : List Nat} {p0 : Nat} {ps : List (Nat × Nat)} {m : Nat} (h : PcsTold V K p0 ps m) (h1 : SymTold V K (pcP K p0 ps m) (ps.getD m (0, 0)).1) (h2 : Told V (pcP K p0 ps m + symN K (ps.getD m (0, 0)).1) (pBits (ps.getD m (0, 0)).1) (ps.getD m (0, 0)).2) : PcsTold V K p0 ps (m + 1) := by
  intro j hj
  rcases Nat.lt_or_ge j m with h3 | h3
  · exact h j h3
  · obtain rfl : j = m := by omega
    exact ⟨h1, h2⟩
/-- Lengths of a code of one symbol, or of a full tree. -/
structure LenOk (most size : Nat) (L : List Nat) : Prop where
  len : L.length = size
  le : ∀ x ∈ L, x ≤ most
  full : nz L = 1 ∨ (2 ≤ nz L ∧ kraft L = 32768)
theorem LensOf.ok {most : Nat} {u : List Bool} {L : List Nat} (h : LensOf most u L) : LenOk most u.length L := ⟨h.len, h.le, h.full⟩
/-- The lengths of kinds, by their order. -/
def KTold (V : Nat) (K : List Nat) (p m : Nat) : Prop := ∀ i, i < m → Told V (p + 3 * i) 3 (K.getD (ord.getD i 0) 0)
theorem KTold.succ {V : Nat} {K : List Nat} {p m : Nat} (h : KTold V K p m) (h1 : Told V (p + 3 * m) 3 (K.getD (ord.getD m 0) 0)) : KTold V K p (m + 1) := by
  intro i hi
  rcases Nat.lt_or_ge i m with h3 | h3
  · exact h i h3
  · obtain rfl : i = m := by omega
    exact h1
/-- How many pieces one reads at most, told or not; p to q. -/
def CntTold (V p q size n M : Nat) : Prop := (q = p + 1 ∧ Told V p 1 0 ∧ M = size) ∨ (∃ k, k ≤ 7 ∧ q = p + 6 + 2 * k ∧ Told V p 1 1 ∧ Told V (p + 1) 3 k ∧ Told V (p + 4) (2 + 2 * k) (n - 2) ∧ 2 ≤ n ∧ M = n)
/-- The short form of one symbol, and of two. -/
structure Simp1 (V p q size a f : Nat) (L : List Nat) : Prop where
  t0 : Told V p 1 1
  t1 : Told V (p + 1) 1 0
  t2 : Told V (p + 2) 1 f
  t3 : Told V (p + 3) (7 * f + 1) a
  f1 : f ≤ 1
  a_ : a < size ∧ a < 256
  q_ : q = p + 4 + 7 * f
  L_ : L = (List.replicate size 0).set a 1
structure Simp2 (V p q size a b f : Nat) (L : List Nat) : Prop where
  t0 : Told V p 1 1
  t1 : Told V (p + 1) 1 1
  t2 : Told V (p + 2) 1 f
  t3 : Told V (p + 3) (7 * f + 1) a
  t4 : Told V (p + 4 + 7 * f) 8 b
  f1 : f ≤ 1
  ab : a < b ∧ b < size ∧ b < 256
  q_ : q = p + 12 + 7 * f
  L_ : L = ((List.replicate size 0).set a 1).set b 1
/-- The long form: K the lengths of kinds, n of them told; ps the pieces. -/
structure Norm (V p q size n p2 M : Nat) (K : List Nat) (ps : List (Nat × Nat)) (L : List Nat) : Prop where
  t0 : Told V p 1 0
  n4 : 4 ≤ n ∧ n ≤ 19
  t1 : Told V (p + 1) 4 (n - 4)
  kt : KTold V K (p + 5) n
  k0 : ∀ i, n ≤ i → i < 19 → K.getD (ord.getD i 0) 0 = 0
  kok : LenOk 7 19 K
  cnt : CntTold V (p + 5 + 3 * n) p2 size ps.length M
  pcs : PcsTold V K p2 ps ps.length
  use : ∀ x ∈ ps, PieceOk x ∧ 1 ≤ K.getD x.1 0
  q_ : q = pcP K p2 ps ps.length
  mM : ps.length ≤ M ∧ M ≤ size
  exp : ∃ z, expandP 8 ps ++ List.replicate z 0 = L ∧ (z = 0 ∨ M = ps.length)
/-- A code stands in the bits from p to q. -/
def PreTold (V p q size : Nat) (L : List Nat) : Prop := (∃ a f, Simp1 V p q size a f L) ∨ (∃ a b f, Simp2 V p q size a b f L) ∨ (∃ n p2 M K ps, Norm V p q size n p2 M K ps L)
end Go.Proofs.YtpiapfahcoopbaaDoor
namespace Go.Proofs.YtpiapfahcoopbaaDoor
set_option linter.unusedSimpArgs false
set_option linter.unusedVariables false
open Go.RowKit Plain

theorem revN_bit (x n j : Nat) (hj : j < n) : revN x n / 2 ^ j % 2 = x / 2 ^ (n - 1 - j) % 2 := by
  have h := revN_div' x (show n - j ≤ n by omega)
  rw [show n - (n - j) = j by omega] at h
  rw [h, show n - j = (n - 1 - j) + 1 by omega, revN, Nat.mul_add_mod]
  exact Nat.mod_mod _ _
theorem revN_twice (x n : Nat) : ∀ k, k ≤ n → revN (revN x n) k = x % 2 ^ n / 2 ^ (n - k)
  | 0, _ => by
    rw [Nat.sub_zero, Nat.div_eq_of_lt (Nat.mod_lt _ (Nat.pow_pos (by decide)))]
    rfl
  | k + 1, h => by
    have ih := revN_twice x n k (by omega)
    have hb := bit_mod x (show n - 1 - k < n by omega)
    rw [revN, ih, revN_bit x n k (by omega), ← hb]
    have e : 2 ^ (n - k) = 2 ^ (n - 1 - k) * 2 := by rw [← Nat.pow_succ]; congr 1; omega
    rw [e, ← Nat.div_div_eq_div_mul, show n - (k + 1) = n - 1 - k by omega]
    omega
theorem revN_whole (x n : Nat) : revN (revN x n) n = x % 2 ^ n := by
  have := revN_twice x n n (Nat.le_refl _)
  simpa using this
/-- The symbol that was written is the one that is read. -/
theorem hit_told {K Bs : List Nat} {pos s : Nat} (hL : ∀ x ∈ K, x ≤ 15) (hk : kS K 15 ≤ 32768) (hn : nz K ≠ 1) (hU : Used K s) (ht : SymTold (leN Bs) K pos s) : Hit K Bs pos s := by
  refine ⟨hU, ?_⟩
  unfold SymTold symN symV Told at ht
  rw [if_neg hn, if_neg hn] at ht
  unfold vN
  have h1 := revN_mod (leN Bs / 2 ^ pos) (K.getD s 0) (K.getD s 0) (Nat.le_refl _)
  rw [ht, revN_whole, Nat.mod_eq_of_lt (code_lt hL hk hU)] at h1
  exact h1.symm
theorem nz_cons (x : Nat) (l : List Nat) : nz (x :: l) = nz l + if x = 0 then 0 else 1 := by
  unfold nz
  rw [List.countP_cons]
  by_cases h : x = 0
  · simp [h]
  · simp [h]
theorem nz_pos {l : List Nat} {s : Nat} (h : l.getD s 0 ≠ 0) : 1 ≤ nz l := by
  induction l generalizing s with
  | nil => simp at h
  | cons x l ih =>
    rw [nz_cons]
    cases s with
    | zero => simp at h; simp [h]
    | succ s => have := ih (s := s) (by simpa using h); omega
/-- One symbol alone. -/
theorem nz_one {l : List Nat} (h1 : nz l = 1) {s t : Nat} (hs : l.getD s 0 ≠ 0) (ht : l.getD t 0 ≠ 0) : s = t := by
  induction l generalizing s t with
  | nil => simp at hs
  | cons x l ih =>
    rw [nz_cons] at h1
    cases s with
    | zero =>
      cases t with
      | zero => rfl
      | succ t =>
        have := nz_pos (l := l) (s := t) (by simpa using ht)
        simp at hs
        rw [if_neg hs] at h1
        omega
    | succ s =>
      have hp := nz_pos (l := l) (s := s) (by simpa using hs)
      cases t with
      | zero =>
        simp at ht
        rw [if_neg ht] at h1
        omega
      | succ t =>
        have hx : nz l = 1 := by
          by_cases h0 : x = 0
          · rw [if_pos h0] at h1; omega
          · rw [if_neg h0] at h1; omega
        have := ih hx (s := s) (t := t) (by simpa using hs) (by simpa using ht)
        omega
theorem nz_ex {l : List Nat} (h1 : 1 ≤ nz l) : ∃ s, s < l.length ∧ l.getD s 0 ≠ 0 := by
  unfold nz at h1
  obtain ⟨x, hx, h⟩ := List.countP_pos_iff.1 h1
  obtain ⟨s, hs, rfl⟩ := List.getElem_of_mem hx
  exact ⟨s, hs, by simpa [hs] using h⟩
theorem set_nz (l : List Nat) (k : Nat) (hk : k < l.length) (y : Nat) (hy : y ≠ 0) (hz : l.getD k 0 = 0) : nz (l.set k y) = nz l + 1 := by
  rw [set_zero_nz l k hk hz]
  simp [hy]
theorem nz_zeros (n : Nat) : nz (List.replicate n 0) = 0 := by
  unfold nz
  rw [List.countP_eq_zero]
  intro x hx
  simp [(List.mem_replicate.1 hx).2]
theorem kraft_zeros (n : Nat) : kraft (List.replicate n 0) = 0 := by
  unfold kraft
  induction n with
  | zero => rfl
  | succ n ih => rw [List.replicate_succ, List.map_cons, List.sum_cons, ih]; rfl
theorem getD_zeros (n k : Nat) : (List.replicate n 0).getD k 0 = 0 := by
  by_cases h : k < n
  · simp [h]
  · simp [h]
/-- The lengths of a short form. -/
theorem len_one (size a : Nat) (ha : a < size) : LenOk 15 size ((List.replicate size 0).set a 1) ∧ nz ((List.replicate size 0).set a 1) = 1 := by
  have h1 := set_nz (List.replicate size 0) a (by simpa using ha) 1 (by decide) (getD_zeros _ _)
  rw [nz_zeros] at h1
  refine ⟨⟨by simp, fun x hx => ?_, .inl h1⟩, h1⟩
  rcases List.mem_or_eq_of_mem_set hx with h | h
  · have := (List.mem_replicate.1 h).2
    omega
  · omega
theorem len_two (size a b : Nat) (hab : a < b) (hb : b < size) : LenOk 15 size (((List.replicate size 0).set a 1).set b 1) ∧ nz (((List.replicate size 0).set a 1).set b 1) = 2 := by
  have h1 := (len_one size a (by omega)).2
  have hz : ((List.replicate size 0).set a 1).getD b 0 = 0 := by
    rw [List.getD_eq_getElem?_getD, List.getElem?_set_ne (by omega), ← List.getD_eq_getElem?_getD]
    exact getD_zeros _ _
  have h2 := set_nz ((List.replicate size 0).set a 1) b (by simpa using hb) 1 (by decide) hz
  have hk1 := set_zero_kraft (List.replicate size 0) a (by simp; omega) (getD_zeros _ _) 1
  have hk2 := set_zero_kraft ((List.replicate size 0).set a 1) b (by simpa using hb) hz 1
  rw [kraft_zeros] at hk1
  have hw : ([1].map wgt).sum = 16384 := rfl
  rw [hw] at hk1 hk2
  refine ⟨⟨by simp, fun x hx => ?_, .inr ⟨by omega, by omega⟩⟩, by omega⟩
  rcases List.mem_or_eq_of_mem_set hx with h | h
  · rcases List.mem_or_eq_of_mem_set h with h | h
    · have := (List.mem_replicate.1 h).2
      omega
    · omega
  · omega
theorem LenOk.kS {most size : Nat} {L : List Nat} (h : LenOk most size L) (hm : most ≤ 15) (hn : nz L ≠ 1) : kS L 15 = 32768 ∧ 2 ≤ nz L := by
  rcases h.full with h1 | ⟨h1, h2⟩
  · exact absurd h1 hn
  · exact ⟨by rw [kS_eq L (fun x hx => Nat.le_trans (h.le x hx) hm)]; exact h2, h1⟩
theorem LenOk.le15 {most size : Nat} {L : List Nat} (h : LenOk most size L) (hm : most ≤ 15) : ∀ x ∈ L, x ≤ 15 := fun x hx => Nat.le_trans (h.le x hx) hm
end Go.Proofs.YtpiapfahcoopbaaDoor

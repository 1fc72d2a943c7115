/- 'io.ReadAtLeast' and 'io.ReadFull', over the pieces: the walks. -/
import Derived.Test.YthkpoidnhgcjhaaDoorRfFullDef
namespace Go.Proofs.YthkpoidnhgcjhaaDoor
set_option linter.unusedSimpArgs false
set_option linter.unusedVariables false
open Go.RowKit Plain

set_option maxRecDepth 100000 in
set_option maxHeartbeats 4000000 in
theorem rffullaL (B p d off m capd T : Nat) (cl : List Int) (bs : List Nat) (td : TypeId) (cs : Array Value) (ae au : Addr) (w : World) (hv : Env B cl (T + m + 1)) (hC : Chain w B p cl ([] : List Lv) bs T) (hl : (bs.length : Int) ≤ 2147483647)
    (hm0 : 1 ≤ m) (hm : (m : Int) ≤ 2147483647) (hd : Blk w d td cs) (hfit : off + m ≤ cs.size) (hLc : m ≤ capd) (hcI : (capd : Int) ≤ 9223372036854775807) (hda : d ∉ allOf p ([] : List Lv)) (hdB : B ≤ d) (hBw : B ≤ w.heap.size)
    (hE : w.cell? ⟨0, 0, none⟩ = some (.iface 122 (.pointer (some ae)))) (hU : w.cell? ⟨1, 0, none⟩ = some (.iface 122 (.pointer (some au)))) (hUB : 1 < B) :
    Calls Tryd.prog 35 #[.iface 60 (.pointer (some ⟨p, 0, none⟩)), .slice (some ⟨d, off, none⟩) m capd, .int .i64 m] w (FullPost (str ([] : List Lv) bs) m d off td cs (d :: zsOf p ([] : List Lv)) (fun n w' => Chain w' B p cl (adv n ([] : List Lv)) (bs.drop n) (T + m + 1)) ae au w) := by
  have NA := na_pieces
  have ME := me_pieces
  have qE := eql_es ae
  have hge : 0 ∉ d :: zsOf p ([] : List Lv) := by
    intro hm
    have := hv.eof
    simp only [List.mem_cons] at hm
    rcases hm with h | h
    · omega
    · have := (hC.lt _ (zs_all p _ _ h)).2
      omega
  have hgu : 1 ∉ d :: zsOf p ([] : List Lv) := by
    intro hm
    simp only [List.mem_cons] at hm
    rcases hm with h | h
    · omega
    · have := (hC.lt _ (zs_all p _ _ h)).2
      omega
  replace hC := hide hC
  replace hd := hide hd
  replace hv := hide hv
  replace hda := hide hda
  replace hge := hide hge
  replace hgu := hide hgu
  replace hE := hide hE
  replace hU := hide hU
  go_enter Tryd.func35, Tryd.ntmps35
  go_wp2
  go_loopg [6, 7, 8] (m + 1) (fun k u6 u7 u8 wr => ∃ (n : Nat) (eof : Bool) (cs' : Array Value), k = leftR m n eof ∧ u6 = .int .i64 (n : Nat) ∧ u7 = endV ae eof ∧ n ≤ m ∧ n ≤ (str ([] : List Lv) bs).length ∧ (eof = true → n = (str ([] : List Lv) bs).length) ∧ Blk wr d td cs' ∧ Fill cs cs' off ((str ([] : List Lv) bs).take n) ∧ Upd (d :: zsOf p ([] : List Lv)) w wr ∧ Chain wr B p cl (adv n ([] : List Lv)) (bs.drop n) (T + n + if eof then 1 else 0))
  case atStart =>
    exact ⟨0, false, cs, rfl, rfl, rfl, by omega, by omega, (fun h => by cases h), hd.out, by simpa using Fill.nil cs off, Upd.refl _ _, by rw [adv_zero]; exact hC.out⟩
  case round =>
    obtain ⟨n, eof, cs', hk, rfl, rfl, hnm, hna, hee, hdr, hfl, hur, hCr⟩ := hrel
    have hnmI : (n : Int) ≤ (m : Int) := by omega
    have hn0 : (0 : Int) ≤ (n : Int) := by omega
    have hEr := (hur.cell (p := ⟨0, 0, none⟩) (World.block_lt_of_cell? _ _ hE.out) hge.out).trans hE.out
    have hUr := (hur.cell (p := ⟨1, 0, none⟩) (World.block_lt_of_cell? _ _ hU.out) hgu.out).trans hU.out
    by_cases hdone : n = m ∨ eof = true
    · have hmin : min m (str ([] : List Lv) bs).length = n := by
        rcases hdone with h | h
        · omega
        · have := hee h; omega
      have hfin : FullPost (str ([] : List Lv) bs) m d off td cs (d :: zsOf p ([] : List Lv)) (fun n w' => Chain w' B p cl (adv n ([] : List Lv)) (bs.drop n) (T + m + 1)) ae au w (.returned (.tuple #[.int .i64 (n : Nat), fullV ae au m (str ([] : List Lv) bs).length])) wr := by
        refine ⟨by rw [hmin], ⟨cs', hdr, ?_⟩, hur, ?_⟩
        · have e : (str ([] : List Lv) bs).take m = (str ([] : List Lv) bs).take n := by
            rcases hdone with h | h
            · rw [h]
            · have := hee h
              rw [this, List.take_length, List.take_of_length_le (by omega)]
          rw [e]
          exact hfl
        · rw [hmin]
          exact hCr.more (by cases eof <;> simp <;> omega)
      replace hfin := hide hfin
      have hee' := hee
      clear hfl hdr hur hCr hee hmin
      by_cases hnm2 : n = m
      · subst hnm2
        have hv0 : fullV ae au n (str ([] : List Lv) bs).length = .nilIface := by unfold fullV; rw [if_pos hna]
        rw [hv0] at hfin
        go_wp2_with fail
        go_ret2
        exact hfin.out
      · have heof : eof = true := by
          rcases hdone with h | h
          · exact absurd h hnm2
          · exact h
        subst heof
        have hav := hee' rfl
        have hlt : (n : Int) < (m : Int) := by omega
        have hEv : endV ae true = .iface 122 (.pointer (some ae)) := rfl
        by_cases hz : n = 0
        · have hv0 : fullV ae au m (str ([] : List Lv) bs).length = .iface 122 (.pointer (some ae)) := by unfold fullV; rw [if_neg (by omega), if_pos (by omega)]
          rw [hv0] at hfin
          have hz0 : ¬ (0 : Int) < (n : Int) := by omega
          replace hav := hide hav
          replace hz := hide hz
          clear hdone hee'
          go_wp2_with fail
          go_ret2
          exact hfin.out
        · have hv0 : fullV ae au m (str ([] : List Lv) bs).length = .iface 122 (.pointer (some au)) := by unfold fullV; rw [if_neg (by omega), if_neg (by omega)]
          rw [hv0] at hfin
          have hzI : (0 : Int) < (n : Int) := by omega
          replace hav := hide hav
          clear hdone hee'
          go_wp2_with fail
          go_ret2
          exact hfin.out
    · have hnm2 : n < m := by omega
      have heof : eof = false := by
        cases eof
        · rfl
        · exact absurd (Or.inr rfl) hdone
      subst heof
      have hEv : endV ae false = .nilIface := rfl
      have hlt : (n : Int) < (m : Int) := by omega
      have hncI : (n : Int) < (capd : Int) := by omega
      have hmcI : (m : Int) ≤ (capd : Int) := by omega
      have hcn : ¬ capd = n := by omega
      have hsI : ((m : Int) - (n : Int)) = ((m - n : Nat) : Int) := by omega
      have hvr : Env B cl (T + n) := ⟨hv.out.cl_, hv.out.clw, by have := hv.out.t_; omega, hv.out.eof⟩
      have hCr' : Chain wr B p cl (adv n ([] : List Lv)) (bs.drop n) (T + n) := hCr
      have hcl : ∀ wk, Upd [] wr wk → Calls Tryd.prog 55 #[.pointer (some ⟨p, 0, none⟩), .slice (some ⟨d, off + n, none⟩) (m - n) (capd - n)] wk (ReadPost (str (adv n ([] : List Lv)) (bs.drop n)) (m - n) d (off + n) td cs' (d :: zsOf p (adv n ([] : List Lv))) (fun k w' => Chain w' B p cl (adv k (adv n ([] : List Lv))) ((bs.drop n).drop k) (T + n + 1)) ae wk) := fun wk hu =>
        read_any hvr (adv n ([] : List Lv)) (bs.drop n) (m - n) d (off + n) (capd - n) td cs' wk (hCr'.upd hu (by simp) (Nat.le_trans hBw hur.size) (by simp)) (by rw [List.length_drop]; omega) (by omega) (by omega) (hdr.upd hu (by simp)) (by rw [hfl.1]; omega) (by omega) (by rw [all_adv]; exact hda.out) hdB (Nat.le_trans hBw (Nat.le_trans hur.size hu.size)) ((hu.cell (p := ⟨0, 0, none⟩) (World.block_lt_of_cell? _ _ hEr) (by simp)).trans hEr)
      replace hcl := hide hcl
      replace hfl := hide hfl
      replace hdr := hide hdr
      replace hur := hide hur
      replace hk := hide hk
      clear hCr hCr' hEr hUr
      go_wp2_with fail
      go_region_held3 (fun _ => True) (trivial) (first | ((with_reducible refine (hcl.out wr.drew ((Upd.refl [] wr).drew)).mono ?_); rintro e w1 ⟨k1, eof1, q1, q2, q3, q4, q5, rfl, q6, q7, q8⟩))
      rw [str_adv] at q2 q3 q4 q5 q6
      rw [zs_adv] at q7
      rw [adv_adv, List.drop_drop] at q8
      rw [List.length_drop] at q2 q3 q4 q5
      have hk1I : (k1 : Int) ≤ 2147483647 := by omega
      have hu1 := hur.out.trans ((Upd.refl (d :: zsOf p ([] : List Lv)) wr).drew.trans q7)
      have hme : leftR m (n + k1) eof1 < gk := by
        rw [hk.out]
        unfold leftR
        cases eof1
        · have : 0 < k1 := by
            rcases Nat.eq_zero_or_pos ((str ([] : List Lv) bs).length - n) with h | h
            · have := q5 h; cases this
            · exact q3 h
          simp
          omega
        · simp
          omega
      have hrel : n + k1 ≤ m ∧ n + k1 ≤ (str ([] : List Lv) bs).length ∧ (eof1 = true → n + k1 = (str ([] : List Lv) bs).length) ∧ (∃ cs'', Blk w1 d td cs'' ∧ Fill cs cs'' off ((str ([] : List Lv) bs).take (n + k1))) ∧ Chain w1 B p cl (adv (n + k1) ([] : List Lv)) (bs.drop (n + k1)) (T + (n + k1) + if eof1 then 1 else 0) := by
        refine ⟨by omega, by omega, fun h => by have := q4 h; omega, ?_, q8.more ?_⟩
        · obtain ⟨cs'', h1, h2⟩ := q6
          refine ⟨cs'', h1, ?_⟩
          rw [← take_more]
          have hln : ((str ([] : List Lv) bs).take n).length = n := by rw [List.length_take]; exact Nat.min_eq_left hna
          have h3 := hfl.out.join (cs'' := cs'') (l' := ((str ([] : List Lv) bs).drop n).take k1) (by rw [hln]; exact h2)
          exact h3
        · cases eof1
          · have : 0 < k1 := by
              rcases Nat.eq_zero_or_pos ((str ([] : List Lv) bs).length - n) with h | h
              · have := q5 h; cases this
              · exact q3 h
            show T + n + 1 ≤ T + (n + k1) + 0
            omega
          · show T + n + 1 ≤ T + (n + k1) + 1
            omega
      replace hrel := hide hrel
      replace hme := hide hme
      replace hu1 := hide hu1
      clear q1 q2 q3 q4 q5 q6 q7 q8 hcl hfl hdr hur hk hEv
      go_wp2_with fail
      go_roundg (leftR m (n + k1) eof1)
      case measure => exact hme.out
      case rel =>
        obtain ⟨r1, r2, r3, ⟨cs'', r4, r5⟩, r6⟩ := hrel.out
        exact ⟨n + k1, eof1, cs'', rfl, by go_num, rfl, r1, r2, r3, r4, r5, hu1.out, r6⟩

set_option maxRecDepth 100000 in
set_option maxHeartbeats 1000000 in
theorem rffulla (B p d off m capd T : Nat) (cl : List Int) (bs : List Nat) (td : TypeId) (cs : Array Value) (ae au : Addr) (w : World) (hv : Env B cl (T + m + 1)) (hC : Chain w B p cl ([] : List Lv) bs T) (hl : (bs.length : Int) ≤ 2147483647)
    (hm0 : 1 ≤ m) (hm : (m : Int) ≤ 2147483647) (hd : Blk w d td cs) (hfit : off + m ≤ cs.size) (hLc : m ≤ capd) (hcI : (capd : Int) ≤ 9223372036854775807) (hda : d ∉ allOf p ([] : List Lv)) (hdB : B ≤ d) (hBw : B ≤ w.heap.size)
    (hE : w.cell? ⟨0, 0, none⟩ = some (.iface 122 (.pointer (some ae)))) (hU : w.cell? ⟨1, 0, none⟩ = some (.iface 122 (.pointer (some au)))) (hUB : 1 < B) :
    Calls Tryd.prog 28 #[.iface 60 (.pointer (some ⟨p, 0, none⟩)), .slice (some ⟨d, off, none⟩) m capd] w (FullPost (str ([] : List Lv) bs) m d off td cs (d :: zsOf p ([] : List Lv)) (fun n w' => Chain w' B p cl (adv n ([] : List Lv)) (bs.drop n) (T + m + 1)) ae au w) := by
  have cA := rffullaL B p d off m capd T cl bs  td cs ae au w hv hC hl hm0 hm hd hfit hLc hcI hda hdB hBw hE hU hUB
  replace cA := hide cA
  clear hv hC hd hda hE hU
  go_enter Tryd.func28, Tryd.ntmps28
  go_wp2_with fail
  (with_reducible refine (cA.out).mono ?_)
  rintro e w1 ⟨rfl, h2, h3, h4⟩
  have hfin : FullPost (str ([] : List Lv) bs) m d off td cs (d :: zsOf p ([] : List Lv)) (fun n w' => Chain w' B p cl (adv n ([] : List Lv)) (bs.drop n) (T + m + 1)) ae au w (.returned (.tuple #[.int .i64 (min m (str ([] : List Lv) bs).length : Nat), fullV ae au m (str ([] : List Lv) bs).length])) w1 := ⟨rfl, h2, h3, h4⟩
  replace hfin := hide hfin
  clear h2 h3 h4 cA
  generalize min m (str ([] : List Lv) bs).length = q at *
  generalize fullV ae au m (str ([] : List Lv) bs).length = fv at *
  go_wp2
  go_ret2
  exact hfin.out
end Go.Proofs.YthkpoidnhgcjhaaDoor

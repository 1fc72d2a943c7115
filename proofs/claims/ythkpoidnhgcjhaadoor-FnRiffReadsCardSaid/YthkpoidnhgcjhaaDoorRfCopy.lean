/- 'io.Copy' of a chunk's reader to what keeps nothing: the walk. -/
import Derived.Test.YthkpoidnhgcjhaaDoorRfFullA
import Derived.Test.YthkpoidnhgcjhaaDoorRfFullB
import Derived.Stop.Asserts
import Derived.WalkSpells
namespace Go.Proofs.YthkpoidnhgcjhaaDoor
set_option linter.unusedSimpArgs false
set_option linter.unusedVariables false
open Go.RowKit Plain

theorem full_any (B p d off m capd T : Nat) (cl : List Int) (bs : List Nat) (ls : List Lv) (td : TypeId) (cs : Array Value) (ae au : Addr) (w : World) (hv : Env B cl (T + m + 1)) (hC : Chain w B p cl ls bs T) (hl : (bs.length : Int) ≤ 2147483647)
    (hm0 : 1 ≤ m) (hm : (m : Int) ≤ 2147483647) (hd : Blk w d td cs) (hfit : off + m ≤ cs.size) (hLc : m ≤ capd) (hcI : (capd : Int) ≤ 9223372036854775807) (hda : d ∉ allOf p ls) (hdB : B ≤ d) (hBw : B ≤ w.heap.size)
    (hE : w.cell? ⟨0, 0, none⟩ = some (.iface 122 (.pointer (some ae)))) (hU : w.cell? ⟨1, 0, none⟩ = some (.iface 122 (.pointer (some au)))) (hUB : 1 < B) :
    Calls Tryd.prog 28 #[ifOf p ls, .slice (some ⟨d, off, none⟩) m capd] w (FullPost (str ls bs) m d off td cs (d :: zsOf p ls) (fun n w' => Chain w' B p cl (adv n ls) (bs.drop n) (T + m + 1)) ae au w) := by
  cases ls with
  | nil => exact rffulla B p d off m capd T cl bs td cs ae au w hv hC hl hm0 hm hd hfit hLc hcI hda hdB hBw hE hU hUB
  | cons l2 ls2 => exact rffullb B p d off m capd T cl bs l2 ls2 td cs ae au w hv hC hl hm0 hm hd hfit hLc hcI hda hdB hBw hE hU hUB

theorem ta_w (a : Addr) (w : World) : (Instr.typeAssert (.iface 84 (.pointer (some a))) 66 111 true).run Tryd.prog w = .ok (.tuple #[.nilIface, .bool false]) w := run_typeAssert_lacksB Tryd.underlying111 (by kernel_rfl) (by kernel_rfl) _ _ w
theorem ta_r (w : World) : (Instr.typeAssert (.iface 90 (.agg #[])) 105 115 true).run Tryd.prog w = .ok (.tuple #[.nilIface, .bool false]) w := run_typeAssert_lacksB Tryd.underlying115 (by kernel_rfl) (by kernel_rfl) _ _ w
theorem ta_l (a : Addr) (w : World) : (Instr.typeAssert (.iface 84 (.pointer (some a))) 66 118 true).run Tryd.prog w = .ok (.tuple #[.pointer none, .bool false]) w := by kernel_rfl
theorem eq_nils (w : World) : (binOp .eql 25 (.slice none 0 0) (.slice none 0 0)).run Tryd.prog w = .ok (.bool true) w := by kernel_rfl
theorem na_disc (w : World) : (nilAhead 241 90 (.agg #[]) "Write").run Tryd.prog w = .ok (some false) w := by kernel_rfl
theorem me_disc (w : World) : (method 241 90 (.agg #[]) "Write").run Tryd.prog w = .ok (57, .agg #[]) w := by kernel_rfl
theorem info_u8r : (Tryd.prog.info? 5).map (fun i => (i.zero, i.size, i.bytes)) = some (some (Value.int .u8 0), 1, 1) := by kernel_rfl
theorem mk_buf (W : World) : ∃ Z : Array Value, Z.size = 32768 ∧ (Instr.makeSlice 25 (.int .i64 32768) (.int .i64 32768)).run Tryd.prog W = .ok (.slice (some ⟨W.heap.size, 0, none⟩) 32768 32768) (W.alloc (.cells Z 5)) := by
  obtain ⟨i, hi, hz, hs, hb⟩ := info_parts info_u8r
  have h := run_make (P := Tryd.prog) W 25 5 i _ Tryd.underlying25 hi hz .i64 .i64 32768 32768 (by decide) (by decide) (by rw [hb]; decide) (by decide)
  rw [hs] at h
  exact ⟨_, by simp [madeCells], h⟩
theorem write_any (A : Option Addr) (len cap : Nat) (w : World) : Calls Tryd.prog 57 #[.agg #[], .slice A len cap] w fun e w' => e = .returned (.tuple #[.int .i64 len, .nilIface]) ∧ Upd [] w w' := by
  go_enter Tryd.func57, Tryd.ntmps57
  go_wp2
  go_ret2
  exact ⟨rfl, (Upd.refl [] w).alloc _⟩

/-- What 'Copy' answers: how much there was. -/
def CopyPost (n : Nat) (S : List Nat) (St : World → Prop) (w : World) (e : Ending) (w' : World) : Prop := e = .returned (.tuple #[.int .i64 (n : Nat), .nilIface]) ∧ Upd S w w' ∧ St w'

set_option maxRecDepth 100000 in
set_option maxHeartbeats 4000000 in
theorem copyBuffer_any (B p T : Nat) (cl : List Int) (bs : List Nat) (l : Lv) (ls : List Lv) (ae : Addr) (w : World) (hv : Env B cl (T + (str (l :: ls) bs).length + 1)) (hC : Chain w B p cl (l :: ls) bs T) (hl : (bs.length : Int) ≤ 2147483647) (hBw : B ≤ w.heap.size)
    (hE : w.cell? ⟨0, 0, none⟩ = some (.iface 122 (.pointer (some ae)))) :
    Calls Tryd.prog 36 #[.iface 90 (.agg #[]), .iface 84 (.pointer (some ⟨l.c, 0, none⟩)), .slice none 0 0] w (CopyPost (str (l :: ls) bs).length (zsOf p (l :: ls)) (fun w' => Chain w' B p cl (adv (str (l :: ls) bs).length (l :: ls)) (bs.drop (str (l :: ls) bs).length) (T + (str (l :: ls) bs).length + 1)) w) := by
  have NA := na_chunk
  have ME := me_chunk
  have ND := na_disc
  have MD := me_disc
  have qE := neq_es ae
  have ka := ta_w ⟨l.c, 0, none⟩
  have kb := ta_r
  have kc := ta_l ⟨l.c, 0, none⟩
  have kd := eq_nils
  have hsl := str_le (l :: ls) bs
  have hge : 0 ∉ zsOf p (l :: ls) := by
    intro hm
    have := (hC.lt _ (zs_all p _ _ hm)).2
    have := hv.eof
    omega
  obtain ⟨Z, hZ, hmk⟩ := mk_buf w
  generalize hav : str (l :: ls) bs = av at *
  replace hav := hide hav
  replace hC := hide hC
  replace hv := hide hv
  replace hge := hide hge
  replace hE := hide hE
  replace hZ := hide hZ
  go_enter Tryd.func36, Tryd.ntmps36
  go_wp2_with fail
  have hC0 : Hid (Chain (w.alloc (.cells Z 5)) B p cl (l :: ls) bs T) := hide (hC.out.upd ((Upd.refl [] w).alloc _) (by simp) hBw (by simp))
  have hd0 : Hid (Blk (w.alloc (.cells Z 5)) w.heap.size 5 Z) := hide (Blk.new w 5 Z)
  have hu0 : Hid (Upd (zsOf p (l :: ls)) w (w.alloc (.cells Z 5))) := hide ((Upd.refl _ w).alloc _)
  go_loopg [6, 7, 15, 16, 17, 18] av.length (fun k u6 u7 u15 u16 u17 u18 wr => ∃ (n : Nat) (cs' : Array Value), k + n = av.length ∧ u6 = .int .i64 (n : Nat) ∧ u7 = .nilIface ∧ Blk wr w.heap.size 5 cs' ∧ cs'.size = 32768 ∧ Upd (zsOf p (l :: ls)) w wr ∧ Chain wr B p cl (adv n (l :: ls)) (bs.drop n) (T + n))
  case atStart => exact ⟨0, Z, rfl, rfl, rfl, hd0.out, hZ.out, hu0.out, by rw [adv_zero]; exact hC0.out⟩
  case round =>
    obtain ⟨n, cs', hkn, rfl, rfl, hdr, hcz, hur, hCr⟩ := hrel
    clear hC0 hd0 hu0
    have hEr := (hur.cell (p := ⟨0, 0, none⟩) (World.block_lt_of_cell? _ _ hE.out) hge.out).trans hE.out
    have hvr : Env B cl (T + n) := ⟨hv.out.cl_, hv.out.clw, by have := hv.out.t_; omega, hv.out.eof⟩
    have hnew : w.heap.size ∉ allOf p (l :: ls) := fun h => by have := (hC.out.lt _ h).1; omega
    have hcl : Calls Tryd.prog 56 #[.pointer (some ⟨l.c, 0, none⟩), .slice (some ⟨w.heap.size, 0, none⟩) 32768 32768] wr (ReadPost (str (adv n (l :: ls)) (bs.drop n)) 32768 w.heap.size 0 5 cs' (w.heap.size :: zsOf p (adv n (l :: ls))) (fun k w' => Chain w' B p cl (adv k (adv n (l :: ls))) ((bs.drop n).drop k) (T + n + 1)) ae wr) :=
      read_any hvr (adv n (l :: ls)) (bs.drop n) 32768 w.heap.size 0 32768 5 cs' wr hCr (by rw [List.length_drop]; omega) (by decide) (by decide) hdr (by rw [hcz]; decide) (by decide) (by rw [all_adv]; exact hnew) hBw (Nat.le_trans hBw hur.size) hEr
    rw [str_adv, zs_adv, hav.out] at hcl
    replace hcl := hide hcl
    replace hur := hide hur
    replace hcz := hide hcz
    clear hCr hdr hvr hnew
    go_wp2_with fail
    (with_reducible refine (hcl.out).mono ?_)
    rintro e w1 ⟨k1, eof1, q1, q2, q3, q4, q5, rfl, q6, q7, q8⟩
    rw [adv_adv, List.drop_drop] at q8
    rw [List.length_drop] at q2 q3 q4 q5
    have hE1 := (q7.cell (p := ⟨0, 0, none⟩) (World.block_lt_of_cell? _ _ hEr) (by
      have h1 := hge.out
      have h2 := World.block_lt_of_cell? _ _ hE.out
      simp only [List.mem_cons, not_or]
      exact ⟨by show 0 ≠ w.heap.size; have : 0 < w.heap.size := h2; omega, h1⟩)).trans hEr
    have hu1 := hur.out.step q7 (fun i hi hlt => by
      rcases List.mem_cons.1 hi with h | h
      · omega
      · exact h)
    obtain ⟨cs1, hd1, hf1⟩ := q6
    have hz1 : cs1.size = 32768 := by rw [hf1.1]; exact hcz.out
    have hnI : (n : Int) ≤ 2147483647 := by omega
    have hkI : (k1 : Int) ≤ 32768 := by omega
    have hn0 : (0 : Int) ≤ (n : Int) := by omega
    replace hu1 := hide hu1
    replace hd1 := hide hd1
    replace hz1 := hide hz1
    replace q8 := hide q8
    clear hf1 q7 hcl hcz hur hEr
    by_cases hk0 : k1 = 0
    · have heof : eof1 = true := by
        rcases Nat.eq_zero_or_pos (av.length - n) with h | h
        · exact q5 h
        · have := q3 h; omega
      subst heof
      have hnav : n = av.length := by have := q4 rfl; omega
      have hEv : endV ae true = .iface 122 (.pointer (some ae)) := rfl
      have hk0I : ¬ (0 : Int) < (k1 : Int) := by omega
      have hfin : CopyPost av.length (zsOf p (l :: ls)) (fun w' => Chain w' B p cl (adv av.length (l :: ls)) (bs.drop av.length) (T + av.length + 1)) w (.returned (.tuple #[.int .i64 (n : Nat), .nilIface])) w1 := by
        rw [← hnav]
        refine ⟨rfl, hu1.out, ?_⟩
        have := q8.out
        rw [hk0, Nat.add_zero] at this
        exact this
      replace hfin := hide hfin
      replace hk0 := hide hk0
      replace hnav := hide hnav
      clear q1 q2 q3 q4 q5 q8 hu1 hd1 hz1
      go_wp2_with fail
      go_ret2
      exact hfin.out
    · have hk0I : (0 : Int) < (k1 : Int) := by omega
      have hkN : ¬ (k1 : Int) < 0 := by omega
      have hkq : ((k1 : Int) != (k1 : Int)) = false := by simp
      have hfin : ∀ w2, Upd [] w1 w2 → n + k1 = av.length → CopyPost av.length (zsOf p (l :: ls)) (fun w' => Chain w' B p cl (adv av.length (l :: ls)) (bs.drop av.length) (T + av.length + 1)) w (.returned (.tuple #[.int .i64 ((n + k1 : Nat) : Int), .nilIface])) w2 := by
        intro w2 hu2 h
        rw [← h]
        refine ⟨rfl, hu1.out.step hu2 (by simp), ?_⟩
        exact Chain.more (q8.out.upd hu2 (by simp) (Nat.le_trans hBw hu1.out.size) (by simp)) (by omega)
      have hgo : ∀ w2, Upd [] w1 w2 → Upd (zsOf p (l :: ls)) w w2 ∧ Blk w2 w.heap.size 5 cs1 ∧ Chain w2 B p cl (adv (n + k1) (l :: ls)) (bs.drop (n + k1)) (T + (n + k1)) := fun w2 hu2 =>
        ⟨hu1.out.step hu2 (by simp), hd1.out.upd hu2 (by simp), Chain.more (q8.out.upd hu2 (by simp) (Nat.le_trans hBw hu1.out.size) (by simp)) (by omega)⟩
      have hE2 : ∀ w2, Upd [] w1 w2 → w2.cell? ⟨0, 0, none⟩ = some (.iface 122 (.pointer (some ae))) := fun w2 hu2 => (hu2.cell (p := ⟨0, 0, none⟩) (World.block_lt_of_cell? _ _ hE1) (by simp)).trans hE1
      replace hfin := hide hfin
      replace hgo := hide hgo
      replace hE2 := hide hE2
      replace q4 := hide q4
      replace q3 := hide q3
      replace q5 := hide q5
      have hur1 := hide (Upd.refl [] w1)
      clear q8 hu1 hd1 hE1
      go_wp2_with fail
      go_region_held3 (fun _ => True) (trivial) (first | ((with_reducible refine (write_any (some ⟨w.heap.size, 0, none⟩) k1 32768 w1.drew).mono ?_); rintro e w2 ⟨rfl, hu2⟩))
      have hu3 := hide (hur1.out.drew.trans hu2)
      have hE3 := hE2.out w2 hu3.out
      clear hu2
      cases eof1 with
      | true =>
        have hEv : endV ae true = .iface 122 (.pointer (some ae)) := rfl
        have hfin2 := hide (hfin.out w2 hu3.out (by have := q4.out rfl; omega))
        clear hfin hgo hE2
        go_wp2_with fail
        go_ret2
        have := hfin2.out
        rw [Int.natCast_add] at this
        exact this
      | false =>
        have hEv : endV ae false = .nilIface := rfl
        have hgo2 := hide (hgo.out w2 hu3.out)
        clear hfin hgo hE2
        go_wp2_with fail
        go_roundg (gk - k1)
        case measure => omega
        case rel =>
          obtain ⟨r1, r2, r3⟩ := hgo2.out
          exact ⟨n + k1, cs1, by omega, by go_num, rfl, r2, hz1.out, r1, r3⟩

set_option maxRecDepth 100000 in
set_option maxHeartbeats 1000000 in
theorem copy_any (B p T : Nat) (cl : List Int) (bs : List Nat) (l : Lv) (ls : List Lv) (ae : Addr) (w : World) (hv : Env B cl (T + (str (l :: ls) bs).length + 1)) (hC : Chain w B p cl (l :: ls) bs T) (hl : (bs.length : Int) ≤ 2147483647) (hBw : B ≤ w.heap.size)
    (hE : w.cell? ⟨0, 0, none⟩ = some (.iface 122 (.pointer (some ae)))) :
    Calls Tryd.prog 30 #[.iface 90 (.agg #[]), .iface 84 (.pointer (some ⟨l.c, 0, none⟩))] w (CopyPost (str (l :: ls) bs).length (zsOf p (l :: ls)) (fun w' => Chain w' B p cl (adv (str (l :: ls) bs).length (l :: ls)) (bs.drop (str (l :: ls) bs).length) (T + (str (l :: ls) bs).length + 1)) w) := by
  have cA := copyBuffer_any B p T cl bs l ls ae w hv hC hl hBw hE
  clear hv hC hE
  generalize (str (l :: ls) bs).length = q at *
  replace cA := hide cA
  go_enter Tryd.func30, Tryd.ntmps30
  go_wp2_with fail
  (with_reducible refine (cA.out).mono ?_)
  rintro e w1 ⟨rfl, h2, h3⟩
  have hfin := hide (show CopyPost q (zsOf p (l :: ls)) (fun w' => Chain w' B p cl (adv q (l :: ls)) (bs.drop q) (T + q + 1)) w _ w1 from ⟨rfl, h2, h3⟩)
  clear h2 h3 cA
  go_wp2
  go_ret2
  exact hfin.out
end Go.Proofs.YthkpoidnhgcjhaaDoor

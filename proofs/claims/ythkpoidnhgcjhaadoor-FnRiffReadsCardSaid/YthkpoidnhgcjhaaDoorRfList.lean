/- 'riff.NewListReader': the walk. -/
import Derived.Test.YthkpoidnhgcjhaaDoorRfErr
namespace Go.Proofs.YthkpoidnhgcjhaaDoor
set_option linter.unusedSimpArgs false
set_option linter.unusedVariables false
open Go.RowKit Plain

theorem ret_cell_tmp2 {fn : Func} {p u v : Tmp} {ty : TypeId} (h : fn.results = #[.cell p ty, .tmp u, .tmp v]) {tmps : Array Value} {P : Program} {w : World} {a : Addr} {x y z : Value} (hp : tmps.getD p undef = .pointer (some a)) (hl : (loadVar ty a).run P w = .ok x w) (hu : tmps.getD u undef = y) (hv : tmps.getD v undef = z) :
    (results fn tmps).run P w = .ok (.tuple #[x, y, z]) w := by
  have hp' : tmps[p]?.getD undef = .pointer (some a) := by simpa using hp
  have hu' : tmps[u]?.getD undef = y := by simpa using hu
  have hv' : tmps[v]?.getD undef = z := by simpa using hv
  simp [results, h, hp', hu', hv', asAddr, hl]
theorem size_four : (Tryd.prog.info? 54).map (·.size) = some 4 := by kernel_rfl
theorem load_four {w : World} {g : Nat} {cs : Array Value} (h : Blk w g 54 cs) (hs : cs.size = 4) : (loadVar 54 ⟨g, 0, none⟩).run Tryd.prog w = .ok (.agg cs) w := by
  have h9 := run_loadVar_mid (P := Tryd.prog) w g 0 54 cs.toList _ h.range Tryd.underlying54 rfl (by rw [Array.length_toList, hs]; exact size_four)
  rwa [Array.toArray_toList] at h9
def zero4 : Value := .agg #[.int .u8 0, .int .u8 0, .int .u8 0, .int .u8 0]
def four (l : List Nat) : Value := .agg #[.int .u8 (l.getD 0 0 : Nat), .int .u8 (l.getD 1 0 : Nat), .int .u8 (l.getD 2 0 : Nat), .int .u8 (l.getD 3 0 : Nat)]
/-- What 'NewListReader' answers, of what there is. -/
def ListPost (B p T len : Nat) (cl : List Int) (bs : List Nat) (ls : List Lv) (ad : Addr) (w : World) (e : Ending) (w' : World) : Prop :=
  (len < 4 → e = .returned (.tuple #[zero4, .pointer none, errV ad]) ∧ Upd [] w w') ∧
  (4 ≤ len → (str ls bs).length < 4 → e = .returned (.tuple #[zero4, .pointer none, errV ad]) ∧ Upd (zsOf p ls) w w' ∧ Chain w' B p cl (adv (str ls bs).length ls) (bs.drop (str ls bs).length) (T + 5)) ∧
  (4 ≤ len → 4 ≤ (str ls bs).length → ∃ z bf, w.heap.size ≤ z ∧ e = .returned (.tuple #[four (str ls bs), .pointer (some ⟨z, 0, none⟩), .nilIface]) ∧ Upd (zsOf p ls) w w' ∧ Chain w' B p cl (adv 4 ls) (bs.drop 4) (T + 5) ∧ RZ w' z (ifOf p ls) .nilIface (.pointer none) (len - 4) 0 false bf)
theorem Fill.rz {w : World} {z : Nat} {cs cs' : Array Value} {off : Nat} {l : List Nat} {r err cr : Value} {tot chl : Nat} {pad : Bool} (h : Fill cs cs' off l) (hb : Blk w z 86 cs') (h0 : cs.size = 14 ∧ cs[0]? = some r ∧ cs[1]? = some err ∧ cs[2]? = some (.int .u32 tot) ∧ cs[3]? = some (.int .u32 chl) ∧ cs[4]? = some cr ∧ (∀ i, i < 8 → ∃ x, cs[5 + i]? = some (.int .u8 x)) ∧ cs[13]? = some (.bool pad)) (ho : 5 ≤ off) (hl : off + l.length ≤ 13) :
    ∃ bf, RZ w z r err cr tot chl pad bf ∧ ∀ j, j < l.length → bf (off - 5 + j) = ((l.getD j 0 : Nat) : Int) := by
  obtain ⟨s, a0, a1, a2, a3, a4, ab, a13⟩ := h0
  obtain ⟨f1, f2, f3⟩ := h
  have hx : ∀ i, i < 8 → ∃ x, cs'[5 + i]? = some (.int .u8 x) := by
    intro i hi
    by_cases hin : off ≤ 5 + i ∧ 5 + i < off + l.length
    · have := f2 (5 + i - off) (by omega)
      rw [show off + (5 + i - off) = 5 + i by omega] at this
      exact ⟨_, this⟩
    · rw [f3 _ (by omega)]
      exact ab i hi
  refine ⟨fun i => ((cs'[5 + i]?).bind (fun v => match v with | .int _ x => some x | _ => none)).getD 0, ⟨cs', hb, f1.trans s, (f3 0 (by omega)).trans a0, (f3 1 (by omega)).trans a1, (f3 2 (by omega)).trans a2, (f3 3 (by omega)).trans a3, (f3 4 (by omega)).trans a4, fun i hi => ?_, (f3 13 (by omega)).trans a13⟩, fun j hj => ?_⟩
  · obtain ⟨x, hx⟩ := hx i hi
    rw [hx]
    rfl
  · have := f2 j hj
    rw [show off + j = 5 + (off - 5 + j) by omega] at this
    show ((cs'[5 + (off - 5 + j)]?).bind _).getD 0 = _
    rw [this]
    rfl

theorem blk_four {w : World} {g : Nat} {T : TypeId} {a b c d : Value} (h : Blk w g T #[a, b, c, d]) (x0 x1 x2 x3 : Value) : Blk ((((w.setCell ⟨g, 0, none⟩ x0).setCell ⟨g, 1, none⟩ x1).setCell ⟨g, 2, none⟩ x2).setCell ⟨g, 3, none⟩ x3) g T #[x0, x1, x2, x3] :=
  Blk.to ((((h.set_ 0 x0).set_ 1 x1).set_ 2 x2).set_ 3 x3) rfl (by simp)
theorem upd_four {S : List Nat} {w0 w : World} {g : Nat} (h : Upd S w0 w) (hg : g ∈ S ∨ w0.heap.size ≤ g) (x0 x1 x2 x3 : Value) : Upd S w0 ((((w.setCell ⟨g, 0, none⟩ x0).setCell ⟨g, 1, none⟩ x1).setCell ⟨g, 2, none⟩ x2).setCell ⟨g, 3, none⟩ x3) :=
  (((h.setCell hg x0).setCell hg x1).setCell hg x2).setCell hg x3

set_option maxRecDepth 100000 in
set_option maxHeartbeats 4000000 in
theorem list_any (B p T len : Nat) (cl : List Int) (bs : List Nat) (ls : List Lv) (ae au ar ad al ap ah : Addr) (w : World) (hv : Env B cl (T + 5)) (hC : Chain w B p cl ls bs T) (hl : (bs.length : Int) ≤ 2147483647) (hBw : B ≤ w.heap.size) (hlen : (len : Int) ≤ 4294967295) (hR : Errs w B ae au ar ad al ap ah) :
    Calls Tryd.prog 25 #[.int .u32 len, ifOf p ls] w (ListPost B p T len cl bs ls ad w) := by
  have hd0 := hR.dat.cell
  have hgl : 3 < w.heap.size := World.block_lt_of_cell? _ _ hd0
  have hgn : ¬ 3 = w.heap.size := by omega
  have hgn' : ¬ w.heap.size = 3 := by omega
  by_cases h4 : len < 4
  · have h4I : (len : Int) < 4 := by omega
    clear hR hC hv
    have hb0 := hide (Blk.new w 54 #[.int .u8 0, .int .u8 0, .int .u8 0, .int .u8 0])
    have hu0 := hide (((Upd.refl [] w).alloc (.cells #[.int .u8 0, .int .u8 0, .int .u8 0, .int .u8 0] 54)).drew)
    go_enter Tryd.func25, Tryd.ntmps25
    go_wp2
    go_region
    go_wp2
    exact bodyPost_ret (ret_cell_tmp2 rfl rfl (load_four (Blk.drew hb0.out) rfl) rfl rfl) rfl ⟨fun _ => ⟨rfl, hu0.out⟩, fun h => absurd h4 (by omega), fun h => absurd h4 (by omega)⟩
  · have h4I : ¬ (len : Int) < 4 := by omega
    have hne := hR.ne
    obtain ⟨Z4, hZ4⟩ : ∃ Z4 : Array Value, Z4 = #[.int .u8 0, .int .u8 0, .int .u8 0, .int .u8 0] := ⟨_, rfl⟩
    obtain ⟨CZ, hCZ⟩ : ∃ CZ : Array Value, CZ = #[ifOf p ls, .nilIface, .int .u32 0, .int .u32 0, .pointer none, .int .u8 0, .int .u8 0, .int .u8 0, .int .u8 0, .int .u8 0, .int .u8 0, .int .u8 0, .int .u8 0, .bool false] := ⟨_, rfl⟩
    have u1 := ((Upd.refl [] w).alloc (.cells Z4 54)).alloc (.cells CZ 86)
    have hz4 := (Blk.new w 54 Z4).alloc (.cells CZ 86)
    have hcz := Blk.new (w.alloc (.cells Z4 54)) 86 CZ
    rw [World.size_alloc] at hcz
    have hs1 : ((w.alloc (.cells Z4 54)).alloc (.cells CZ 86)).heap.size = w.heap.size + 2 := by simp
    have hnew : w.heap.size + 1 ∉ allOf p ls := fun h => by have := (hC.lt _ h).1; omega
    have hnew4 : w.heap.size ∉ allOf p ls := fun h => by have := (hC.lt _ h).1; omega
    have hC1 := hC.upd u1 (by simp) hBw (by simp)
    have hR1 := hR.upd u1 (by simp) hBw
    have hcs : CZ.size = 14 := by rw [hCZ]; rfl
    have cF := full_any B p (w.heap.size + 1) 5 4 8 T cl bs ls 86 CZ ae au _ hv hC1 hl (by decide) (by decide) hcz (by rw [hcs]; decide) (by decide) (by decide) hnew (by omega) (Nat.le_trans hBw u1.size) hR1.eof.cell hR1.une.cell hR1.une.glt
    have h0 : CZ.size = 14 ∧ CZ[0]? = some (ifOf p ls) ∧ CZ[1]? = some .nilIface ∧ CZ[2]? = some (.int .u32 (0 : Nat)) ∧ CZ[3]? = some (.int .u32 (0 : Nat)) ∧ CZ[4]? = some (.pointer none) ∧ (∀ i, i < 8 → ∃ x, CZ[5 + i]? = some (.int .u8 x)) ∧ CZ[13]? = some (.bool false) := by
      rw [hCZ]
      refine ⟨rfl, rfl, rfl, rfl, rfl, rfl, fun i hi => ?_, rfl⟩
      rcases (by omega : i = 0 ∨ i = 1 ∨ i = 2 ∨ i = 3 ∨ i = 4 ∨ i = 5 ∨ i = 6 ∨ i = 7) with h | h | h | h | h | h | h | h <;> subst h <;> exact ⟨0, rfl⟩
    rw [hZ4, hCZ] at cF
    rw [hCZ] at h0
    rw [hCZ] at u1 hz4 hs1 hR1
    rw [hZ4] at u1 hz4 hs1 hR1
    replace h0 := hide h0
    replace hz4 := hide hz4
    replace hC := hide hC
    replace hR := hide hR
    replace hR1 := hide hR1
    replace hv := hide hv
    replace u1 := hide u1
    replace hs1 := hide hs1
    replace hCZ := hide hCZ
    replace hZ4 := hide hZ4
    clear hC1 hcz
    have hif : ifOf p ls = .iface (tyOf ls) (.pointer (some ⟨blOf p ls, 0, none⟩)) := rfl
    rw [hif] at cF u1 hz4 hs1 hR1 ⊢
    have h0' := h0.out
    rw [hif] at h0'
    clear h0
    have h0 := hide h0'
    clear h0'
    replace hif := hide hif
    generalize tyOf ls = ty at *
    generalize blOf p ls = bl at *
    replace cF := hide cF
    go_enter Tryd.func25, Tryd.ntmps25
    go_wp2_with fail
    (with_reducible refine (cF.out).mono ?_)
    rintro e w1 ⟨rfl, ⟨cs1, hd1, hf1⟩, u2, hC2⟩
    have hSB : ∀ s ∈ ((w.heap.size + 1) :: zsOf p ls), B ≤ s := by
      intro s hs
      rcases List.mem_cons.1 hs with h | h
      · omega
      · exact (hC.out.lt _ (zs_all p _ _ h)).2
    have hB1 : B ≤ w1.heap.size := Nat.le_trans hBw (Nat.le_trans u1.out.size u2.size)
    have hR2 := hR1.out.upd u2 hSB (by rw [hs1.out]; omega)
    have hz41 := hz4.out.upd u2 (by
      simp only [List.mem_cons, not_or]
      exact ⟨by omega, fun h => hnew4 (zs_all p _ _ h)⟩)
    have u3 : Upd (zsOf p ls) w w1 := (u1.out.wide (by simp)).step u2 (fun i hi hlt => by
      rcases List.mem_cons.1 hi with h | h
      · omega
      · exact h)
    have qE := eql_es ae
    have qU := eql_es au
    have qO := eql_other hR2.une hR2.eof hne.1
    have k3 := hR2.dat.cell
    have kE := hR2.eof.cell
    have kU := hR2.une.cell
    have s1 : w.heap.size + 2 ≤ w1.heap.size := by rw [← hs1.out]; exact u2.size
    have zc0 := hz41.cell 0
    have zc1 := hz41.cell 1
    have zc2 := hz41.cell 2
    have zc3 := hz41.cell 3
    have zf0 := hz41.frozen 0
    have zf1 := hz41.frozen 1
    have zf2 := hz41.frozen 2
    have zf3 := hz41.frozen 3
    simp at zc0 zc1 zc2 zc3
    replace hR2 := hide hR2
    replace hz41 := hide hz41
    replace u3 := hide u3
    by_cases ha : (str ls bs).length < 4
    · have hm : min 4 (str ls bs).length = (str ls bs).length := by omega
      rw [hm] at hC2 ⊢
      have hfin : ∀ wz, Upd [w.heap.size] w1 wz → ListPost B p T len cl bs ls ad w (.returned (.tuple #[zero4, .pointer none, errV ad])) wz := by
        intro wz hu
        have hC3 : Chain wz B p cl (adv (str ls bs).length ls) (bs.drop (str ls bs).length) (T + 5) := by
          refine hC2.upd hu (by simp; omega) hB1 (fun k hk => ?_)
          rw [all_adv] at hk
          intro hm
          simp at hm
          subst hm
          exact hnew4 hk
        exact ⟨fun h => absurd h h4, fun _ _ => ⟨rfl, u3.out.step hu (fun i hi hlt => by simp at hi; omega), hC3⟩, fun _ h => absurd ha (by omega)⟩
      have h40 := hide (blk_four hz41.out (.int .u8 0) (.int .u8 0) (.int .u8 0) (.int .u8 0))
      have hu9 := hide (upd_four (g := w.heap.size) (Upd.refl [w.heap.size] w1) (by simp) (.int .u8 0) (.int .u8 0) (.int .u8 0) (.int .u8 0))
      replace hfin := hide hfin
      clear u2 hd1 hf1 h0 hm hC2
      by_cases ha0 : (str ls bs).length = 0
      · have hfv : fullV ae au 4 (str ls bs).length = .iface 122 (.pointer (some ae)) := by unfold fullV; rw [if_neg (by omega), if_pos ha0]
        rw [hfv]
        replace hfv := hide hfv
        replace ha0 := hide ha0
        go_wp2_with fail
        exact bodyPost_ret (ret_cell_tmp2 rfl rfl (load_four h40.out rfl) rfl rfl) rfl (by exact hfin.out _ hu9.out)
      · have hfv : fullV ae au 4 (str ls bs).length = .iface 122 (.pointer (some au)) := by unfold fullV; rw [if_neg (by omega), if_neg ha0]
        rw [hfv]
        replace hfv := hide hfv
        go_wp2_with fail
        exact bodyPost_ret (ret_cell_tmp2 rfl rfl (load_four h40.out rfl) rfl rfl) rfl (by exact hfin.out _ hu9.out)
    · have hm : min 4 (str ls bs).length = 4 := by omega
      rw [hm] at hC2 ⊢
      have hfv : fullV ae au 4 (str ls bs).length = .nilIface := by unfold fullV; rw [if_pos (by omega)]
      rw [hfv]
      replace hfv := hide hfv
      have hlt4 : ((str ls bs).take 4).length = 4 := by rw [List.length_take]; omega
      obtain ⟨bf, hz, hbf⟩ := hf1.rz hd1 h0.out (by decide) (by rw [hlt4]; decide)
      rw [hlt4] at hbf
      have hbv : ∀ j, j < 4 → bf j = (((str ls bs).getD j 0 : Nat) : Int) := by
        intro j hj
        have := hbf j hj
        rw [Nat.sub_self, Nat.zero_add] at this
        rw [this]
        simp [List.getElem?_take, hj]
      have e0 := hz.cb 0 (by decide)
      rw [hbv 0 (by decide)] at e0
      have e1 := hz.cb 1 (by decide)
      rw [hbv 1 (by decide)] at e1
      have e2 := hz.cb 2 (by decide)
      rw [hbv 2 (by decide)] at e2
      have e3 := hz.cb 3 (by decide)
      rw [hbv 3 (by decide)] at e3
      have m2 := hz.c2
      have g2 := hz.fz 2
      have hz2 := hide (hz.set2 (len - 4))
      have hlI : ((len - 4 : Nat) : Int) = (len : Int) - 4 := by omega
      clear hf1 hd1 hbf hbv h0 hm
      generalize hx0 : (str ls bs).getD 0 0 = x0 at *
      generalize hx1 : (str ls bs).getD 1 0 = x1 at *
      generalize hx2 : (str ls bs).getD 2 0 = x2 at *
      generalize hx3 : (str ls bs).getD 3 0 = x3 at *
      replace hx0 := hide hx0
      replace hx1 := hide hx1
      replace hx2 := hide hx2
      replace hx3 := hide hx3
      replace hC2 := hide hC2
      replace hz := hide hz
      replace hlI := hide hlI
      clear u2
      replace e0 : w1.cell? ⟨w.heap.size + 1, 5, none⟩ = some (.int .u8 (x0 : Nat)) := e0
      replace e1 : w1.cell? ⟨w.heap.size + 1, 6, none⟩ = some (.int .u8 (x1 : Nat)) := e1
      replace e2 : w1.cell? ⟨w.heap.size + 1, 7, none⟩ = some (.int .u8 (x2 : Nat)) := e2
      replace e3 : w1.cell? ⟨w.heap.size + 1, 8, none⟩ = some (.int .u8 (x3 : Nat)) := e3
      have hz3 := hz2.out
      rw [hlI.out] at hz3
      have hK4 : Hid ((w1.setCell ⟨w.heap.size + 1, 2, none⟩ (.int .u32 ((len : Int) - 4))).drew.cell? ⟨w.heap.size + 1, 5, none⟩ = some (.int .u8 (x0 : Nat)) ∧ (w1.setCell ⟨w.heap.size + 1, 2, none⟩ (.int .u32 ((len : Int) - 4))).drew.cell? ⟨w.heap.size + 1, 6, none⟩ = some (.int .u8 (x1 : Nat)) ∧ (w1.setCell ⟨w.heap.size + 1, 2, none⟩ (.int .u32 ((len : Int) - 4))).drew.cell? ⟨w.heap.size + 1, 7, none⟩ = some (.int .u8 (x2 : Nat)) ∧ (w1.setCell ⟨w.heap.size + 1, 2, none⟩ (.int .u32 ((len : Int) - 4))).drew.cell? ⟨w.heap.size + 1, 8, none⟩ = some (.int .u8 (x3 : Nat))) :=
        hide ⟨(World.cell?_setCell_other _ _ _ _ (by simp)).trans e0, (World.cell?_setCell_other _ _ _ _ (by simp)).trans e1, (World.cell?_setCell_other _ _ _ _ (by simp)).trans e2, (World.cell?_setCell_other _ _ _ _ (by simp)).trans e3⟩
      have hu5 := (Upd.refl [w.heap.size + 1] w1).setCell (p := ⟨w.heap.size + 1, 2, none⟩) (.inl (by simp)) (.int .u32 ((len : Int) - 4))
      have hz51 := hz41.out.far (p := ⟨w.heap.size + 1, 2, none⟩) (by simp) (.int .u32 ((len : Int) - 4))
      replace hz3 := hide hz3
      replace hu5 := hide hu5
      replace hz51 := hide hz51
      go_wp2_with fail
      clear zc0 zc1 zc2 zc3 zf0 zf1 zf2 zf3 e0 e1 e2 e3 m2 g2 hz2 hz41 hz
      generalize w1.setCell ⟨w.heap.size + 1, 2, none⟩ (.int .u32 ((len : Int) - 4)) = wB at *
      have zc0 := hz51.out.cell 0
      have zc1 := hz51.out.cell 1
      have zc2 := hz51.out.cell 2
      have zc3 := hz51.out.cell 3
      have zf0 := hz51.out.frozen 0
      have zf1 := hz51.out.frozen 1
      have zf2 := hz51.out.frozen 2
      have zf3 := hz51.out.frozen 3
      simp at zc0 zc1 zc2 zc3
      have hu6 := hide (upd_four (g := w.heap.size) (Upd.refl [w.heap.size] wB) (.inl (by simp)) (.int .u8 (x0 : Nat)) (.int .u8 (x1 : Nat)) (.int .u8 (x2 : Nat)) (.int .u8 (x3 : Nat)))
      have hb6 := hide (blk_four hz51.out (.int .u8 (x0 : Nat)) (.int .u8 (x1 : Nat)) (.int .u8 (x2 : Nat)) (.int .u8 (x3 : Nat)))
      have hs6 : w.heap.size + 1 < wB.heap.size := Nat.lt_of_lt_of_le s1 hu5.out.size
      have hK6 : Hid ((((((wB.setCell ⟨w.heap.size, 0, none⟩ (.int .u8 (x0 : Nat))).setCell ⟨w.heap.size, 1, none⟩ (.int .u8 (x1 : Nat))).setCell ⟨w.heap.size, 2, none⟩ (.int .u8 (x2 : Nat))).setCell ⟨w.heap.size, 3, none⟩ (.int .u8 (x3 : Nat))).drew).cell? ⟨w.heap.size + 1, 5, none⟩ = some (.int .u8 (x0 : Nat)) ∧ (((((wB.setCell ⟨w.heap.size, 0, none⟩ (.int .u8 (x0 : Nat))).setCell ⟨w.heap.size, 1, none⟩ (.int .u8 (x1 : Nat))).setCell ⟨w.heap.size, 2, none⟩ (.int .u8 (x2 : Nat))).setCell ⟨w.heap.size, 3, none⟩ (.int .u8 (x3 : Nat))).drew).cell? ⟨w.heap.size + 1, 6, none⟩ = some (.int .u8 (x1 : Nat)) ∧ (((((wB.setCell ⟨w.heap.size, 0, none⟩ (.int .u8 (x0 : Nat))).setCell ⟨w.heap.size, 1, none⟩ (.int .u8 (x1 : Nat))).setCell ⟨w.heap.size, 2, none⟩ (.int .u8 (x2 : Nat))).setCell ⟨w.heap.size, 3, none⟩ (.int .u8 (x3 : Nat))).drew).cell? ⟨w.heap.size + 1, 7, none⟩ = some (.int .u8 (x2 : Nat)) ∧ (((((wB.setCell ⟨w.heap.size, 0, none⟩ (.int .u8 (x0 : Nat))).setCell ⟨w.heap.size, 1, none⟩ (.int .u8 (x1 : Nat))).setCell ⟨w.heap.size, 2, none⟩ (.int .u8 (x2 : Nat))).setCell ⟨w.heap.size, 3, none⟩ (.int .u8 (x3 : Nat))).drew).cell? ⟨w.heap.size + 1, 8, none⟩ = some (.int .u8 (x3 : Nat))) := by
        obtain ⟨q0, q1, q2, q3⟩ := hK4.out
        exact hide ⟨(hu6.out.cell (p := ⟨w.heap.size + 1, 5, none⟩) hs6 (by simp)).trans q0, (hu6.out.cell (p := ⟨w.heap.size + 1, 6, none⟩) hs6 (by simp)).trans q1, (hu6.out.cell (p := ⟨w.heap.size + 1, 7, none⟩) hs6 (by simp)).trans q2, (hu6.out.cell (p := ⟨w.heap.size + 1, 8, none⟩) hs6 (by simp)).trans q3⟩
      have hu7 : Upd [w.heap.size + 1, w.heap.size] w1 _ := (hu5.out.wide (S := [w.heap.size + 1, w.heap.size]) (fun k hk _ => by simp at hk; simp [hk])).step hu6.out.drew (fun k hk _ => by simp at hk; simp [hk])
      have hfin : ListPost B p T len cl bs ls ad w (.returned (.tuple #[.agg #[.int .u8 (x0 : Nat), .int .u8 (x1 : Nat), .int .u8 (x2 : Nat), .int .u8 (x3 : Nat)], .pointer (some ⟨w.heap.size + 1, 0, none⟩), .nilIface])) (((((wB.setCell ⟨w.heap.size, 0, none⟩ (.int .u8 (x0 : Nat))).setCell ⟨w.heap.size, 1, none⟩ (.int .u8 (x1 : Nat))).setCell ⟨w.heap.size, 2, none⟩ (.int .u8 (x2 : Nat))).setCell ⟨w.heap.size, 3, none⟩ (.int .u8 (x3 : Nat))).drew) := by
        refine ⟨fun h => absurd h h4, fun _ h => absurd h ha, fun _ _ => ⟨w.heap.size + 1, bf, by omega, ?_, ?_, ?_, ?_⟩⟩
        · unfold four
          rw [hx0.out, hx1.out, hx2.out, hx3.out]
        · exact u3.out.step hu7 (fun i hi hlt => by simp at hi; omega)
        · refine Chain.upd hu7 (by simp; omega) hB1 hC2.out (fun k hk => ?_)
          rw [all_adv] at hk
          intro hm
          simp at hm
          rcases hm with rfl | rfl
          · exact hnew hk
          · exact hnew4 hk
        · rw [hif.out]
          exact (hz3.out.upd hu6.out (by simp)).to rfl
      replace hfin := hide hfin
      clear hu7
      go_region_held3 (fun W' => W'.cell? ⟨w.heap.size + 1, 5, none⟩ = some (.int .u8 (x0 : Nat)) ∧ W'.cell? ⟨w.heap.size + 1, 6, none⟩ = some (.int .u8 (x1 : Nat)) ∧ W'.cell? ⟨w.heap.size + 1, 7, none⟩ = some (.int .u8 (x2 : Nat)) ∧ W'.cell? ⟨w.heap.size + 1, 8, none⟩ = some (.int .u8 (x3 : Nat))) (first | with_reducible exact hK4.out | with_reducible exact hK6.out | fail) (first | fail)
      go_wp2_with fail
      exact bodyPost_ret (ret_cell_tmp2 rfl rfl (load_four (Blk.drew hb6.out) rfl) rfl rfl) rfl (by exact hfin.out)
end Go.Proofs.YthkpoidnhgcjhaaDoor

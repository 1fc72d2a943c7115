/- 'impl.Riff': the walk. -/
import Derived.Test.YthkpoidnhgcjhaaDoorRfRound
namespace Go.Proofs.YthkpoidnhgcjhaaDoor
set_option linter.unusedSimpArgs false
set_option linter.unusedVariables false
set_option linter.unnecessarySimpa false
open Go.RowKit Plain

theorem rrun_succ (most : Nat) (steps : List (Int × Int)) (s : RS) (j : Nat) (op n : Int) (hj : j < steps.length) (h : steps.getD j (0, 0) = (op, n)) : rrun most (steps.take (j + 1)) s = rstep most op n (rrun most (steps.take j) s) := by
  have e : steps[j] = (op, n) := by simpa [hj] using h
  unfold rrun
  rw [List.take_succ_eq_append_getElem hj, List.foldl_append, e]
  rfl
theorem rrun_inv (nb : Nat) (steps : List (Int × Int)) (s : RS) (h : RInv nb 0 s) : ∀ j, j ≤ steps.length → RInv nb j (rrun (nb + 1) (steps.take j) s)
  | 0, _ => by simpa [rrun] using h
  | j + 1, hj => by
    rw [rrun_succ (nb + 1) steps s j _ _ (by omega) rfl]
    exact (rrun_inv nb steps s h j (by omega)).step
theorem own_box {w : World} {B q : Nat} {e : TypeId} {u : Value} (h : Blk w q e #[u]) (hB : B ≤ q) : w.ownsRow B e 1 (.slice (some ⟨q, 0, none⟩) 1 1) 1 [u] :=
  ⟨rfl, .inr ⟨q, 1, #[u], rfl, hB, h, Nat.le_refl _, by simp [maxLen], rfl, rfl⟩⟩
theorem size_arr4 : (Tryd.prog.info? 22).map (·.size) = some 4 := by kernel_rfl
theorem load_arr4 {w : World} {g : Nat} {cs : Array Value} (h : Blk w g 22 cs) (hs : cs.size = 4) : (loadVar 22 ⟨g, 0, none⟩).run Tryd.prog w = .ok (.agg cs) w := by
  have h9 := run_loadVar_mid (P := Tryd.prog) w g 0 22 cs.toList _ h.range Tryd.underlying22 rfl (by rw [Array.length_toList, hs]; exact size_arr4)
  rwa [Array.toArray_toList] at h9
theorem kind_head {W : World} {B : Nat} {ae au ar ad al ap ah ax : Addr} (hE : Errs W B ae au ar ad al ap ah) (hax : ax = ar ∨ ax = ad) : Calls Tryd.prog 22 #[.iface 122 (.pointer (some ax))] W fun e w' => e = .returned (.int .i64 2) ∧ W = w' := by
  obtain ⟨n1, n2, n3, n4, n5, n6⟩ := hE.ne
  refine kind_wrong ax ae W hE.eof.cell ?_
  rcases hax with h | h <;> subst h
  · exact eql_other hE.rif hE.eof n2
  · exact eql_other hE.dat hE.eof n3
/-- What 'impl.Riff' answers. -/
def RiffPost (w : World) (r : List Nat × List Ck × List Int) (e : Ending) (w' : World) : Prop :=
  ∃ ov kv, e = .returned (.tuple #[four r.1, ov, kv]) ∧ Upd [] w w' ∧ Outs w' w.heap.size ov r.2.1 ∧ w'.ownsRow w.heap.size 3 1 kv r.2.2.length (r.2.2.map (Value.int .i64))
set_option maxRecDepth 1000000 in
set_option maxHeartbeats 16000000 in
theorem riff_any (w : World) (Ab Ac As : Option Addr) (cb cc cs : Nat) (bl : List Nat) (cl : List Int) (steps : List (Int × Int)) (ae au ar ad al ap ah : Addr)
    (hb : Rd .u8 w w.heap.size Ab (ofNr bl)) (hbc : bl.length ≤ cb) (hbl : (bl.length : Int) ≤ 1073741824) (hO : ∀ x ∈ bl, x ≤ 255) (hc : Rd .i64 w w.heap.size Ac cl) (hcl : (cl.length : Int) ≤ 2147483647) (hcw : ∀ x ∈ cl, -9223372036854775808 ≤ x ∧ x ≤ 9223372036854775807)
    (hs : RdS w w.heap.size As steps) (hsl : (steps.length : Int) ≤ 1048576) (hsw : ∀ x ∈ steps, (-9223372036854775808 ≤ x.1 ∧ x.1 ≤ 9223372036854775807) ∧ -9223372036854775808 ≤ x.2 ∧ x.2 ≤ 9223372036854775807) (hE : Errs w w.heap.size ae au ar ad al ap ah) :
    Calls Tryd.prog 12 #[.slice Ab bl.length cb, .slice Ac cl.length cc, .slice As steps.length cs] w (RiffPost w (riffP bl steps)) := by
  obtain ⟨B, hB⟩ : ∃ B, B = w.heap.size := ⟨_, rfl⟩
  obtain ⟨Z4, hZ4⟩ : ∃ Z4 : Array Value, Z4 = #[.int .u8 0, .int .u8 0, .int .u8 0, .int .u8 0] := ⟨_, rfl⟩
  obtain ⟨PB, hPB⟩ : ∃ PB : Array Value, PB = #[.slice Ab bl.length cb, .slice Ac cl.length cc, .int .i64 0] := ⟨_, rfl⟩
  have hmul : steps.length * (bl.length + 12) ≤ 1048576 * 1073741836 := Nat.mul_le_mul (by omega) (by omega)
  have hvT : Env B cl (14 + steps.length * (bl.length + 12)) := ⟨hcl, hcw, by omega, by rw [hB]; exact hE.eof.glt⟩
  have u1 := ((Upd.refl [] w).alloc (.cells Z4 22)).alloc (.cells PB 62)
  have hrb := (Blk.new w 22 Z4).alloc (.cells PB 62)
  have hp := Blk.new (w.alloc (.cells Z4 22)) 62 PB
  rw [World.size_alloc] at hp
  have hs1 : ((w.alloc (.cells Z4 22)).alloc (.cells PB 62)).heap.size = w.heap.size + 2 := by simp
  have hE1 := hE.upd u1 (by simp) (Nat.le_refl _)
  have hCh : Chain ((w.alloc (.cells Z4 22)).alloc (.cells PB 62)) w.heap.size (w.heap.size + 1) cl [] bl 0 := by
    refine ⟨⟨Ab, cb, Ac, cc, 0, ?_, hbc, hb.upd u1 (Nat.le_refl _) (by simp), hc.upd u1 (Nat.le_refl _) (by simp), Nat.le_refl _⟩, by omega⟩
    rw [hPB] at hp ⊢
    exact hp
  have cN := new_any w.heap.size (w.heap.size + 1) 0 cl bl ae au ar ad al ap ah _ (hB ▸ hvT.le (by omega)) hCh hO (by omega) (by omega) hE1
  have hif : ifOf (w.heap.size + 1) [] = .iface 60 (.pointer (some ⟨w.heap.size + 1, 0, none⟩)) := rfl
  rw [hif] at cN
  have hsS : ∀ W, Upd [] w W → RdS W w.heap.size As steps := fun W u => hs.keep fun q hq => u.cell hq (by simp)
  rw [hZ4, hPB] at cN u1 hrb hs1 hE1
  clear hCh hp
  replace cN := hide cN
  replace u1 := hide u1
  replace hrb := hide hrb
  replace hE1 := hide hE1
  replace hE := hide hE
  replace hs1 := hide hs1
  replace hvT := hide hvT
  replace hO := hide hO
  replace hmul := hide hmul
  clear hb hc hsS
  replace hs := hide hs
  replace hsw := hide hsw
  by_cases hok : OkHead bl
  · rcases id hok with ⟨h12, hmg, hle⟩
    have hr : riffP bl steps = ((bl.drop 8).take 4, (rrun (bl.length + 1) steps (rstart bl)).out, (rrun (bl.length + 1) steps (rstart bl)).kinds) := by unfold riffP; rw [if_pos hok]
    rw [hr]
    clear hr
    go_enter Tryd.func12, Tryd.ntmps12
    go_wp2_with (first
      | (go_at_call 21; (with_reducible refine (cN.out).mono ?_); rintro e w1 ⟨hu1, hN1⟩; rcases hN1 with ⟨hbad, _⟩ | ⟨_, z, bf, hz2, rfl, hch1, hrz1⟩; exact absurd hok hbad; unfold four; generalize ha0 : (bl.drop 8).getD 0 0 = a0; generalize ha1 : (bl.drop 8).getD 1 0 = a1; generalize ha2 : (bl.drop 8).getD 2 0 = a2; generalize ha3 : (bl.drop 8).getD 3 0 = a3; replace ha0 := hide ha0; replace ha1 := hide ha1; replace ha2 := hide ha2; replace ha3 := hide ha3; replace hch1 := hide hch1; replace hrz1 := hide hrz1; replace hu1 := hide hu1)
      | fail)
    (with_reducible refine (kind_nil _).mono ?_)
    rintro e w' ⟨rfl, rfl⟩
    go_upto_region 8 with fail
    have hs9 := hu1.out.size
    have hs1' := hs1.out
    have hw1 : w.heap.size + 2 ≤ w1.heap.size := by omega
    have uw1 := u1.out.step hu1.out (fun i hi hlt => by simp at hi; omega)
    have t1 := ((((Upd.refl [] w1).alloc (.cells #[.int .u8 (a0 : Nat), .int .u8 (a1 : Nat), .int .u8 (a2 : Nat), .int .u8 (a3 : Nat)] 54)).alloc (.cells #[.int .i64 0] 3)).alloc (.cells #[.pointer (some ⟨z, 0, none⟩), .nilIface] 68)).typed0 (B := w.heap.size) (ts := [])
    have uL := hide (((uw1.alloc (.cells #[.int .u8 (a0 : Nat), .int .u8 (a1 : Nat), .int .u8 (a2 : Nat), .int .u8 (a3 : Nat)] 54)).alloc (.cells #[.int .i64 0] 3)).alloc (.cells #[.pointer (some ⟨z, 0, none⟩), .nilIface] 68))
    have hrbL := hide ((((hrb.out.upd hu1.out (by simp)).alloc (.cells #[.int .u8 (a0 : Nat), .int .u8 (a1 : Nat), .int .u8 (a2 : Nat), .int .u8 (a3 : Nat)] 54)).alloc (.cells #[.int .i64 0] 3)).alloc (.cells #[.pointer (some ⟨z, 0, none⟩), .nilIface] 68))
    have hfbL := hide (((Blk.new w1 54 #[.int .u8 (a0 : Nat), .int .u8 (a1 : Nat), .int .u8 (a2 : Nat), .int .u8 (a3 : Nat)]).alloc (.cells #[.int .i64 0] 3)).alloc (.cells #[.pointer (some ⟨z, 0, none⟩), .nilIface] 68))
    have hkb := (Blk.new (w1.alloc (.cells #[.int .u8 (a0 : Nat), .int .u8 (a1 : Nat), .int .u8 (a2 : Nat), .int .u8 (a3 : Nat)] 54)) 3 #[.int .i64 0]).alloc (.cells #[.pointer (some ⟨z, 0, none⟩), .nilIface] 68)
    have hnb := Blk.new ((w1.alloc (.cells #[.int .u8 (a0 : Nat), .int .u8 (a1 : Nat), .int .u8 (a2 : Nat), .int .u8 (a3 : Nat)] 54)).alloc (.cells #[.int .i64 0] 3)) 68 #[.pointer (some ⟨z, 0, none⟩), .nilIface]
    rw [show (w1.alloc (.cells #[.int .u8 (a0 : Nat), .int .u8 (a1 : Nat), .int .u8 (a2 : Nat), .int .u8 (a3 : Nat)] 54)).heap.size = w1.heap.size + 1 from by simp] at hkb
    rw [show ((w1.alloc (.cells #[.int .u8 (a0 : Nat), .int .u8 (a1 : Nat), .int .u8 (a2 : Nat), .int .u8 (a3 : Nat)] 54)).alloc (.cells #[.int .i64 0] 3)).heap.size = w1.heap.size + 1 + 1 from by simp] at hnb
    have hchL := hide (t1.chain (by omega) (by decide) (by decide) (by decide) hch1.out)
    have hrzL := hide (t1.rz hrz1.out (by decide))
    replace hkb := hide hkb
    replace hnb := hide hnb
    have hzl : z < w1.heap.size := hrz1.out.lt
    have hzg : w.heap.size + 2 ≤ z := by omega
    clear t1 uw1 hu1 hch1 hrz1 cN u1 hrb hE1 hs1 hs1' hs9 hz2
    generalize ((w1.alloc (.cells #[.int .u8 (a0 : Nat), .int .u8 (a1 : Nat), .int .u8 (a2 : Nat), .int .u8 (a3 : Nat)] 54)).alloc (.cells #[.int .i64 0] 3)).alloc (.cells #[.pointer (some ⟨z, 0, none⟩), .nilIface] 68) = wL at *
    generalize hkq : w1.heap.size + 1 + 1 = nw at *
    generalize hkp : w1.heap.size + 1 = kb at *
    generalize w1.heap.size = fb at *
    have hst0 : rrun (bl.length + 1) (steps.take 0) (rstart bl) = rstart bl := by simp [rrun]
    have hinv0 : RInv bl.length 0 (rstart bl) := ⟨rfl, Nat.le_refl _, Nat.le_refl _, by simp [rstart], fun x hx => hO.out x (List.mem_of_mem_drop hx), fun c hc => by simp [rstart] at hc, fun c hc => by simp [rstart] at hc, fun l h => by cases h⟩
    have hC0 : RC w wL w.heap.size ae au ar ad al ap ah fb w.heap.size #[.int .u8 (a0 : Nat), .int .u8 (a1 : Nat), .int .u8 (a2 : Nat), .int .u8 (a3 : Nat)] #[.int .u8 0, .int .u8 0, .int .u8 0, .int .u8 0] (rrun (bl.length + 1) (steps.take 0) (rstart bl)).out (rrun (bl.length + 1) (steps.take 0) (rstart bl)).kinds (.slice (some ⟨kb, 0, none⟩) 1 1) (.slice none 0 0) := by
      rw [hst0]
      exact ⟨uL.out, rfl, hE.out.upd uL.out (by simp) (Nat.le_refl _), Outs.nil _ _, own_box hkb.out (by omega), hfbL.out, hrbL.out⟩
    have hle4 := le4_lt (bl.drop 4) (fun x hx => hO.out x (List.mem_of_mem_drop hx))
    have hN0 : RN wL w.heap.size (w.heap.size + 1) cl (14 + 0 * (bl.length + 12)) ae ad al ap ah (rrun (bl.length + 1) (steps.take 0) (rstart bl)).now (rrun (bl.length + 1) (steps.take 0) (rstart bl)).ls (rrun (bl.length + 1) (steps.take 0) (rstart bl)).bs (.slice none 0 0) nw := by
      rw [hst0]
      exact ⟨⟨z, .nilIface, [], hnb.out, rfl, ⟨rfl, ⟨⟨_, bf, hrzL.out, fun h => absurd rfl h⟩, by rw [Nat.zero_mul]; exact hchL.out, by simp [allOf]; omega, by omega, Nat.zero_le _, (show le4 (bl.drop 4) - 4 < 4294967296 by omega)⟩⟩, ⟨rfl, .inl ⟨rfl, rfl⟩⟩⟩, by omega, by simp [Value.ownBlock]⟩
    have hinv := rrun_inv bl.length steps (rstart bl) hinv0
    replace hC0 := hide hC0
    replace hN0 := hide hN0
    replace hinv := hide hinv
    clear hst0 hinv0 hle4 hrzL hchL hnb hkb hfbL hrbL uL hmg
    go_wp2_with fail
    go_loopg [12, 13, 14, 47] steps.length (fun k v12 v13 v14 v47 wr => ∃ j : Nat, k + j = steps.length ∧ v47 = .int .i64 (j : Nat) ∧
      RC w wr w.heap.size ae au ar ad al ap ah fb w.heap.size #[.int .u8 (a0 : Nat), .int .u8 (a1 : Nat), .int .u8 (a2 : Nat), .int .u8 (a3 : Nat)] #[.int .u8 0, .int .u8 0, .int .u8 0, .int .u8 0] (rrun (bl.length + 1) (steps.take j) (rstart bl)).out (rrun (bl.length + 1) (steps.take j) (rstart bl)).kinds v12 v13 ∧
      RN wr w.heap.size (w.heap.size + 1) cl (14 + j * (bl.length + 12)) ae ad al ap ah (rrun (bl.length + 1) (steps.take j) (rstart bl)).now (rrun (bl.length + 1) (steps.take j) (rstart bl)).ls (rrun (bl.length + 1) (steps.take j) (rstart bl)).bs v14 nw)
    case atStart => exact ⟨0, by simp, by simp, hC0.out, hN0.out⟩
    case round =>
      obtain ⟨j, hj, rfl, hC, hN⟩ := hrel
      cases gk with
      | zero =>
        have hj' : j = steps.length := by omega
        subst hj'
        rw [List.take_length] at hC hN
        have hul := hC.up.size
        have hnwl : w.heap.size < wr.heap.size := hC.res.lt
        obtain ⟨Ak, ck, rfl⟩ := own_shape hC.kinds
        have c0 := hC.form.cell 0
        have c1 := hC.form.cell 1
        have c2 := hC.form.cell 2
        have c3 := hC.form.cell 3
        have d0 := hC.res.cell 0
        have d1 := hC.res.cell 1
        have d2 := hC.res.cell 2
        have d3 := hC.res.cell 3
        have e0 := hC.res.frozen 0
        have e1 := hC.res.frozen 1
        have e2 := hC.res.frozen 2
        have e3 := hC.res.frozen 3
        simp at c0 c1 c2 c3 d0 d1 d2 d3
        replace hC := hide hC
        clear hN hC0 hN0 hinv
        have hfne : ¬ fb = w.heap.size := by omega
        have hfne' : ¬ w.heap.size = fb := by omega
        go_wp2_with fail
        have uT : UpdT w.heap.size [22] wr _ := Upd.typed (upd_four (Upd.refl [w.heap.size] wr) (g := w.heap.size) (.inl (by simp)) (.int .u8 (a0 : Nat)) (.int .u8 (a1 : Nat)) (.int .u8 (a2 : Nat)) (.int .u8 (a3 : Nat))) (by simp) (fun k hk _ => by simp at hk; subst hk; exact ⟨_, _, hC.out.res, by simp⟩)
        have hX := blk_four hC.out.res (.int .u8 (a0 : Nat)) (.int .u8 (a1 : Nat)) (.int .u8 (a2 : Nat)) (.int .u8 (a3 : Nat))
        have hfo : four ((bl.drop 8).take 4) = .agg #[.int .u8 (a0 : Nat), .int .u8 (a1 : Nat), .int .u8 (a2 : Nat), .int .u8 (a3 : Nat)] := by
          rw [four_take, four, ha0.out, ha1.out, ha2.out, ha3.out]
        have hfin : RiffPost w ((bl.drop 8).take 4, (rrun (bl.length + 1) steps (rstart bl)).out, (rrun (bl.length + 1) steps (rstart bl)).kinds) (.returned (.tuple #[.agg #[.int .u8 (a0 : Nat), .int .u8 (a1 : Nat), .int .u8 (a2 : Nat), .int .u8 (a3 : Nat)], u13, .slice Ak (rrun (bl.length + 1) steps (rstart bl)).kinds.length ck])) _ :=
          ⟨u13, _, by rw [hfo], uT.upd0 hC.out.up rfl, uT.outs hC.out.outs (by decide) (by decide), uT.own hC.out.kinds (by decide)⟩
        replace hfin := hide hfin
        exact bodyPost_ret (ret_cell_tmp2 rfl rfl (load_arr4 hX rfl) rfl rfl) rfl (by exact hfin.out)
      | succ k =>
        rename_i hJK
        obtain ⟨op, n, hst⟩ : ∃ op n, steps.getD j (0, 0) = (op, n) := ⟨_, _, rfl⟩
        have hjl : j < steps.length := by omega
        have hmem : (op, n) ∈ steps := by
          have e : steps[j] = (op, n) := by simpa [hjl] using hst
          rw [← e]
          exact List.getElem_mem hjl
        have hsucc := rrun_succ (bl.length + 1) steps (rstart bl) j op n hjl hst
        have hT1 : 14 + (j + 1) * (bl.length + 12) = 14 + j * (bl.length + 12) + bl.length + 12 := by rw [Nat.succ_mul]; omega
        have hT2 : (j + 1) * (bl.length + 12) ≤ steps.length * (bl.length + 12) := Nat.mul_le_mul_right _ (by omega)
        have hi := hinv.out j (by omega)
        generalize rrun (bl.length + 1) (steps.take j) (rstart bl) = S at *
        refine round_riff _ _ w wr Ab As w.heap.size (w.heap.size + 1) (14 + j * (bl.length + 12)) bl.length cb steps.length cs j fb w.heap.size nw cl ae au ar ad al ap ah #[.int .u8 (a0 : Nat), .int .u8 (a1 : Nat), .int .u8 (a2 : Nat), .int .u8 (a3 : Nat)] #[.int .u8 0, .int .u8 0, .int .u8 0, .int .u8 0] _ _ _ steps op n S.ls S.bs S.out S.kinds S.now hi.cl hi.hand (hB ▸ hvT.out.le (by omega)) (by omega) hbl hjl rfl hs.out hst (hsw.out _ hmem).1 (hsw.out _ hmem).2 hi.kl hi.ol hi.pl hi.bl hi.byt hi.dl hC hN ?_
        clear hC hN hC0 hN0 hinv hi
        intro v17 v18 v19 v20 v21 v22 v23 v24 v25 v48 v49 v50 v51 v52 v53 v54 v55 v56 v57 v58 v59 v60 v61 v62 v63 v64 v65 v66 v67 v68 v69 v70 v71 v72 v73 v74 v75 v76 v77 v78 v79 v80 v81 v82 v83 v84 v85 v86 v87 v88 v89 v90 v91 v92 v93 v94 v95 v96 v97 v98 v99 v100 v101 v102 v103 v104 v105 v106 v107 v108 v109 v110 v111 v112 v113 v114 v115 v116 v117 v118 v119 v120 v121 v122 v123 v124 v125 v126 v127 v128 v129 v130 v131 v132 v133 v134 v135 v136 v137 v138 v139 v140 v141 v142 v143 v144 v145 v146 v147 v148 v149 v150 v151 v152 v153 v154 v155 v156 kv' ov' av' w' hC' hN'
        refine hJK _ _ ?_
        go_roundg k
        case measure => omega
        case rel =>
          refine ⟨j + 1, by omega, rfl, ?_, ?_⟩
          · rw [hsucc]; exact hC'
          · rw [hsucc, hT1]; exact hN'
  · have hr : riffP bl steps = ([0, 0, 0, 0], [], [2]) := by unfold riffP; rw [if_neg hok]
    rw [hr]
    clear hr
    go_enter Tryd.func12, Tryd.ntmps12
    go_wp2_with (first
      | (go_at_call 21; (with_reducible refine (cN.out).mono ?_); rintro e w1 ⟨hu1, hN1⟩; rcases hN1 with ⟨_, ax, hax, rfl⟩ | ⟨hbad, _⟩; rotate_left; exact absurd hbad hok; unfold zero4 errV)
      | fail)
    have uw1 := u1.out.step hu1 (fun i hi hlt => by simp at hi; omega)
    have hE2 := hE.out.upd (uw1.alloc (.cells #[.int .u8 0, .int .u8 0, .int .u8 0, .int .u8 0] 54)) (by simp) (Nat.le_refl _)
    (with_reducible refine (kind_head hE2 hax).mono ?_)
    rintro e w' ⟨rfl, rfl⟩
    have u2 := hide (uw1.alloc (.cells #[.int .u8 0, .int .u8 0, .int .u8 0, .int .u8 0] 54))
    have hrb2 := hide ((hrb.out.upd hu1 (by simp)).alloc (.cells #[.int .u8 0, .int .u8 0, .int .u8 0, .int .u8 0] 54))
    have hfq2 := hide (Blk.new w1 54 #[.int .u8 0, .int .u8 0, .int .u8 0, .int .u8 0])
    have hfr : w.heap.size < w1.heap.size := by have := hu1.size; have := hs1.out; omega
    have hfr' : ¬ w1.heap.size = w.heap.size := by omega
    have hfr'' : ¬ w.heap.size = w1.heap.size := by omega
    clear hE2 uw1 hu1 cN u1 hrb
    generalize w1.alloc (.cells #[.int .u8 0, .int .u8 0, .int .u8 0, .int .u8 0] 54) = w2 at *
    generalize w1.heap.size = fq at *
    have c0 := hfq2.out.cell 0
    have c1 := hfq2.out.cell 1
    have c2 := hfq2.out.cell 2
    have c3 := hfq2.out.cell 3
    have d0 := hrb2.out.cell 0
    have d1 := hrb2.out.cell 1
    have d2 := hrb2.out.cell 2
    have d3 := hrb2.out.cell 3
    have e0 := hrb2.out.frozen 0
    have e1 := hrb2.out.frozen 1
    have e2 := hrb2.out.frozen 2
    have e3 := hrb2.out.frozen 3
    have hl2 := hrb2.out.lt
    have hf2 := hfq2.out.lt
    simp at c0 c1 c2 c3 d0 d1 d2 d3
    go_wp2_with fail
    have hX := ((blk_four hrb2.out (.int .u8 0) (.int .u8 0) (.int .u8 0) (.int .u8 0)).alloc (.cells #[.int .i64 2] 3)).alloc (.cells #[.int .i64 2] 3)
    have uX := ((upd_four u2.out (g := w.heap.size) (.inr (Nat.le_refl _)) (.int .u8 0) (.int .u8 0) (.int .u8 0) (.int .u8 0)).alloc (.cells #[.int .i64 2] 3)).alloc (.cells #[.int .i64 2] 3)
    have hk := Blk.new (((((w2.setCell ⟨w.heap.size, 0, none⟩ (.int .u8 0)).setCell ⟨w.heap.size, 1, none⟩ (.int .u8 0)).setCell ⟨w.heap.size, 2, none⟩ (.int .u8 0)).setCell ⟨w.heap.size, 3, none⟩ (.int .u8 0)).alloc (.cells #[.int .i64 2] 3)) 3 #[.int .i64 2]
    rw [show (((((w2.setCell ⟨w.heap.size, 0, none⟩ (.int .u8 0)).setCell ⟨w.heap.size, 1, none⟩ (.int .u8 0)).setCell ⟨w.heap.size, 2, none⟩ (.int .u8 0)).setCell ⟨w.heap.size, 3, none⟩ (.int .u8 0)).alloc (.cells #[.int .i64 2] 3)).heap.size = w2.heap.size + 1 from by simp] at hk
    exact bodyPost_ret (ret_cell_tmp2 rfl rfl (load_arr4 hX rfl) rfl rfl) rfl (by exact ⟨.slice none 0 0, .slice (some ⟨w2.heap.size + 1, 0, none⟩) 1 1, rfl, uX, Outs.nil _ _, own_box hk (by omega)⟩)
end Go.Proofs.YthkpoidnhgcjhaaDoor

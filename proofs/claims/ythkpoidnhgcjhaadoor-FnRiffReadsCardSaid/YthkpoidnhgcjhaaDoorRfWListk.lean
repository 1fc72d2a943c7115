/- A way through the round of 'impl.Riff'. -/
import Derived.Test.YthkpoidnhgcjhaaDoorRfState
namespace Go.Proofs.YthkpoidnhgcjhaaDoor
set_option linter.unusedSimpArgs false
set_option linter.unusedVariables false
set_option linter.unnecessarySimpa false
open Go.RowKit Plain

set_option maxRecDepth 1000000 in
set_option maxHeartbeats 8000000 in
theorem way_listk {f1 f10 f16 f26 f27 f28 f29 f30 f31 f32 f33 f34 f35 f36 f37 f38 f39 f40 f41 f42 f43 f44 f157 f158 f159 u17 u18 u19 u20 u21 u22 u23 u24 u25 u48 u49 u50 u51 u52 u53 u54 u55 u56 u57 u58 u59 u60 u61 u62 u63 u64 u65 u66 u67 u68 u69 u70 u71 u72 u73 u74 u75 u76 u77 u78 u79 u80 u81 u82 u83 u84 u85 u86 u87 u88 u89 u90 u91 u92 u93 u94 u95 u96 u97 u98 u99 u100 u101 u102 u103 u104 u105 u106 u107 u108 u109 u110 u111 u112 u113 u114 u115 u116 u117 u118 u119 u120 u121 u122 u123 u124 u125 u126 u127 u128 u129 u130 u131 u132 u133 u134 u135 u136 u137 u138 u139 u140 u141 u142 u143 u144 u145 u146 u147 u148 u149 u150 u151 u152 u153 u154 u155 u156 : Value} (K : Act → World → Prop) (Q0 : Exit → Act → World → Prop) (w0 w : World) (Ab As : Option Addr) (B p T nb cb ns cs k fb rb nw : Nat) (cl : List Int) (ae au ar ad al ap ah : Addr) (form z4 : Array Value) (kv ov av : Value) (steps : List (Int × Int)) (op n : Int)
    (pls : List PL) (bs : List Nat) (out : List Ck) (kinds : List Int) (l : PL) (pre : List Ck) (cc : Ck) (hout : out = pre ++ [cc]) (hcl : cc.len < 4294967296) (hopv : op = 2) (hcs : ¬ cc.len < 4) (hav4 : ¬ (pstr (l :: pls) bs).length < 4)
    (hv : Env B cl (T + nb + 12)) (hns : (ns : Int) ≤ 1073741824) (hnb : (nb : Int) ≤ 1073741824) (hk : k < ns) (hst : steps.length = ns) (hS : RdS w0 B As steps) (hstep : steps.getD k (0, 0) = (op, n)) (hop : -9223372036854775808 ≤ op ∧ op ≤ 9223372036854775807) (hnI : -9223372036854775808 ≤ n ∧ n ≤ 9223372036854775807)
    (hkl : kinds.length = k + 1) (hol : out.length ≤ k) (hpl : pls.length ≤ k) (hbl : bs.length ≤ nb) (hO : ∀ x ∈ bs, x ≤ 255) (hdl : ∀ c ∈ out, c.data.length + bs.length ≤ nb)
    (C : RC w0 w B ae au ar ad al ap ah fb rb form z4 out kinds kv ov) (N : RN w B p cl T ae ad al ap ah (.live l true) pls bs av nw)
    (hK : ∀ (v17 v18 v19 v20 v21 v22 v23 v24 v25 v48 v49 v50 v51 v52 v53 v54 v55 v56 v57 v58 v59 v60 v61 v62 v63 v64 v65 v66 v67 v68 v69 v70 v71 v72 v73 v74 v75 v76 v77 v78 v79 v80 v81 v82 v83 v84 v85 v86 v87 v88 v89 v90 v91 v92 v93 v94 v95 v96 v97 v98 v99 v100 v101 v102 v103 v104 v105 v106 v107 v108 v109 v110 v111 v112 v113 v114 v115 v116 v117 v118 v119 v120 v121 v122 v123 v124 v125 v126 v127 v128 v129 v130 v131 v132 v133 v134 v135 v136 v137 v138 v139 v140 v141 v142 v143 v144 v145 v146 v147 v148 v149 v150 v151 v152 v153 v154 v155 v156 kv' ov' av' : Value) (w' : World), RC w0 w' B ae au ar ad al ap ah fb rb form z4 out (kinds ++ [0]) kv' ov' → RN w' B p cl (T + nb + 12) ae ad al ap ah (.live ⟨cc.len - 4, 0, false⟩ false) (l.on 4 :: padv 4 pls) (bs.drop 4) av' nw → K ⟨(.slice Ab nb cb :: f1 :: .slice As ns cs :: undef :: undef :: undef :: .pointer (some ⟨rb, 0, none⟩) :: .slice none 0 0 :: .slice none 0 0 :: .pointer (some ⟨fb, 0, none⟩) :: f10 :: .nilIface :: kv' :: ov' :: av' :: .pointer (some ⟨nw, 0, none⟩) :: f16 :: v17 :: v18 :: v19 :: v20 :: v21 :: v22 :: v23 :: v24 :: v25 :: f26 :: f27 :: f28 :: f29 :: f30 :: f31 :: f32 :: f33 :: f34 :: f35 :: f36 :: f37 :: f38 :: f39 :: f40 :: f41 :: f42 :: f43 :: f44 :: .slice As ns cs :: .int .i64 (ns : Nat) :: .int .i64 ((k + 1 : Nat) : Int) :: v48 :: v49 :: v50 :: v51 :: v52 :: v53 :: v54 :: v55 :: v56 :: v57 :: v58 :: v59 :: v60 :: v61 :: v62 :: v63 :: v64 :: v65 :: v66 :: v67 :: v68 :: v69 :: v70 :: v71 :: v72 :: v73 :: v74 :: v75 :: v76 :: v77 :: v78 :: v79 :: v80 :: v81 :: v82 :: v83 :: v84 :: v85 :: v86 :: v87 :: v88 :: v89 :: v90 :: v91 :: v92 :: v93 :: v94 :: v95 :: v96 :: v97 :: v98 :: v99 :: v100 :: v101 :: v102 :: v103 :: v104 :: v105 :: v106 :: v107 :: v108 :: v109 :: v110 :: v111 :: v112 :: v113 :: v114 :: v115 :: v116 :: v117 :: v118 :: v119 :: v120 :: v121 :: v122 :: v123 :: v124 :: v125 :: v126 :: v127 :: v128 :: v129 :: v130 :: v131 :: v132 :: v133 :: v134 :: v135 :: v136 :: v137 :: v138 :: v139 :: v140 :: v141 :: v142 :: v143 :: v144 :: v145 :: v146 :: v147 :: v148 :: v149 :: v150 :: v151 :: v152 :: v153 :: v154 :: v155 :: v156 :: f157 :: f158 :: f159 :: [] : List Value).toArray, []⟩ w') :
    Code.wp Tryd.prog bodyRiff (Exit.then K Q0) ⟨(.slice Ab nb cb :: f1 :: .slice As ns cs :: undef :: undef :: undef :: .pointer (some ⟨rb, 0, none⟩) :: .slice none 0 0 :: .slice none 0 0 :: .pointer (some ⟨fb, 0, none⟩) :: f10 :: .nilIface :: kv :: ov :: av :: .pointer (some ⟨nw, 0, none⟩) :: f16 :: u17 :: u18 :: u19 :: u20 :: u21 :: u22 :: u23 :: u24 :: u25 :: f26 :: f27 :: f28 :: f29 :: f30 :: f31 :: f32 :: f33 :: f34 :: f35 :: f36 :: f37 :: f38 :: f39 :: f40 :: f41 :: f42 :: f43 :: f44 :: .slice As ns cs :: .int .i64 (ns : Nat) :: .int .i64 (k : Int) :: u48 :: u49 :: u50 :: u51 :: u52 :: u53 :: u54 :: u55 :: u56 :: u57 :: u58 :: u59 :: u60 :: u61 :: u62 :: u63 :: u64 :: u65 :: u66 :: u67 :: u68 :: u69 :: u70 :: u71 :: u72 :: u73 :: u74 :: u75 :: u76 :: u77 :: u78 :: u79 :: u80 :: u81 :: u82 :: u83 :: u84 :: u85 :: u86 :: u87 :: u88 :: u89 :: u90 :: u91 :: u92 :: u93 :: u94 :: u95 :: u96 :: u97 :: u98 :: u99 :: u100 :: u101 :: u102 :: u103 :: u104 :: u105 :: u106 :: u107 :: u108 :: u109 :: u110 :: u111 :: u112 :: u113 :: u114 :: u115 :: u116 :: u117 :: u118 :: u119 :: u120 :: u121 :: u122 :: u123 :: u124 :: u125 :: u126 :: u127 :: u128 :: u129 :: u130 :: u131 :: u132 :: u133 :: u134 :: u135 :: u136 :: u137 :: u138 :: u139 :: u140 :: u141 :: u142 :: u143 :: u144 :: u145 :: u146 :: u147 :: u148 :: u149 :: u150 :: u151 :: u152 :: u153 :: u154 :: u155 :: u156 :: f157 :: f158 :: f159 :: [] : List Value).toArray, []⟩ w := by
  subst hopv
  subst hout
  have hI : (k : Int) < ns := by omega
  have hwB := C.up.size
  have hB0 := C.hB0
  obtain ⟨sb, so, rfl, hsb, hcell⟩ := hS (by rintro rfl; simp at hst; omega)
  obtain ⟨ho1, ho2⟩ := hcell k (by omega)
  rw [hstep] at ho1 ho2
  replace ho1 := (C.up.cell (p := ⟨sb, so + k * 2, none⟩) (by show sb < _; omega) (by simp)).trans ho1
  replace ho2 := (C.up.cell (p := ⟨sb, so + k * 2 + 1, none⟩) (by show sb < _; omega) (by simp)).trans ho2
  clear hcell hS hstep
  replace hK := hide hK
  obtain ⟨⟨z, d, ls, hnw, hls, hnow, hav⟩, hnB, hna⟩ := N
  obtain ⟨Ak, ck, rfl⟩ := own_shape C.kinds
  obtain ⟨V, go, co, gcs, rfl, hgo, hgb, hgc, hgm, hgs, hgt, hVi, hVl, hVp⟩ := Outs.last C.outs
  have hpl2 : (pre.length : Int) + 1 ≤ 1073741824 := by rw [List.length_append, List.length_singleton] at hol; omega
  obtain ⟨Aa, ca, rfl⟩ := own_shape hav
  have hsbw : ¬ sb = w.heap.size := by omega
  have hnwl := hnw.lt
  have hnw' : ¬ nw = w.heap.size := by omega
  have hnw'' : ¬ w.heap.size = nw := by omega
  have hlsl : (ls.length : Int) ≤ 1073741824 := by rw [← bare_len, hls]; omega
  obtain ⟨hop0, hop1⟩ := hop
  obtain ⟨hnI0, hnI1⟩ := hnI
  have n0 := hnw.cell 0
  have n1 := hnw.cell 1
  have m0 := hnw.frozen 0
  have m1 := hnw.frozen 1
  simp at n0 n1
  have hklI : (kinds.length : Int) ≤ 1073741825 := by omega
  replace hkl := hide hkl
  replace hls := hide hls
  replace hv := hide hv
  replace hO := hide hO
  have hdc := hdl cc (by simp)
  replace hdl := hide hdl
  have uS2 := ((Upd.refl [] w).alloc (.cells #[.int .i64 2, .int .i64 n] 35)).typed0 (B := B) (ts := [])
  replace hgb := hide (uS2.typ _ _ _ hgb (by decide))
  replace hVi := hide (fun i hi => uS2.own (hVi i hi) (by decide))
  replace hVl := hide (uS2.own hVl (by decide))
  replace hVp := hide hVp
  replace hgt := hide hgt
  clear uS2
  obtain ⟨c, hd, _⟩ := id hnow
  subst hd
  have gd0 := fun W => rdr_gd 82 ⟨c, 0, none⟩ W
  have gd1 := fun W => rdr_gd 103 ⟨c, 0, none⟩ W
  have gd2 := fun W => rdr_ne ⟨c, 0, none⟩ W
  conv => arg 2; whnf
  go_upto_region 21 with fail
  have uS := ((Upd.refl [] w).alloc (.cells #[.int .i64 2, .int .i64 n] 35)).typed0 (B := B) (ts := [])
  have sB := hide (Blk.new w 35 #[.int .i64 2, .int .i64 n])
  replace C := hide (C.upd uS (by decide))
  replace hnow := hide (hnow.upd (by omega) uS (by decide) (by decide) (by decide))
  replace hav := hide (uS.own hav (by decide))
  replace hnw := hide (uS.typ _ _ _ hnw (by decide))
  clear n0 n1 m0 m1 ho1 ho2 uS
  replace hwB : B ≤ (w.alloc (.cells #[.int .i64 2, .int .i64 n] 35)).heap.size := by simp; omega
  have hsx' : w.heap.size < (w.alloc (.cells #[.int .i64 2, .int .i64 n] 35)).heap.size := by simp
  generalize w.alloc (.cells #[.int .i64 2, .int .i64 n] 35) = wS at *
  generalize w.heap.size = sx at *
  have n0 := hnw.out.cell 0
  have n1 := hnw.out.cell 1
  have m0 := hnw.out.frozen 0
  have m1 := hnw.out.frozen 1
  have o0 := sB.out.cell 0
  have o1 := sB.out.cell 1
  simp at n0 n1 o0 o1
  obtain ⟨c', hd', hchl⟩ := hnow.out
  obtain rfl : c = c' := by injection hd' with _ h; injection h with h; injection h with h; injection h
  clear hd'
  have hc4 : 4 ≤ cc.len := by omega
  have hav5 : 4 ≤ (pstr (l :: pls) bs).length := by omega
  replace hav4 := hide hav4
  have hlen7 : (ckCells V 0 pre).length = pre.length * 7 := ck_len V 0 pre
  have g7 := len_at hgt.out (by omega)
  rw [hlen7] at g7
  have hccI : (cc.len : Int) ≤ 4294967295 := by omega
  have hstr : str (⟨z, c, l.tot, l.chl, l.pad⟩ :: ls) bs = pstr (l :: pls) bs := by
    rw [← bare_str]
    show pstr (⟨l.tot, l.chl, l.pad⟩ :: bareL ls) bs = _
    rw [hls.out]
  have cL := fun (W : World) (u : UpdT B [] wS W) => list_any B p T cc.len cl bs (⟨z, c, l.tot, l.chl, l.pad⟩ :: ls) ae au ar ad al ap ah W (hv.out.le (by omega)) (u.chain hwB (by decide) (by decide) (by decide) hchl) (by omega) (Nat.le_trans hwB u.size) hccI (u.errs hwB C.out.errs)
  unfold ListPost at cL
  rw [hstr] at cL
  have hif : ifOf p (⟨z, c, l.tot, l.chl, l.pad⟩ :: ls) = .iface 84 (.pointer (some ⟨c, 0, none⟩)) := rfl
  rw [hif] at cL
  replace cL := hide cL
  have hwr1 : IntKind.i64.wrap ((pre.length : Int) + 1 - 1) = (pre.length : Int) := by rw [IntWalk.i64_in _ (by omega)]; omega
  have hwr5 : IntKind.i64.wrap (pre.length : Int) = (pre.length : Int) := IntWalk.i64_in _ (by omega)
  have hwr6 : IntKind.u32.wrap (cc.len : Int) = (cc.len : Int) := wraps32 _ (by omega) (by omega)
  have hwr3 : (0 : Int) ≤ (pre.length : Int) := by omega
  have hwr4 : (pre.length : Int) < (pre.length : Int) + 1 := by omega
  have hnwS := hnw.out.lt
  have hgoS := hgb.out.lt
  have hSW : ∀ W, Blk W nw 68 #[.pointer (some ⟨z, 0, none⟩), .iface 84 (.pointer (some ⟨c, 0, none⟩))] → Blk W go 43 gcs → (W.cell? ⟨nw, 1, none⟩ = some (.iface 84 (.pointer (some ⟨c, 0, none⟩))) ∧ W.cell? ⟨go, pre.length * 7 + 4, none⟩ = some (.int .i64 (cc.len : Nat))) := fun W h1 h2 => ⟨(h1.cell 1).trans rfl, (h2.cell (pre.length * 7 + 4)).trans g7⟩
  have uA := ((Upd.refl [] wS).alloc (.cells #[.int .u8 0, .int .u8 0, .int .u8 0, .int .u8 0] 54)).typed0 (B := B) (ts := [])
  have uB := (((Upd.refl [] wS).alloc (.cells #[.int .u8 0, .int .u8 0, .int .u8 0, .int .u8 0] 54)).drew).typed0 (B := B) (ts := [])
  have uD := ((Upd.refl [] wS).drew).typed0 (B := B) (ts := [])
  have hS0 := hide (hSW _ hnw.out hgb.out)
  have hSa := hide (hSW _ (uA.typ _ _ _ hnw.out (by decide)) (uA.typ _ _ _ hgb.out (by decide)))
  have hSb := hide (hSW _ (uB.typ _ _ _ hnw.out (by decide)) (uB.typ _ _ _ hgb.out (by decide)))
  have hSd := hide (hSW _ (uD.typ _ _ _ hnw.out (by decide)) (uD.typ _ _ _ hgb.out (by decide)))
  have hnwne : nw ≠ wS.heap.size := by omega
  have hgone : go ≠ wS.heap.size := by omega
  have hnwne' : ¬ nw = wS.heap.size := hnwne
  have hgone' : ¬ go = wS.heap.size := hgone
  have hf4 := hide (Blk.new wS 54 #[.int .u8 0, .int .u8 0, .int .u8 0, .int .u8 0])
  have hsz4 : (wS.alloc (.cells #[.int .u8 0, .int .u8 0, .int .u8 0, .int .u8 0] 54)).heap.size = wS.heap.size + 1 := by simp
  replace uA := hide uA
  replace uB := hide uB
  replace uD := hide uD
  replace hSW := hide hSW
  have hzsB : ∀ k ∈ zsOf p (⟨z, c, l.tot, l.chl, l.pad⟩ :: ls), B ≤ k := fun k hk => (hchl.lt k (zs_all p _ k hk)).2
  have hzsL : ∀ k ∈ zsOf p (⟨z, c, l.tot, l.chl, l.pad⟩ :: ls), k < wS.heap.size := fun k hk => (hchl.lt k (zs_all p _ k hk)).1
  have zsT : ∀ W, UpdT B [] wS W → ∀ k ∈ zsOf p (⟨z, c, l.tot, l.chl, l.pad⟩ :: ls), k < W.heap.size → ∃ t cs, Blk W k t cs ∧ t ∈ [62, 86] := fun W u k hk _ => Chain.zsT (u.chain hwB (by decide) (by decide) (by decide) hchl) k hk
  go_region_held3 (fun W' => W'.cell? ⟨nw, 1, none⟩ = some (.iface 84 (.pointer (some ⟨c, 0, none⟩))) ∧ W'.cell? ⟨go, pre.length * 7 + 4, none⟩ = some (.int .i64 (cc.len : Nat))) (first | with_reducible exact hS0.out | with_reducible exact hSa.out | with_reducible exact hSb.out | with_reducible exact hSd.out | with_reducible exact hS2.out | with_reducible exact hS3.out | with_reducible exact hS4.out | with_reducible exact hS5.out | go_keep) (first | (go_at_call 25; (with_reducible refine (cL.out _ uB.out).mono ?_); rintro e w1 ⟨hp1, hp2, hp3⟩; obtain ⟨z2, bf2, hz2, rfl, hu1, hch1, hrz⟩ := hp3 hc4 hav5; clear hp1 hp2 hp3; have hz2l := hrz.lt; have hzB : wS.heap.size + 1 ≤ z2 := Nat.le_trans (by simp) hz2; replace hch1 := hide hch1; replace hrz := hide hrz; unfold four; generalize (pstr (l :: pls) bs).getD 0 0 = a0; generalize (pstr (l :: pls) bs).getD 1 0 = a1; generalize (pstr (l :: pls) bs).getD 2 0 = a2; generalize (pstr (l :: pls) bs).getD 3 0 = a3; have tu := UpdT.trans (uB.out.more (ts' := [62, 86]) (by simp)) (hu1.typed hzsB (zsT _ uB.out)); have hnw1 := tu.typ _ _ _ hnw.out (by decide); have hgo1 := tu.typ _ _ _ hgb.out (by decide); have hf1 := (Blk.drew hf4.out).upd hu1 (fun h => by have := hzsL _ h; omega); have f0 := hf1.cell 0; have f1' := hf1.cell 1; have f2 := hf1.cell 2; have f3 := hf1.cell 3; have fz0 := hf1.frozen 0; have fz1 := hf1.frozen 1; have fz2 := hf1.frozen 2; have fz3 := hf1.frozen 3; simp at f0 f1' f2 f3; have hS2 := hide (hSW.out _ hnw1 hgo1); have hnw2 := hide ((((hnw1.far (p := ⟨wS.heap.size, 0, none⟩) hnwne (.int .u8 (a0 : Nat))).far (p := ⟨wS.heap.size, 1, none⟩) hnwne (.int .u8 (a1 : Nat))).far (p := ⟨wS.heap.size, 2, none⟩) hnwne (.int .u8 (a2 : Nat))).far (p := ⟨wS.heap.size, 3, none⟩) hnwne (.int .u8 (a3 : Nat))); have hgo2 := hide ((((hgo1.far (p := ⟨wS.heap.size, 0, none⟩) hgone (.int .u8 (a0 : Nat))).far (p := ⟨wS.heap.size, 1, none⟩) hgone (.int .u8 (a1 : Nat))).far (p := ⟨wS.heap.size, 2, none⟩) hgone (.int .u8 (a2 : Nat))).far (p := ⟨wS.heap.size, 3, none⟩) hgone (.int .u8 (a3 : Nat))); have hS3 := hide (hSW.out _ hnw2.out hgo2.out); replace hu1 := hide hu1; replace tu := hide tu; replace hf1 := hide hf1; replace hnw1 := hide hnw1; replace hgo1 := hide hgo1) | (go_at_call 25; (with_reducible refine (cL.out _ uD.out).mono ?_); rintro e w1 ⟨hp1, hp2, hp3⟩; obtain ⟨z2, bf2, hz2, rfl, hu1, hch1, hrz⟩ := hp3 hc4 hav5; clear hp1 hp2 hp3; have hz2l := hrz.lt; have hzB : wS.heap.size ≤ z2 := Nat.le_trans (by simp) hz2; replace hch1 := hide hch1; replace hrz := hide hrz; unfold four; generalize (pstr (l :: pls) bs).getD 0 0 = a0; generalize (pstr (l :: pls) bs).getD 1 0 = a1; generalize (pstr (l :: pls) bs).getD 2 0 = a2; generalize (pstr (l :: pls) bs).getD 3 0 = a3; have tu := UpdT.trans (uD.out.more (ts' := [62, 86]) (by simp)) (hu1.typed hzsB (zsT _ uD.out)); have hnw1 := tu.typ _ _ _ hnw.out (by decide); have hgo1 := tu.typ _ _ _ hgb.out (by decide); have hnl1 := hnw1.lt; have hgl1 := hgo1.lt; have hnn1 : nw ≠ w1.heap.size := (by omega); have hgn1 : go ≠ w1.heap.size := (by omega); have hnn2 : ¬ nw = w1.heap.size := hnn1; have hgn2 : ¬ go = w1.heap.size := hgn1; have hS2 := hide (hSW.out _ hnw1 hgo1); have hS4 := hide (hSW.out _ (hnw1.alloc (.cells #[.int .u8 0, .int .u8 0, .int .u8 0, .int .u8 0] 54)) (hgo1.alloc (.cells #[.int .u8 0, .int .u8 0, .int .u8 0, .int .u8 0] 54))); have hS5 := hide (hSW.out _ (hnw1.alloc (.cells #[.int .u8 (a0 : Nat), .int .u8 (a1 : Nat), .int .u8 (a2 : Nat), .int .u8 (a3 : Nat)] 54)) (hgo1.alloc (.cells #[.int .u8 (a0 : Nat), .int .u8 (a1 : Nat), .int .u8 (a2 : Nat), .int .u8 (a3 : Nat)] 54))); have hnw2 := hide (((((hnw1.alloc (.cells #[.int .u8 0, .int .u8 0, .int .u8 0, .int .u8 0] 54)).far (p := ⟨w1.heap.size, 0, none⟩) hnn1 (.int .u8 (a0 : Nat))).far (p := ⟨w1.heap.size, 1, none⟩) hnn1 (.int .u8 (a1 : Nat))).far (p := ⟨w1.heap.size, 2, none⟩) hnn1 (.int .u8 (a2 : Nat))).far (p := ⟨w1.heap.size, 3, none⟩) hnn1 (.int .u8 (a3 : Nat))); have hgo2 := hide (((((hgo1.alloc (.cells #[.int .u8 0, .int .u8 0, .int .u8 0, .int .u8 0] 54)).far (p := ⟨w1.heap.size, 0, none⟩) hgn1 (.int .u8 (a0 : Nat))).far (p := ⟨w1.heap.size, 1, none⟩) hgn1 (.int .u8 (a1 : Nat))).far (p := ⟨w1.heap.size, 2, none⟩) hgn1 (.int .u8 (a2 : Nat))).far (p := ⟨w1.heap.size, 3, none⟩) hgn1 (.int .u8 (a3 : Nat))); have hS3 := hide (hSW.out _ hnw2.out hgo2.out); replace hu1 := hide hu1; replace tu := hide tu; replace hnw1 := hide hnw1; replace hgo1 := hide hgo1))
  all_goals first
    | (have uX : Upd (zsOf p (⟨z, c, l.tot, l.chl, l.pad⟩ :: ls)) wS ((((w1.setCell ⟨wS.heap.size, 0, none⟩ (.int .u8 (a0 : Nat))).setCell ⟨wS.heap.size, 1, none⟩ (.int .u8 (a1 : Nat))).setCell ⟨wS.heap.size, 2, none⟩ (.int .u8 (a2 : Nat))).setCell ⟨wS.heap.size, 3, none⟩ (.int .u8 (a3 : Nat))) := upd_four (((((Upd.refl (zsOf p (⟨z, c, l.tot, l.chl, l.pad⟩ :: ls)) wS).alloc (.cells #[.int .u8 0, .int .u8 0, .int .u8 0, .int .u8 0] 54)).drew).trans hu1.out)) (.inr (Nat.le_refl _)) _ _ _ _
       obtain ⟨fq, ⟨hfq, hzf⟩, uZ⟩ : ∃ fq, (wS.heap.size ≤ fq ∧ z2 ≠ fq) ∧ Upd [fq] w1 ((((w1.setCell ⟨wS.heap.size, 0, none⟩ (.int .u8 (a0 : Nat))).setCell ⟨wS.heap.size, 1, none⟩ (.int .u8 (a1 : Nat))).setCell ⟨wS.heap.size, 2, none⟩ (.int .u8 (a2 : Nat))).setCell ⟨wS.heap.size, 3, none⟩ (.int .u8 (a3 : Nat))) := ⟨wS.heap.size, ⟨Nat.le_refl _, (by omega)⟩, upd_four (Upd.refl _ w1) (.inl (by simp)) _ _ _ _⟩
       have hw1B : B ≤ w1.heap.size := Nat.le_trans hwB (Nat.le_trans (by simp) hu1.out.size)
       replace uX := hide uX
       replace uZ := hide uZ
       generalize ((((w1.setCell ⟨wS.heap.size, 0, none⟩ (.int .u8 (a0 : Nat))).setCell ⟨wS.heap.size, 1, none⟩ (.int .u8 (a1 : Nat))).setCell ⟨wS.heap.size, 2, none⟩ (.int .u8 (a2 : Nat))).setCell ⟨wS.heap.size, 3, none⟩ (.int .u8 (a3 : Nat))) = wX at *)
    | (have uX : Upd (zsOf p (⟨z, c, l.tot, l.chl, l.pad⟩ :: ls)) wS (w1.alloc (.cells #[.int .u8 (a0 : Nat), .int .u8 (a1 : Nat), .int .u8 (a2 : Nat), .int .u8 (a3 : Nat)] 54)) := ((((Upd.refl (zsOf p (⟨z, c, l.tot, l.chl, l.pad⟩ :: ls)) wS).drew).trans hu1.out).alloc (.cells #[.int .u8 (a0 : Nat), .int .u8 (a1 : Nat), .int .u8 (a2 : Nat), .int .u8 (a3 : Nat)] 54))
       obtain ⟨fq, ⟨hfq, hzf⟩, uZ⟩ : ∃ fq, (wS.heap.size ≤ fq ∧ z2 ≠ fq) ∧ Upd [fq] w1 (w1.alloc (.cells #[.int .u8 (a0 : Nat), .int .u8 (a1 : Nat), .int .u8 (a2 : Nat), .int .u8 (a3 : Nat)] 54)) := ⟨w1.heap.size, ⟨Nat.le_trans (by simp) hu1.out.size, (by omega)⟩, (Upd.refl _ w1).alloc _⟩
       have hw1B : B ≤ w1.heap.size := Nat.le_trans hwB (Nat.le_trans (by simp) hu1.out.size)
       replace uX := hide uX
       replace uZ := hide uZ
       generalize w1.alloc (.cells #[.int .u8 (a0 : Nat), .int .u8 (a1 : Nat), .int .u8 (a2 : Nat), .int .u8 (a3 : Nat)] 54) = wX at *)
  all_goals
    have tX : UpdT B [62, 86] wS wX := uX.out.typed hzsB (fun k hk _ => Chain.zsT hchl k hk)
    have hCX := C.out.upd tX (by decide)
    have hchX : Chain wX B p cl (adv 4 (⟨z, c, l.tot, l.chl, l.pad⟩ :: ls)) (bs.drop 4) (T + 5) := by
      refine Chain.upd uZ.out (by simp; omega) hw1B hch1.out (fun k hk => ?_)
      rw [all_adv] at hk
      have := (hchl.lt k hk).1
      simp
      omega
    have hrzX := hide (hrz.out.upd uZ.out (by simpa using hzf))
    have hz2n : z2 ∉ allOf p (adv 4 (⟨z, c, l.tot, l.chl, l.pad⟩ :: ls)) := fun h => by
      rw [all_adv] at h
      have := (hchl.lt _ h).1
      omega
    have hnwX := hide (tX.typ _ _ _ hnw.out (by decide))
    have havX := hide (tX.own hav.out (by decide))
    have hwX : B ≤ wX.heap.size := Nat.le_trans hwB tX.size
    have hnwXl := hnwX.out.lt
    have p0 := hnwX.out.cell 0
    have p1 := hnwX.out.cell 1
    simp at p0 p1
    replace hCX := hide hCX
    replace hchX := hide hchX
    clear hSW hS0 hSa hSb hSd hS2 hS3 cL hf4 hnw2 hgo2 hstr hif
    go_upto_region 24 with (go_at_call 22; (with_reducible refine (kind_nil _).mono ?_); rintro e w' ⟨rfl, rfl⟩)
    go_upto_region 25 with (refine wpList_pushNL rfl (.tmp 125) (.tmp 127) 64 rfl B 68 (.agg #[.pointer none, .nilIface]) 2 24 Tryd.underlying64 info_part rfl (by decide) (.slice Aa ls.length ca) ls.length (partC ls) rfl havX.out #[.pointer (some ⟨z, 0, none⟩), .iface 84 (.pointer (some ⟨c, 0, none⟩))] rfl (by simp [Value.oneCell']) rfl (by simp only [maxLen]; omega) (by omega) hwX ?_; intro gP cP wP hkP hgP hlP; replace hkP := hide hkP; replace hgP := hide hgP)
    have hnwP := hide (hnwX.out.grown hgP.out hna)
    have tP := grown_typed havX.out hgP.out
    clear p0 p1
    have p0 := hnwP.out.cell 0
    have p1 := hnwP.out.cell 1
    have r0 := hnwP.out.frozen 0
    have r1 := hnwP.out.frozen 1
    simp at p0 p1
    go_upto_region 30 with fail
    have uQ := ((Upd.refl [nw] wP).setCell (p := ⟨nw, 0, none⟩) (.inl (by simp)) (.pointer (some ⟨z2, 0, none⟩))).setCell (p := ⟨nw, 1, none⟩) (.inl (by simp)) .nilIface
    have hnwQ := hide ((hnwP.out.set_ 0 (.pointer (some ⟨z2, 0, none⟩))).set_ 1 .nilIface)
    have hgne : ((Value.slice (some ⟨gP, 0, none⟩) (ls.length + 1) cP).ownBlock) ≠ some nw := by
      intro h
      have h9 : gP = nw := by simpa [Value.ownBlock] using h
      subst h9
      rcases hlP with h | h
      · exact hna h
      · omega
    have hkQ := hide (own_set_far (own_set_far hkP.out (p := ⟨nw, 0, none⟩) hgne (.pointer (some ⟨z2, 0, none⟩))) (p := ⟨nw, 1, none⟩) hgne .nilIface)
    clear p0 p1 r0 r1
    generalize (wP.setCell ⟨nw, 0, none⟩ (.pointer (some ⟨z2, 0, none⟩))).setCell ⟨nw, 1, none⟩ .nilIface = wQ at *
    have tQ : UpdT B [68] wX wQ := tP.trans (uQ.typed (by simpa using hnB) (fun k hk _ => by simp at hk; subst hk; exact ⟨_, _, hnwP.out, by simp⟩))
    have hCQ := hCX.out.upd tQ (by decide)
    have hNQ : RN wQ B p cl (T + nb + 12) ae ad al ap ah (.live ⟨cc.len - 4, 0, false⟩ false) (l.on 4 :: padv 4 pls) (bs.drop 4) (.slice (some ⟨gP, 0, none⟩) (ls.length + 1) cP) nw :=
      ⟨⟨z2, .nilIface, adv 4 (⟨z, c, l.tot, l.chl, l.pad⟩ :: ls), hnwQ.out, by rw [bare_adv]; show padv 4 (⟨l.tot, l.chl, l.pad⟩ :: bareL ls) = _; rw [hls.out]; rfl,
        ⟨rfl, ⟨⟨_, bf2, by rw [if_adv]; exact tQ.rz hrzX.out (by decide), fun h => absurd rfl h⟩, (tQ.chain hwX (by decide) (by decide) (by decide) hchX.out).more (by omega), hz2n, (show B ≤ z2 by omega), Nat.zero_le _, (show cc.len - 4 < 4294967296 by omega)⟩⟩,
        by rw [adv_len, part_adv, part_cons]; exact hkQ.out⟩, hnB, hgne⟩
    have Cq := hide (hCQ)
    have Nq := hide (hNQ)
    have hwq : B ≤ (wQ).heap.size := by have h1 := Cq.out.up.size; have h2 := Cq.out.hB0; omega
    skip
    generalize wQ = wq at *
    go_wp2_with (refine wpList_push rfl (.tmp 152) (.tmp 154) 36 rfl B 3 (.int .i64 0) 8 Tryd.underlying36 info_intr rfl (.slice Ak kinds.length ck) kinds.length (kinds.map (Value.int .i64)) rfl Cq.out.kinds (.int .i64 0) rfl rfl (by simp only [maxLen]; omega) (by omega) hwq ?_; intro kv' w9 hk9 hg9; obtain ⟨Ak9, ck9, rfl⟩ := own_shape hk9; replace hk9 := hide hk9; replace hg9 := hide hg9)
    have hC9 := Cq.out.tell hk9.out hg9.out
    have hN9 := (Nq.out.upd hwq (grown_typed Cq.out.kinds hg9.out) (by decide)).later (T' := T + nb + 12) (by omega)
    exact hK.out _ _ _ _ _ _ _ _ _ _ _ _ _ _ _ _ _ _ _ _ _ _ _ _ _ _ _ _ _ _ _ _ _ _ _ _ _ _ _ _ _ _ _ _ _ _ _ _ _ _ _ _ _ _ _ _ _ _ _ _ _ _ _ _ _ _ _ _ _ _ _ _ _ _ _ _ _ _ _ _ _ _ _ _ _ _ _ _ _ _ _ _ _ _ _ _ _ _ _ _ _ _ _ _ _ _ _ _ _ _ _ _ _ _ _ _ _ _ _ _ _ _ hC9 hN9
end Go.Proofs.YthkpoidnhgcjhaaDoor

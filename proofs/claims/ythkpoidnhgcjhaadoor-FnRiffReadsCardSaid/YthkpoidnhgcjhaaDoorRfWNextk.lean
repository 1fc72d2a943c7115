/- A way through the round of 'impl.Riff'. -/
import Derived.Test.YthkpoidnhgcjhaaDoorRfState
namespace Go.Proofs.YthkpoidnhgcjhaaDoor
set_option linter.unusedSimpArgs false
set_option linter.unusedVariables false
set_option linter.unnecessarySimpa false
open Go.RowKit Plain

set_option maxRecDepth 1000000 in
set_option maxHeartbeats 8000000 in
theorem way_nextk {f1 f10 f16 f26 f27 f28 f29 f30 f31 f32 f33 f34 f35 f36 f37 f38 f39 f40 f41 f42 f43 f44 f157 f158 f159 u17 u18 u19 u20 u21 u22 u23 u24 u25 u48 u49 u50 u51 u52 u53 u54 u55 u56 u57 u58 u59 u60 u61 u62 u63 u64 u65 u66 u67 u68 u69 u70 u71 u72 u73 u74 u75 u76 u77 u78 u79 u80 u81 u82 u83 u84 u85 u86 u87 u88 u89 u90 u91 u92 u93 u94 u95 u96 u97 u98 u99 u100 u101 u102 u103 u104 u105 u106 u107 u108 u109 u110 u111 u112 u113 u114 u115 u116 u117 u118 u119 u120 u121 u122 u123 u124 u125 u126 u127 u128 u129 u130 u131 u132 u133 u134 u135 u136 u137 u138 u139 u140 u141 u142 u143 u144 u145 u146 u147 u148 u149 u150 u151 u152 u153 u154 u155 u156 : Value} (K : Act → World → Prop) (Q0 : Exit → Act → World → Prop) (w0 w : World) (Ab As : Option Addr) (B p T nb cb ns cs k fb rb nw : Nat) (cl : List Int) (ae au ar ad al ap ah : Addr) (form z4 : Array Value) (kv ov av : Value) (steps : List (Int × Int)) (op n : Int)
    (pls : List PL) (bs : List Nat) (out : List Ck) (kinds : List Int) (l : PL) (hand : Bool) (q nn tt : Nat) (hnx : nextP l.tot l.chl l.pad (pstr pls bs) = .ok q nn tt) (hnn : nn < 4294967296) (hopv : op = 0)
    (hv : Env B cl (T + nb + 12)) (hns : (ns : Int) ≤ 1073741824) (hnb : (nb : Int) ≤ 1073741824) (hk : k < ns) (hst : steps.length = ns) (hS : RdS w0 B As steps) (hstep : steps.getD k (0, 0) = (op, n)) (hop : -9223372036854775808 ≤ op ∧ op ≤ 9223372036854775807) (hnI : -9223372036854775808 ≤ n ∧ n ≤ 9223372036854775807)
    (hkl : kinds.length = k + 1) (hol : out.length ≤ k) (hpl : pls.length ≤ k) (hbl : bs.length ≤ nb) (hO : ∀ x ∈ bs, x ≤ 255) (hdl : ∀ c ∈ out, c.data.length + bs.length ≤ nb)
    (C : RC w0 w B ae au ar ad al ap ah fb rb form z4 out kinds kv ov) (N : RN w B p cl T ae ad al ap ah (.live l hand) pls bs av nw)
    (hK : ∀ (v17 v18 v19 v20 v21 v22 v23 v24 v25 v48 v49 v50 v51 v52 v53 v54 v55 v56 v57 v58 v59 v60 v61 v62 v63 v64 v65 v66 v67 v68 v69 v70 v71 v72 v73 v74 v75 v76 v77 v78 v79 v80 v81 v82 v83 v84 v85 v86 v87 v88 v89 v90 v91 v92 v93 v94 v95 v96 v97 v98 v99 v100 v101 v102 v103 v104 v105 v106 v107 v108 v109 v110 v111 v112 v113 v114 v115 v116 v117 v118 v119 v120 v121 v122 v123 v124 v125 v126 v127 v128 v129 v130 v131 v132 v133 v134 v135 v136 v137 v138 v139 v140 v141 v142 v143 v144 v145 v146 v147 v148 v149 v150 v151 v152 v153 v154 v155 v156 kv' ov' av' : Value) (w' : World), RC w0 w' B ae au ar ad al ap ah fb rb form z4 (out ++ [⟨((pstr pls bs).drop (q - 8)).take 4, nn, [], 2⟩]) (kinds ++ [0]) kv' ov' → RN w' B p cl (T + nb + 12) ae ad al ap ah (.live ⟨tt, nn, decide (nn % 2 = 1)⟩ true) (padv q pls) (bs.drop q) av' nw → K ⟨(.slice Ab nb cb :: f1 :: .slice As ns cs :: undef :: undef :: undef :: .pointer (some ⟨rb, 0, none⟩) :: .slice none 0 0 :: .slice none 0 0 :: .pointer (some ⟨fb, 0, none⟩) :: f10 :: .nilIface :: kv' :: ov' :: av' :: .pointer (some ⟨nw, 0, none⟩) :: f16 :: v17 :: v18 :: v19 :: v20 :: v21 :: v22 :: v23 :: v24 :: v25 :: f26 :: f27 :: f28 :: f29 :: f30 :: f31 :: f32 :: f33 :: f34 :: f35 :: f36 :: f37 :: f38 :: f39 :: f40 :: f41 :: f42 :: f43 :: f44 :: .slice As ns cs :: .int .i64 (ns : Nat) :: .int .i64 ((k + 1 : Nat) : Int) :: v48 :: v49 :: v50 :: v51 :: v52 :: v53 :: v54 :: v55 :: v56 :: v57 :: v58 :: v59 :: v60 :: v61 :: v62 :: v63 :: v64 :: v65 :: v66 :: v67 :: v68 :: v69 :: v70 :: v71 :: v72 :: v73 :: v74 :: v75 :: v76 :: v77 :: v78 :: v79 :: v80 :: v81 :: v82 :: v83 :: v84 :: v85 :: v86 :: v87 :: v88 :: v89 :: v90 :: v91 :: v92 :: v93 :: v94 :: v95 :: v96 :: v97 :: v98 :: v99 :: v100 :: v101 :: v102 :: v103 :: v104 :: v105 :: v106 :: v107 :: v108 :: v109 :: v110 :: v111 :: v112 :: v113 :: v114 :: v115 :: v116 :: v117 :: v118 :: v119 :: v120 :: v121 :: v122 :: v123 :: v124 :: v125 :: v126 :: v127 :: v128 :: v129 :: v130 :: v131 :: v132 :: v133 :: v134 :: v135 :: v136 :: v137 :: v138 :: v139 :: v140 :: v141 :: v142 :: v143 :: v144 :: v145 :: v146 :: v147 :: v148 :: v149 :: v150 :: v151 :: v152 :: v153 :: v154 :: v155 :: v156 :: f157 :: f158 :: f159 :: [] : List Value).toArray, []⟩ w') :
    Code.wp Tryd.prog bodyRiff (Exit.then K Q0) ⟨(.slice Ab nb cb :: f1 :: .slice As ns cs :: undef :: undef :: undef :: .pointer (some ⟨rb, 0, none⟩) :: .slice none 0 0 :: .slice none 0 0 :: .pointer (some ⟨fb, 0, none⟩) :: f10 :: .nilIface :: kv :: ov :: av :: .pointer (some ⟨nw, 0, none⟩) :: f16 :: u17 :: u18 :: u19 :: u20 :: u21 :: u22 :: u23 :: u24 :: u25 :: f26 :: f27 :: f28 :: f29 :: f30 :: f31 :: f32 :: f33 :: f34 :: f35 :: f36 :: f37 :: f38 :: f39 :: f40 :: f41 :: f42 :: f43 :: f44 :: .slice As ns cs :: .int .i64 (ns : Nat) :: .int .i64 (k : Int) :: u48 :: u49 :: u50 :: u51 :: u52 :: u53 :: u54 :: u55 :: u56 :: u57 :: u58 :: u59 :: u60 :: u61 :: u62 :: u63 :: u64 :: u65 :: u66 :: u67 :: u68 :: u69 :: u70 :: u71 :: u72 :: u73 :: u74 :: u75 :: u76 :: u77 :: u78 :: u79 :: u80 :: u81 :: u82 :: u83 :: u84 :: u85 :: u86 :: u87 :: u88 :: u89 :: u90 :: u91 :: u92 :: u93 :: u94 :: u95 :: u96 :: u97 :: u98 :: u99 :: u100 :: u101 :: u102 :: u103 :: u104 :: u105 :: u106 :: u107 :: u108 :: u109 :: u110 :: u111 :: u112 :: u113 :: u114 :: u115 :: u116 :: u117 :: u118 :: u119 :: u120 :: u121 :: u122 :: u123 :: u124 :: u125 :: u126 :: u127 :: u128 :: u129 :: u130 :: u131 :: u132 :: u133 :: u134 :: u135 :: u136 :: u137 :: u138 :: u139 :: u140 :: u141 :: u142 :: u143 :: u144 :: u145 :: u146 :: u147 :: u148 :: u149 :: u150 :: u151 :: u152 :: u153 :: u154 :: u155 :: u156 :: f157 :: f158 :: f159 :: [] : List Value).toArray, []⟩ w := by
  subst hopv
  have hI : (k : Int) < ns := by omega
  have hwB := C.up.size
  have hB0 := C.hB0
  obtain ⟨sb, so, rfl, hsb, hcell⟩ := hS (by rintro rfl; simp at hst; omega)
  obtain ⟨ho1, ho2⟩ := hcell k (by omega)
  rw [hstep] at ho1 ho2
  replace ho1 := (C.up.cell (p := ⟨sb, so + k * 2, none⟩) (by show sb < _; omega) (by simp)).trans ho1
  replace ho2 := (C.up.cell (p := ⟨sb, so + k * 2 + 1, none⟩) (by show sb < _; omega) (by simp)).trans ho2
  clear hcell hS hstep
  replace hK := hide hK
  obtain ⟨⟨z, d, ls, hnw, hls, hnow, hav⟩, hnB, hna⟩ := N
  obtain ⟨Ak, ck, rfl⟩ := own_shape C.kinds
  obtain ⟨Ao, co, rfl⟩ : ∃ A c, ov = .slice A out.length c := by obtain ⟨V, h, _⟩ := C.outs.h; exact own_shape h
  obtain ⟨Aa, ca, rfl⟩ := own_shape hav
  have hsbw : ¬ sb = w.heap.size := by omega
  have hnwl := hnw.lt
  have hnw' : ¬ nw = w.heap.size := by omega
  have hnw'' : ¬ w.heap.size = nw := by omega
  have hol' : (out.length : Int) ≤ 1073741824 := by omega
  have hlsl : (ls.length : Int) ≤ 1073741824 := by rw [← bare_len, hls]; omega
  obtain ⟨hop0, hop1⟩ := hop
  obtain ⟨hnI0, hnI1⟩ := hnI
  have n0 := hnw.cell 0
  have n1 := hnw.cell 1
  have m0 := hnw.frozen 0
  have m1 := hnw.frozen 1
  simp at n0 n1
  have hklI : (kinds.length : Int) ≤ 1073741825 := by omega
  replace hkl := hide hkl
  replace hls := hide hls
  replace hv := hide hv
  replace hO := hide hO
  replace hdl := hide hdl
  conv => arg 2; whnf
  go_upto_region 14 with fail
  have uS := ((Upd.refl [] w).alloc (.cells #[.int .i64 0, .int .i64 n] 35)).typed0 (B := B) (ts := [])
  have sB := hide (Blk.new w 35 #[.int .i64 0, .int .i64 n])
  replace C := hide (C.upd uS (by decide))
  replace hnow := hide (hnow.upd (by omega) uS (by decide) (by decide) (by decide))
  replace hav := hide (uS.own hav (by decide))
  replace hnw := hide (uS.typ _ _ _ hnw (by decide))
  clear n0 n1 m0 m1 ho1 ho2 uS
  replace hwB : B ≤ (w.alloc (.cells #[.int .i64 0, .int .i64 n] 35)).heap.size := by simp; omega
  have hsx' : w.heap.size < (w.alloc (.cells #[.int .i64 0, .int .i64 n] 35)).heap.size := by simp
  generalize w.alloc (.cells #[.int .i64 0, .int .i64 n] 35) = wS at *
  generalize w.heap.size = sx at *
  have n0 := hnw.out.cell 0
  have n1 := hnw.out.cell 1
  have m0 := hnw.out.frozen 0
  have m1 := hnw.out.frozen 1
  have o0 := sB.out.cell 0
  have o1 := sB.out.cell 1
  simp at n0 n1 o0 o1
  have hcur := hnow.out.cur
  obtain ⟨⟨zcr, zbf, hzz, _⟩, hch, hzn, hzB, _, _⟩ := id hcur
  obtain ⟨zcs, hzb, _⟩ := hzz.h
  have hna' := hna
  have cN := next_any B p T z l.tot l.chl l.pad cl bs ls ae au ar ad al ap ah wS (hv.out.le (by omega)) hcur hO.out (by omega) hwB C.out.errs
  rw [show nextP l.tot l.chl l.pad (str ls bs) = .ok q nn tt from by rw [← bare_str, hls.out]; exact hnx] at cN
  replace cN := hide cN
  replace hch := hide hch
  replace hcur := hide hcur
  replace hzb := hide hzb
  clear hzz
  have hps : pstr pls bs = str ls bs := by rw [← hls.out, bare_str]
  rw [hps] at hK
  replace hps := hide hps
  have hnnI : (nn : Int) ≤ 4294967295 := by omega
  go_wp2_with (first
    | (go_at_call 23; (with_reducible refine (cN.out).mono ?_); rintro e w1 ⟨hu1, c, hcn, rfl, hch1⟩; unfold four; generalize ha0 : ((str ls bs).drop (q - 8)).getD 0 0 = a0; generalize ha1 : ((str ls bs).drop (q - 8)).getD 1 0 = a1; generalize ha2 : ((str ls bs).drop (q - 8)).getD 2 0 = a2; generalize ha3 : ((str ls bs).drop (q - 8)).getD 3 0 = a3; replace ha0 := hide ha0; replace ha1 := hide ha1; replace ha2 := hide ha2; replace ha3 := hide ha3; have tS := Turned (hu1.wide (S := nw :: z :: zsOf p ls) (fun k h _ => List.mem_cons_of_mem _ h)) hzb.out hzB hnw.out hnB hch.out; have hC1 := hide (C.out.upd tS (by decide)); have hzs : ∀ g, g ∈ z :: zsOf p ls → g ≠ nw := (fun g hg e => by
      subst e
      rcases List.mem_cons.1 hg with h | h
      · subst h
        exact absurd (hnw.out.typ_eq hzb.out) (by decide)
      · obtain ⟨t, cs, h1, h2⟩ := hch.out.zsT _ h
        rw [← hnw.out.typ_eq h1] at h2
        revert h2
        decide); have hnw1 := hide (hnw.out.upd hu1 (fun h => hzs nw h rfl)); have n01 := hnw1.out.cell 0; have n11 := hnw1.out.cell 1; have m01 := hnw1.out.frozen 0; have m11 := hnw1.out.frozen 1; simp at n01 n11; have hs1 := hu1.size; replace hu1 := hide hu1; replace hch1 := hide hch1)
    | fail)
  (with_reducible refine (kind_nil _).mono ?_)
  rintro e w' ⟨rfl, rfl⟩
  clear n01 n11 m01 m11
  have u2 := (Upd.refl [] w1).alloc (.cells #[.int .u8 (a0 : Nat), .int .u8 (a1 : Nat), .int .u8 (a2 : Nat), .int .u8 (a3 : Nat)] 54)
  have hnw2 := hide (hnw1.out.upd u2 (by simp))
  have hfq2 := hide (Blk.new w1 54 #[.int .u8 (a0 : Nat), .int .u8 (a1 : Nat), .int .u8 (a2 : Nat), .int .u8 (a3 : Nat)])
  have hs2 := u2.size
  have hq2 : w1.heap.size < (w1.alloc (.cells #[.int .u8 (a0 : Nat), .int .u8 (a1 : Nat), .int .u8 (a2 : Nat), .int .u8 (a3 : Nat)] 54)).heap.size := by simp
  have hq3 : ¬ w1.heap.size = nw := by have := hnw1.out.lt; omega
  replace u2 := hide u2
  generalize (w1.alloc (.cells #[.int .u8 (a0 : Nat), .int .u8 (a1 : Nat), .int .u8 (a2 : Nat), .int .u8 (a3 : Nat)] 54)) = w2 at *
  generalize hfqe : w1.heap.size = fq at *
  replace hfqe := hide hfqe
  have n11 := hnw2.out.cell 1
  have m11 := hnw2.out.frozen 1
  simp at n11
  go_upto_region 16 with fail
  have u3 := hide ((Upd.refl [nw] w2).setCell (p := ⟨nw, 1, none⟩) (.inl (by simp)) (.iface 84 (.pointer (some ⟨c, 0, none⟩))))
  have hnw3 := hide (hnw2.out.set_ 1 (.iface 84 (.pointer (some ⟨c, 0, none⟩))))
  have hfq3 := hide (hfq2.out.far (p := ⟨nw, 1, none⟩) (by simpa using hq3) (.iface 84 (.pointer (some ⟨c, 0, none⟩))))
  have hs3 := u3.out.size
  clear n11 m11
  generalize w2.setCell ⟨nw, 1, none⟩ (.iface 84 (.pointer (some ⟨c, 0, none⟩))) = w3 at *
  have t3 : UpdT B [68] w2 w3 := u3.out.typed (by simpa using hnB) (fun k hk _ => by simp at hk; subst hk; exact ⟨_, _, hnw2.out, by simp⟩)
  have hC3 := hide ((hC1.out.upd (u2.out.typed0 (ts := [])) (by decide)).upd t3 (by decide))
  have uSw : Upd (nw :: z :: zsOf p ls) wS w3 := ((hu1.out.wide (S := nw :: z :: zsOf p ls) (fun k h _ => List.mem_cons_of_mem _ (by simpa using h))).trans (u2.out.wide (by simp))).trans (u3.out.wide (fun k h _ => by simp at h; simp [h]))
  have hav3 := hide (Turned.av uSw hzb.out hch.out hav.out hna)
  have t13 := (u2.out.typed0 (B := B) (ts := [68])).trans t3
  have hch3 := hide (t13.chain (by have := hfqe.out; omega) (by decide) (by decide) (by decide) hch1.out)
  have hN3 : RN w3 B p cl (T + nb + 12) ae ad al ap ah (.live ⟨tt, nn, decide (nn % 2 = 1)⟩ true) (padv q pls) (bs.drop q) (.slice Aa ls.length ca) nw := ⟨⟨z, _, adv q ls, hnw3.out, by rw [bare_adv, hls.out], ⟨c, rfl, hch3.out.more (by omega)⟩, by rw [adv_len, part_adv]; exact hav3.out⟩, hnB, hna⟩
  have q0 := hfq3.out.cell 0
  have q1 := hfq3.out.cell 1
  have q2 := hfq3.out.cell 2
  have q3 := hfq3.out.cell 3
  simp at q0 q1 q2 q3
  replace hN3 := hide hN3
  clear C hnow hav hnw n0 n1 m0 m1 t3 t13 uSw hu1 u2 u3 hC1
  obtain ⟨V, hV1, hV2, hV3⟩ := hC3.out.outs.h
  replace hV1 := hide hV1
  replace hV2 := hide hV2
  replace hV3 := hide hV3
  have hw3 : B ≤ w3.heap.size := by omega
  have hck : ckC ⟨((str ls bs).drop (q - 8)).take 4, nn, [], 2⟩ (.slice none 0 0) = [.int .u8 (a0 : Nat), .int .u8 (a1 : Nat), .int .u8 (a2 : Nat), .int .u8 (a3 : Nat), .int .i64 (nn : Nat), .slice none 0 0, .int .i64 2] := by
    simp only [ckC]
    rw [← ha0.out, ← ha1.out, ← ha2.out, ← ha3.out]
    simp [List.getElem?_take]
  replace hck := hide hck
  go_upto_region 17 with fail
  go_upto_region 30 with (refine wpList_pushN rfl (.tmp 69) (.tmp 74) 29 rfl B 43 (.agg #[.int .u8 0, .int .u8 0, .int .u8 0, .int .u8 0, .int .i64 0, .slice none 0 0, .int .i64 0]) 7 48 Tryd.underlying29 info_ck rfl (by decide) (.slice Ao out.length co) out.length (ckCells V 0 out) rfl hV1.out #[.int .u8 (a0 : Nat), .int .u8 (a1 : Nat), .int .u8 (a2 : Nat), .int .u8 (a3 : Nat), .int .i64 (nn : Nat), .slice none 0 0, .int .i64 2] rfl (by simp [Value.oneCell']) rfl (by simp only [maxLen]; omega) (by omega) hw3 ?_; intro ov' w4 hk4 hg4; obtain ⟨Ao4, co4, rfl⟩ := own_shape hk4; replace hk4 := hide hk4; replace hg4 := hide hg4)
  have hCk := hC3.out.more hV1.out hV2.out hV3.out hg4.out (c := ⟨((str ls bs).drop (q - 8)).take 4, nn, [], 2⟩) rfl (by rw [hck.out]; exact hk4.out)
  have hNk := hN3.out.upd hw3 (grown_typed hV1.out hg4.out) (by decide)
  have Cq := hide (hCk)
  have Nq := hide (hNk)
  have hwq : B ≤ (w4).heap.size := by have h1 := Cq.out.up.size; have h2 := Cq.out.hB0; omega
  skip
  generalize w4 = wq at *
  go_wp2_with (refine wpList_push rfl (.tmp 152) (.tmp 154) 36 rfl B 3 (.int .i64 0) 8 Tryd.underlying36 info_intr rfl (.slice Ak kinds.length ck) kinds.length (kinds.map (Value.int .i64)) rfl Cq.out.kinds (.int .i64 0) rfl rfl (by simp only [maxLen]; omega) (by omega) hwq ?_; intro kv' w9 hk9 hg9; obtain ⟨Ak9, ck9, rfl⟩ := own_shape hk9; replace hk9 := hide hk9; replace hg9 := hide hg9)
  have hC9 := Cq.out.tell hk9.out hg9.out
  have hN9 := (Nq.out.upd hwq (grown_typed Cq.out.kinds hg9.out) (by decide)).later (T' := T + nb + 12) (by omega)
  exact hK.out _ _ _ _ _ _ _ _ _ _ _ _ _ _ _ _ _ _ _ _ _ _ _ _ _ _ _ _ _ _ _ _ _ _ _ _ _ _ _ _ _ _ _ _ _ _ _ _ _ _ _ _ _ _ _ _ _ _ _ _ _ _ _ _ _ _ _ _ _ _ _ _ _ _ _ _ _ _ _ _ _ _ _ _ _ _ _ _ _ _ _ _ _ _ _ _ _ _ _ _ _ _ _ _ _ _ _ _ _ _ _ _ _ _ _ _ _ _ _ _ _ _ hC9 hN9
end Go.Proofs.YthkpoidnhgcjhaaDoor

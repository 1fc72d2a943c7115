/- A way through the round of 'impl.Riff'. -/
import Derived.Test.YthkpoidnhgcjhaaDoorRfState
namespace Go.Proofs.YthkpoidnhgcjhaaDoor
set_option linter.unusedSimpArgs false
set_option linter.unusedVariables false
set_option linter.unnecessarySimpa false
open Go.RowKit Plain

set_option maxRecDepth 1000000 in
set_option maxHeartbeats 8000000 in
theorem way_idle {f1 f10 f16 f26 f27 f28 f29 f30 f31 f32 f33 f34 f35 f36 f37 f38 f39 f40 f41 f42 f43 f44 f157 f158 f159 u17 u18 u19 u20 u21 u22 u23 u24 u25 u48 u49 u50 u51 u52 u53 u54 u55 u56 u57 u58 u59 u60 u61 u62 u63 u64 u65 u66 u67 u68 u69 u70 u71 u72 u73 u74 u75 u76 u77 u78 u79 u80 u81 u82 u83 u84 u85 u86 u87 u88 u89 u90 u91 u92 u93 u94 u95 u96 u97 u98 u99 u100 u101 u102 u103 u104 u105 u106 u107 u108 u109 u110 u111 u112 u113 u114 u115 u116 u117 u118 u119 u120 u121 u122 u123 u124 u125 u126 u127 u128 u129 u130 u131 u132 u133 u134 u135 u136 u137 u138 u139 u140 u141 u142 u143 u144 u145 u146 u147 u148 u149 u150 u151 u152 u153 u154 u155 u156 : Value} (K : Act → World → Prop) (Q0 : Exit → Act → World → Prop) (w0 w : World) (Ab As : Option Addr) (B p T nb cb ns cs k fb rb nw : Nat) (cl : List Int) (ae au ar ad al ap ah : Addr) (form z4 : Array Value) (kv ov av : Value) (steps : List (Int × Int)) (op n : Int)
    (pls : List PL) (bs : List Nat) (out : List Ck) (kinds : List Int) (now : Nw) (h0 : op ≠ 0) (h1 : op ≠ 1) (h2 : op ≠ 2) (h3 : op ≠ 3)
    (hv : Env B cl (T + nb + 12)) (hns : (ns : Int) ≤ 1073741824) (hnb : (nb : Int) ≤ 1073741824) (hk : k < ns) (hst : steps.length = ns) (hS : RdS w0 B As steps) (hstep : steps.getD k (0, 0) = (op, n)) (hop : -9223372036854775808 ≤ op ∧ op ≤ 9223372036854775807) (hnI : -9223372036854775808 ≤ n ∧ n ≤ 9223372036854775807)
    (hkl : kinds.length = k + 1) (hol : out.length ≤ k) (hpl : pls.length ≤ k) (hbl : bs.length ≤ nb) (hO : ∀ x ∈ bs, x ≤ 255) (hdl : ∀ c ∈ out, c.data.length + bs.length ≤ nb)
    (C : RC w0 w B ae au ar ad al ap ah fb rb form z4 out kinds kv ov) (N : RN w B p cl T ae ad al ap ah now pls bs av nw)
    (hK : ∀ (v17 v18 v19 v20 v21 v22 v23 v24 v25 v48 v49 v50 v51 v52 v53 v54 v55 v56 v57 v58 v59 v60 v61 v62 v63 v64 v65 v66 v67 v68 v69 v70 v71 v72 v73 v74 v75 v76 v77 v78 v79 v80 v81 v82 v83 v84 v85 v86 v87 v88 v89 v90 v91 v92 v93 v94 v95 v96 v97 v98 v99 v100 v101 v102 v103 v104 v105 v106 v107 v108 v109 v110 v111 v112 v113 v114 v115 v116 v117 v118 v119 v120 v121 v122 v123 v124 v125 v126 v127 v128 v129 v130 v131 v132 v133 v134 v135 v136 v137 v138 v139 v140 v141 v142 v143 v144 v145 v146 v147 v148 v149 v150 v151 v152 v153 v154 v155 v156 kv' ov' av' : Value) (w' : World), RC w0 w' B ae au ar ad al ap ah fb rb form z4 out (kinds ++ [3]) kv' ov' → RN w' B p cl (T + nb + 12) ae ad al ap ah now pls bs av' nw → K ⟨(.slice Ab nb cb :: f1 :: .slice As ns cs :: undef :: undef :: undef :: .pointer (some ⟨rb, 0, none⟩) :: .slice none 0 0 :: .slice none 0 0 :: .pointer (some ⟨fb, 0, none⟩) :: f10 :: .nilIface :: kv' :: ov' :: av' :: .pointer (some ⟨nw, 0, none⟩) :: f16 :: v17 :: v18 :: v19 :: v20 :: v21 :: v22 :: v23 :: v24 :: v25 :: f26 :: f27 :: f28 :: f29 :: f30 :: f31 :: f32 :: f33 :: f34 :: f35 :: f36 :: f37 :: f38 :: f39 :: f40 :: f41 :: f42 :: f43 :: f44 :: .slice As ns cs :: .int .i64 (ns : Nat) :: .int .i64 ((k + 1 : Nat) : Int) :: v48 :: v49 :: v50 :: v51 :: v52 :: v53 :: v54 :: v55 :: v56 :: v57 :: v58 :: v59 :: v60 :: v61 :: v62 :: v63 :: v64 :: v65 :: v66 :: v67 :: v68 :: v69 :: v70 :: v71 :: v72 :: v73 :: v74 :: v75 :: v76 :: v77 :: v78 :: v79 :: v80 :: v81 :: v82 :: v83 :: v84 :: v85 :: v86 :: v87 :: v88 :: v89 :: v90 :: v91 :: v92 :: v93 :: v94 :: v95 :: v96 :: v97 :: v98 :: v99 :: v100 :: v101 :: v102 :: v103 :: v104 :: v105 :: v106 :: v107 :: v108 :: v109 :: v110 :: v111 :: v112 :: v113 :: v114 :: v115 :: v116 :: v117 :: v118 :: v119 :: v120 :: v121 :: v122 :: v123 :: v124 :: v125 :: v126 :: v127 :: v128 :: v129 :: v130 :: v131 :: v132 :: v133 :: v134 :: v135 :: v136 :: v137 :: v138 :: v139 :: v140 :: v141 :: v142 :: v143 :: v144 :: v145 :: v146 :: v147 :: v148 :: v149 :: v150 :: v151 :: v152 :: v153 :: v154 :: v155 :: v156 :: f157 :: f158 :: f159 :: [] : List Value).toArray, []⟩ w') :
    Code.wp Tryd.prog bodyRiff (Exit.then K Q0) ⟨(.slice Ab nb cb :: f1 :: .slice As ns cs :: undef :: undef :: undef :: .pointer (some ⟨rb, 0, none⟩) :: .slice none 0 0 :: .slice none 0 0 :: .pointer (some ⟨fb, 0, none⟩) :: f10 :: .nilIface :: kv :: ov :: av :: .pointer (some ⟨nw, 0, none⟩) :: f16 :: u17 :: u18 :: u19 :: u20 :: u21 :: u22 :: u23 :: u24 :: u25 :: f26 :: f27 :: f28 :: f29 :: f30 :: f31 :: f32 :: f33 :: f34 :: f35 :: f36 :: f37 :: f38 :: f39 :: f40 :: f41 :: f42 :: f43 :: f44 :: .slice As ns cs :: .int .i64 (ns : Nat) :: .int .i64 (k : Int) :: u48 :: u49 :: u50 :: u51 :: u52 :: u53 :: u54 :: u55 :: u56 :: u57 :: u58 :: u59 :: u60 :: u61 :: u62 :: u63 :: u64 :: u65 :: u66 :: u67 :: u68 :: u69 :: u70 :: u71 :: u72 :: u73 :: u74 :: u75 :: u76 :: u77 :: u78 :: u79 :: u80 :: u81 :: u82 :: u83 :: u84 :: u85 :: u86 :: u87 :: u88 :: u89 :: u90 :: u91 :: u92 :: u93 :: u94 :: u95 :: u96 :: u97 :: u98 :: u99 :: u100 :: u101 :: u102 :: u103 :: u104 :: u105 :: u106 :: u107 :: u108 :: u109 :: u110 :: u111 :: u112 :: u113 :: u114 :: u115 :: u116 :: u117 :: u118 :: u119 :: u120 :: u121 :: u122 :: u123 :: u124 :: u125 :: u126 :: u127 :: u128 :: u129 :: u130 :: u131 :: u132 :: u133 :: u134 :: u135 :: u136 :: u137 :: u138 :: u139 :: u140 :: u141 :: u142 :: u143 :: u144 :: u145 :: u146 :: u147 :: u148 :: u149 :: u150 :: u151 :: u152 :: u153 :: u154 :: u155 :: u156 :: f157 :: f158 :: f159 :: [] : List Value).toArray, []⟩ w := by
  have hI : (k : Int) < ns := by omega
  have hwB := C.up.size
  have hB0 := C.hB0
  obtain ⟨sb, so, rfl, hsb, hcell⟩ := hS (by rintro rfl; simp at hst; omega)
  obtain ⟨ho1, ho2⟩ := hcell k (by omega)
  rw [hstep] at ho1 ho2
  replace ho1 := (C.up.cell (p := ⟨sb, so + k * 2, none⟩) (by show sb < _; omega) (by simp)).trans ho1
  replace ho2 := (C.up.cell (p := ⟨sb, so + k * 2 + 1, none⟩) (by show sb < _; omega) (by simp)).trans ho2
  clear hcell hS hstep
  replace hK := hide hK
  obtain ⟨⟨z, d, ls, hnw, hls, hnow, hav⟩, hnB, hna⟩ := N
  obtain ⟨Ak, ck, rfl⟩ := own_shape C.kinds
  obtain ⟨Ao, co, rfl⟩ : ∃ A c, ov = .slice A out.length c := by obtain ⟨V, h, _⟩ := C.outs.h; exact own_shape h
  obtain ⟨Aa, ca, rfl⟩ := own_shape hav
  have hsbw : ¬ sb = w.heap.size := by omega
  have hnwl := hnw.lt
  have hnw' : ¬ nw = w.heap.size := by omega
  have hnw'' : ¬ w.heap.size = nw := by omega
  have hol' : (out.length : Int) ≤ 1073741824 := by omega
  have hlsl : (ls.length : Int) ≤ 1073741824 := by rw [← bare_len, hls]; omega
  obtain ⟨hop0, hop1⟩ := hop
  obtain ⟨hnI0, hnI1⟩ := hnI
  have n0 := hnw.cell 0
  have n1 := hnw.cell 1
  have m0 := hnw.frozen 0
  have m1 := hnw.frozen 1
  simp at n0 n1
  have hklI : (kinds.length : Int) ≤ 1073741825 := by omega
  replace hkl := hide hkl
  replace hls := hide hls
  replace hv := hide hv
  replace hO := hide hO
  replace hdl := hide hdl
  have b0 : (op == 0) = false := by simp [h0]
  have b1 : (op == 1) = false := by simp [h1]
  have b2 : (op == 2) = false := by simp [h2]
  have b3 : (op == 3) = false := by simp [h3]
  clear h0 h1 h2 h3
  replace C := hide C
  replace hnow := hide hnow
  replace hav := hide hav
  replace hnw := hide hnw
  conv => arg 2; whnf
  go_upto_region 30 with fail
  have Cq := hide (C.out.upd (((Upd.refl [] w).alloc (.cells #[.int .i64 op, .int .i64 n] 35)).typed0 (ts := [])) (by decide))
  have Nq := hide (RN.upd (ts := []) ⟨⟨z, d, ls, hnw.out, hls.out, hnow.out, hav.out⟩, hnB, hna⟩ (by omega) (((Upd.refl [] w).alloc (.cells #[.int .i64 op, .int .i64 n] 35)).typed0) (by decide))
  have hwq : B ≤ (w.alloc (.cells #[.int .i64 op, .int .i64 n] 35)).heap.size := by have h1 := Cq.out.up.size; have h2 := Cq.out.hB0; omega
  clear C hnow hav hnw n0 n1 m0 m1 ho1 ho2
  generalize w.alloc (.cells #[.int .i64 op, .int .i64 n] 35) = wq at *
  go_wp2_with (refine wpList_push rfl (.tmp 152) (.tmp 154) 36 rfl B 3 (.int .i64 0) 8 Tryd.underlying36 info_intr rfl (.slice Ak kinds.length ck) kinds.length (kinds.map (Value.int .i64)) rfl Cq.out.kinds (.int .i64 3) rfl rfl (by simp only [maxLen]; omega) (by omega) hwq ?_; intro kv' w9 hk9 hg9; obtain ⟨Ak9, ck9, rfl⟩ := own_shape hk9; replace hk9 := hide hk9; replace hg9 := hide hg9)
  have hC9 := Cq.out.tell hk9.out hg9.out
  have hN9 := (Nq.out.upd hwq (grown_typed Cq.out.kinds hg9.out) (by decide)).later (T' := T + nb + 12) (by omega)
  exact hK.out _ _ _ _ _ _ _ _ _ _ _ _ _ _ _ _ _ _ _ _ _ _ _ _ _ _ _ _ _ _ _ _ _ _ _ _ _ _ _ _ _ _ _ _ _ _ _ _ _ _ _ _ _ _ _ _ _ _ _ _ _ _ _ _ _ _ _ _ _ _ _ _ _ _ _ _ _ _ _ _ _ _ _ _ _ _ _ _ _ _ _ _ _ _ _ _ _ _ _ _ _ _ _ _ _ _ _ _ _ _ _ _ _ _ _ _ _ _ _ _ _ _ hC9 hN9
set_option maxRecDepth 1000000 in
set_option maxHeartbeats 8000000 in
theorem way_idle1 {f1 f10 f16 f26 f27 f28 f29 f30 f31 f32 f33 f34 f35 f36 f37 f38 f39 f40 f41 f42 f43 f44 f157 f158 f159 u17 u18 u19 u20 u21 u22 u23 u24 u25 u48 u49 u50 u51 u52 u53 u54 u55 u56 u57 u58 u59 u60 u61 u62 u63 u64 u65 u66 u67 u68 u69 u70 u71 u72 u73 u74 u75 u76 u77 u78 u79 u80 u81 u82 u83 u84 u85 u86 u87 u88 u89 u90 u91 u92 u93 u94 u95 u96 u97 u98 u99 u100 u101 u102 u103 u104 u105 u106 u107 u108 u109 u110 u111 u112 u113 u114 u115 u116 u117 u118 u119 u120 u121 u122 u123 u124 u125 u126 u127 u128 u129 u130 u131 u132 u133 u134 u135 u136 u137 u138 u139 u140 u141 u142 u143 u144 u145 u146 u147 u148 u149 u150 u151 u152 u153 u154 u155 u156 : Value} (K : Act → World → Prop) (Q0 : Exit → Act → World → Prop) (w0 w : World) (Ab As : Option Addr) (B p T nb cb ns cs k fb rb nw : Nat) (cl : List Int) (ae au ar ad al ap ah : Addr) (form z4 : Array Value) (kv ov av : Value) (steps : List (Int × Int)) (op n : Int)
    (pls : List PL) (bs : List Nat) (out : List Ck) (kinds : List Int) (now : Nw) (hopv : op = 1) (hh : ∀ l, now ≠ .live l true)
    (hv : Env B cl (T + nb + 12)) (hns : (ns : Int) ≤ 1073741824) (hnb : (nb : Int) ≤ 1073741824) (hk : k < ns) (hst : steps.length = ns) (hS : RdS w0 B As steps) (hstep : steps.getD k (0, 0) = (op, n)) (hop : -9223372036854775808 ≤ op ∧ op ≤ 9223372036854775807) (hnI : -9223372036854775808 ≤ n ∧ n ≤ 9223372036854775807)
    (hkl : kinds.length = k + 1) (hol : out.length ≤ k) (hpl : pls.length ≤ k) (hbl : bs.length ≤ nb) (hO : ∀ x ∈ bs, x ≤ 255) (hdl : ∀ c ∈ out, c.data.length + bs.length ≤ nb)
    (C : RC w0 w B ae au ar ad al ap ah fb rb form z4 out kinds kv ov) (N : RN w B p cl T ae ad al ap ah now pls bs av nw)
    (hK : ∀ (v17 v18 v19 v20 v21 v22 v23 v24 v25 v48 v49 v50 v51 v52 v53 v54 v55 v56 v57 v58 v59 v60 v61 v62 v63 v64 v65 v66 v67 v68 v69 v70 v71 v72 v73 v74 v75 v76 v77 v78 v79 v80 v81 v82 v83 v84 v85 v86 v87 v88 v89 v90 v91 v92 v93 v94 v95 v96 v97 v98 v99 v100 v101 v102 v103 v104 v105 v106 v107 v108 v109 v110 v111 v112 v113 v114 v115 v116 v117 v118 v119 v120 v121 v122 v123 v124 v125 v126 v127 v128 v129 v130 v131 v132 v133 v134 v135 v136 v137 v138 v139 v140 v141 v142 v143 v144 v145 v146 v147 v148 v149 v150 v151 v152 v153 v154 v155 v156 kv' ov' av' : Value) (w' : World), RC w0 w' B ae au ar ad al ap ah fb rb form z4 out (kinds ++ [3]) kv' ov' → RN w' B p cl (T + nb + 12) ae ad al ap ah now pls bs av' nw → K ⟨(.slice Ab nb cb :: f1 :: .slice As ns cs :: undef :: undef :: undef :: .pointer (some ⟨rb, 0, none⟩) :: .slice none 0 0 :: .slice none 0 0 :: .pointer (some ⟨fb, 0, none⟩) :: f10 :: .nilIface :: kv' :: ov' :: av' :: .pointer (some ⟨nw, 0, none⟩) :: f16 :: v17 :: v18 :: v19 :: v20 :: v21 :: v22 :: v23 :: v24 :: v25 :: f26 :: f27 :: f28 :: f29 :: f30 :: f31 :: f32 :: f33 :: f34 :: f35 :: f36 :: f37 :: f38 :: f39 :: f40 :: f41 :: f42 :: f43 :: f44 :: .slice As ns cs :: .int .i64 (ns : Nat) :: .int .i64 ((k + 1 : Nat) : Int) :: v48 :: v49 :: v50 :: v51 :: v52 :: v53 :: v54 :: v55 :: v56 :: v57 :: v58 :: v59 :: v60 :: v61 :: v62 :: v63 :: v64 :: v65 :: v66 :: v67 :: v68 :: v69 :: v70 :: v71 :: v72 :: v73 :: v74 :: v75 :: v76 :: v77 :: v78 :: v79 :: v80 :: v81 :: v82 :: v83 :: v84 :: v85 :: v86 :: v87 :: v88 :: v89 :: v90 :: v91 :: v92 :: v93 :: v94 :: v95 :: v96 :: v97 :: v98 :: v99 :: v100 :: v101 :: v102 :: v103 :: v104 :: v105 :: v106 :: v107 :: v108 :: v109 :: v110 :: v111 :: v112 :: v113 :: v114 :: v115 :: v116 :: v117 :: v118 :: v119 :: v120 :: v121 :: v122 :: v123 :: v124 :: v125 :: v126 :: v127 :: v128 :: v129 :: v130 :: v131 :: v132 :: v133 :: v134 :: v135 :: v136 :: v137 :: v138 :: v139 :: v140 :: v141 :: v142 :: v143 :: v144 :: v145 :: v146 :: v147 :: v148 :: v149 :: v150 :: v151 :: v152 :: v153 :: v154 :: v155 :: v156 :: f157 :: f158 :: f159 :: [] : List Value).toArray, []⟩ w') :
    Code.wp Tryd.prog bodyRiff (Exit.then K Q0) ⟨(.slice Ab nb cb :: f1 :: .slice As ns cs :: undef :: undef :: undef :: .pointer (some ⟨rb, 0, none⟩) :: .slice none 0 0 :: .slice none 0 0 :: .pointer (some ⟨fb, 0, none⟩) :: f10 :: .nilIface :: kv :: ov :: av :: .pointer (some ⟨nw, 0, none⟩) :: f16 :: u17 :: u18 :: u19 :: u20 :: u21 :: u22 :: u23 :: u24 :: u25 :: f26 :: f27 :: f28 :: f29 :: f30 :: f31 :: f32 :: f33 :: f34 :: f35 :: f36 :: f37 :: f38 :: f39 :: f40 :: f41 :: f42 :: f43 :: f44 :: .slice As ns cs :: .int .i64 (ns : Nat) :: .int .i64 (k : Int) :: u48 :: u49 :: u50 :: u51 :: u52 :: u53 :: u54 :: u55 :: u56 :: u57 :: u58 :: u59 :: u60 :: u61 :: u62 :: u63 :: u64 :: u65 :: u66 :: u67 :: u68 :: u69 :: u70 :: u71 :: u72 :: u73 :: u74 :: u75 :: u76 :: u77 :: u78 :: u79 :: u80 :: u81 :: u82 :: u83 :: u84 :: u85 :: u86 :: u87 :: u88 :: u89 :: u90 :: u91 :: u92 :: u93 :: u94 :: u95 :: u96 :: u97 :: u98 :: u99 :: u100 :: u101 :: u102 :: u103 :: u104 :: u105 :: u106 :: u107 :: u108 :: u109 :: u110 :: u111 :: u112 :: u113 :: u114 :: u115 :: u116 :: u117 :: u118 :: u119 :: u120 :: u121 :: u122 :: u123 :: u124 :: u125 :: u126 :: u127 :: u128 :: u129 :: u130 :: u131 :: u132 :: u133 :: u134 :: u135 :: u136 :: u137 :: u138 :: u139 :: u140 :: u141 :: u142 :: u143 :: u144 :: u145 :: u146 :: u147 :: u148 :: u149 :: u150 :: u151 :: u152 :: u153 :: u154 :: u155 :: u156 :: f157 :: f158 :: f159 :: [] : List Value).toArray, []⟩ w := by
  subst hopv
  have hI : (k : Int) < ns := by omega
  have hwB := C.up.size
  have hB0 := C.hB0
  obtain ⟨sb, so, rfl, hsb, hcell⟩ := hS (by rintro rfl; simp at hst; omega)
  obtain ⟨ho1, ho2⟩ := hcell k (by omega)
  rw [hstep] at ho1 ho2
  replace ho1 := (C.up.cell (p := ⟨sb, so + k * 2, none⟩) (by show sb < _; omega) (by simp)).trans ho1
  replace ho2 := (C.up.cell (p := ⟨sb, so + k * 2 + 1, none⟩) (by show sb < _; omega) (by simp)).trans ho2
  clear hcell hS hstep
  replace hK := hide hK
  obtain ⟨⟨z, d, ls, hnw, hls, hnow, hav⟩, hnB, hna⟩ := N
  obtain ⟨Ak, ck, rfl⟩ := own_shape C.kinds
  obtain ⟨Ao, co, rfl⟩ : ∃ A c, ov = .slice A out.length c := by obtain ⟨V, h, _⟩ := C.outs.h; exact own_shape h
  obtain ⟨Aa, ca, rfl⟩ := own_shape hav
  have hsbw : ¬ sb = w.heap.size := by omega
  have hnwl := hnw.lt
  have hnw' : ¬ nw = w.heap.size := by omega
  have hnw'' : ¬ w.heap.size = nw := by omega
  have hol' : (out.length : Int) ≤ 1073741824 := by omega
  have hlsl : (ls.length : Int) ≤ 1073741824 := by rw [← bare_len, hls]; omega
  obtain ⟨hop0, hop1⟩ := hop
  obtain ⟨hnI0, hnI1⟩ := hnI
  have n0 := hnw.cell 0
  have n1 := hnw.cell 1
  have m0 := hnw.frozen 0
  have m1 := hnw.frozen 1
  simp at n0 n1
  have hklI : (kinds.length : Int) ≤ 1073741825 := by omega
  replace hkl := hide hkl
  replace hls := hide hls
  replace hv := hide hv
  replace hO := hide hO
  replace hdl := hide hdl
  have hd := hnow.bare hh
  subst hd
  have gd0 := fun W => rdr_gn 82 W
  have gd2 := fun W => rdr_nn W
  have uS := ((Upd.refl [] w).alloc (.cells #[.int .i64 1, .int .i64 n] 35)).typed0 (B := B) (ts := [])
  have hCi := C.upd uS (by decide)
  have hNi := RN.upd (ts := []) (w := w) (now := now) (pls := pls) (bs := bs) (nw := nw) (av := .slice Aa ls.length ca) (T := T) (cl := cl) (p := p) (B := B) (ae := ae) (ad := ad) (al := al) (ap := ap) (ah := ah) ⟨⟨z, _, ls, hnw, hls.out, hnow, hav⟩, hnB, hna⟩ (by omega) uS (by decide)
  replace C := hide C
  replace hnow := hide hnow
  replace hav := hide hav
  replace hnw := hide hnw
  replace hCi := hide hCi
  replace hNi := hide hNi
  clear uS
  conv => arg 2; whnf
  go_upto_region 30 with fail
  have Cq := hide (hCi.out)
  have Nq := hide (hNi.out)
  have hwq : B ≤ (w.alloc (.cells #[.int .i64 1, .int .i64 n] 35)).heap.size := by have h1 := Cq.out.up.size; have h2 := Cq.out.hB0; omega
  clear C hnow hav hnw n0 n1 m0 m1 ho1 ho2
  generalize w.alloc (.cells #[.int .i64 1, .int .i64 n] 35) = wq at *
  go_wp2_with (refine wpList_push rfl (.tmp 152) (.tmp 154) 36 rfl B 3 (.int .i64 0) 8 Tryd.underlying36 info_intr rfl (.slice Ak kinds.length ck) kinds.length (kinds.map (Value.int .i64)) rfl Cq.out.kinds (.int .i64 3) rfl rfl (by simp only [maxLen]; omega) (by omega) hwq ?_; intro kv' w9 hk9 hg9; obtain ⟨Ak9, ck9, rfl⟩ := own_shape hk9; replace hk9 := hide hk9; replace hg9 := hide hg9)
  have hC9 := Cq.out.tell hk9.out hg9.out
  have hN9 := (Nq.out.upd hwq (grown_typed Cq.out.kinds hg9.out) (by decide)).later (T' := T + nb + 12) (by omega)
  exact hK.out _ _ _ _ _ _ _ _ _ _ _ _ _ _ _ _ _ _ _ _ _ _ _ _ _ _ _ _ _ _ _ _ _ _ _ _ _ _ _ _ _ _ _ _ _ _ _ _ _ _ _ _ _ _ _ _ _ _ _ _ _ _ _ _ _ _ _ _ _ _ _ _ _ _ _ _ _ _ _ _ _ _ _ _ _ _ _ _ _ _ _ _ _ _ _ _ _ _ _ _ _ _ _ _ _ _ _ _ _ _ _ _ _ _ _ _ _ _ _ _ _ _ hC9 hN9
set_option maxRecDepth 1000000 in
set_option maxHeartbeats 8000000 in
theorem way_idle2 {f1 f10 f16 f26 f27 f28 f29 f30 f31 f32 f33 f34 f35 f36 f37 f38 f39 f40 f41 f42 f43 f44 f157 f158 f159 u17 u18 u19 u20 u21 u22 u23 u24 u25 u48 u49 u50 u51 u52 u53 u54 u55 u56 u57 u58 u59 u60 u61 u62 u63 u64 u65 u66 u67 u68 u69 u70 u71 u72 u73 u74 u75 u76 u77 u78 u79 u80 u81 u82 u83 u84 u85 u86 u87 u88 u89 u90 u91 u92 u93 u94 u95 u96 u97 u98 u99 u100 u101 u102 u103 u104 u105 u106 u107 u108 u109 u110 u111 u112 u113 u114 u115 u116 u117 u118 u119 u120 u121 u122 u123 u124 u125 u126 u127 u128 u129 u130 u131 u132 u133 u134 u135 u136 u137 u138 u139 u140 u141 u142 u143 u144 u145 u146 u147 u148 u149 u150 u151 u152 u153 u154 u155 u156 : Value} (K : Act → World → Prop) (Q0 : Exit → Act → World → Prop) (w0 w : World) (Ab As : Option Addr) (B p T nb cb ns cs k fb rb nw : Nat) (cl : List Int) (ae au ar ad al ap ah : Addr) (form z4 : Array Value) (kv ov av : Value) (steps : List (Int × Int)) (op n : Int)
    (pls : List PL) (bs : List Nat) (out : List Ck) (kinds : List Int) (now : Nw) (hopv : op = 2) (hh : ∀ l, now ≠ .live l true)
    (hv : Env B cl (T + nb + 12)) (hns : (ns : Int) ≤ 1073741824) (hnb : (nb : Int) ≤ 1073741824) (hk : k < ns) (hst : steps.length = ns) (hS : RdS w0 B As steps) (hstep : steps.getD k (0, 0) = (op, n)) (hop : -9223372036854775808 ≤ op ∧ op ≤ 9223372036854775807) (hnI : -9223372036854775808 ≤ n ∧ n ≤ 9223372036854775807)
    (hkl : kinds.length = k + 1) (hol : out.length ≤ k) (hpl : pls.length ≤ k) (hbl : bs.length ≤ nb) (hO : ∀ x ∈ bs, x ≤ 255) (hdl : ∀ c ∈ out, c.data.length + bs.length ≤ nb)
    (C : RC w0 w B ae au ar ad al ap ah fb rb form z4 out kinds kv ov) (N : RN w B p cl T ae ad al ap ah now pls bs av nw)
    (hK : ∀ (v17 v18 v19 v20 v21 v22 v23 v24 v25 v48 v49 v50 v51 v52 v53 v54 v55 v56 v57 v58 v59 v60 v61 v62 v63 v64 v65 v66 v67 v68 v69 v70 v71 v72 v73 v74 v75 v76 v77 v78 v79 v80 v81 v82 v83 v84 v85 v86 v87 v88 v89 v90 v91 v92 v93 v94 v95 v96 v97 v98 v99 v100 v101 v102 v103 v104 v105 v106 v107 v108 v109 v110 v111 v112 v113 v114 v115 v116 v117 v118 v119 v120 v121 v122 v123 v124 v125 v126 v127 v128 v129 v130 v131 v132 v133 v134 v135 v136 v137 v138 v139 v140 v141 v142 v143 v144 v145 v146 v147 v148 v149 v150 v151 v152 v153 v154 v155 v156 kv' ov' av' : Value) (w' : World), RC w0 w' B ae au ar ad al ap ah fb rb form z4 out (kinds ++ [3]) kv' ov' → RN w' B p cl (T + nb + 12) ae ad al ap ah now pls bs av' nw → K ⟨(.slice Ab nb cb :: f1 :: .slice As ns cs :: undef :: undef :: undef :: .pointer (some ⟨rb, 0, none⟩) :: .slice none 0 0 :: .slice none 0 0 :: .pointer (some ⟨fb, 0, none⟩) :: f10 :: .nilIface :: kv' :: ov' :: av' :: .pointer (some ⟨nw, 0, none⟩) :: f16 :: v17 :: v18 :: v19 :: v20 :: v21 :: v22 :: v23 :: v24 :: v25 :: f26 :: f27 :: f28 :: f29 :: f30 :: f31 :: f32 :: f33 :: f34 :: f35 :: f36 :: f37 :: f38 :: f39 :: f40 :: f41 :: f42 :: f43 :: f44 :: .slice As ns cs :: .int .i64 (ns : Nat) :: .int .i64 ((k + 1 : Nat) : Int) :: v48 :: v49 :: v50 :: v51 :: v52 :: v53 :: v54 :: v55 :: v56 :: v57 :: v58 :: v59 :: v60 :: v61 :: v62 :: v63 :: v64 :: v65 :: v66 :: v67 :: v68 :: v69 :: v70 :: v71 :: v72 :: v73 :: v74 :: v75 :: v76 :: v77 :: v78 :: v79 :: v80 :: v81 :: v82 :: v83 :: v84 :: v85 :: v86 :: v87 :: v88 :: v89 :: v90 :: v91 :: v92 :: v93 :: v94 :: v95 :: v96 :: v97 :: v98 :: v99 :: v100 :: v101 :: v102 :: v103 :: v104 :: v105 :: v106 :: v107 :: v108 :: v109 :: v110 :: v111 :: v112 :: v113 :: v114 :: v115 :: v116 :: v117 :: v118 :: v119 :: v120 :: v121 :: v122 :: v123 :: v124 :: v125 :: v126 :: v127 :: v128 :: v129 :: v130 :: v131 :: v132 :: v133 :: v134 :: v135 :: v136 :: v137 :: v138 :: v139 :: v140 :: v141 :: v142 :: v143 :: v144 :: v145 :: v146 :: v147 :: v148 :: v149 :: v150 :: v151 :: v152 :: v153 :: v154 :: v155 :: v156 :: f157 :: f158 :: f159 :: [] : List Value).toArray, []⟩ w') :
    Code.wp Tryd.prog bodyRiff (Exit.then K Q0) ⟨(.slice Ab nb cb :: f1 :: .slice As ns cs :: undef :: undef :: undef :: .pointer (some ⟨rb, 0, none⟩) :: .slice none 0 0 :: .slice none 0 0 :: .pointer (some ⟨fb, 0, none⟩) :: f10 :: .nilIface :: kv :: ov :: av :: .pointer (some ⟨nw, 0, none⟩) :: f16 :: u17 :: u18 :: u19 :: u20 :: u21 :: u22 :: u23 :: u24 :: u25 :: f26 :: f27 :: f28 :: f29 :: f30 :: f31 :: f32 :: f33 :: f34 :: f35 :: f36 :: f37 :: f38 :: f39 :: f40 :: f41 :: f42 :: f43 :: f44 :: .slice As ns cs :: .int .i64 (ns : Nat) :: .int .i64 (k : Int) :: u48 :: u49 :: u50 :: u51 :: u52 :: u53 :: u54 :: u55 :: u56 :: u57 :: u58 :: u59 :: u60 :: u61 :: u62 :: u63 :: u64 :: u65 :: u66 :: u67 :: u68 :: u69 :: u70 :: u71 :: u72 :: u73 :: u74 :: u75 :: u76 :: u77 :: u78 :: u79 :: u80 :: u81 :: u82 :: u83 :: u84 :: u85 :: u86 :: u87 :: u88 :: u89 :: u90 :: u91 :: u92 :: u93 :: u94 :: u95 :: u96 :: u97 :: u98 :: u99 :: u100 :: u101 :: u102 :: u103 :: u104 :: u105 :: u106 :: u107 :: u108 :: u109 :: u110 :: u111 :: u112 :: u113 :: u114 :: u115 :: u116 :: u117 :: u118 :: u119 :: u120 :: u121 :: u122 :: u123 :: u124 :: u125 :: u126 :: u127 :: u128 :: u129 :: u130 :: u131 :: u132 :: u133 :: u134 :: u135 :: u136 :: u137 :: u138 :: u139 :: u140 :: u141 :: u142 :: u143 :: u144 :: u145 :: u146 :: u147 :: u148 :: u149 :: u150 :: u151 :: u152 :: u153 :: u154 :: u155 :: u156 :: f157 :: f158 :: f159 :: [] : List Value).toArray, []⟩ w := by
  subst hopv
  have hI : (k : Int) < ns := by omega
  have hwB := C.up.size
  have hB0 := C.hB0
  obtain ⟨sb, so, rfl, hsb, hcell⟩ := hS (by rintro rfl; simp at hst; omega)
  obtain ⟨ho1, ho2⟩ := hcell k (by omega)
  rw [hstep] at ho1 ho2
  replace ho1 := (C.up.cell (p := ⟨sb, so + k * 2, none⟩) (by show sb < _; omega) (by simp)).trans ho1
  replace ho2 := (C.up.cell (p := ⟨sb, so + k * 2 + 1, none⟩) (by show sb < _; omega) (by simp)).trans ho2
  clear hcell hS hstep
  replace hK := hide hK
  obtain ⟨⟨z, d, ls, hnw, hls, hnow, hav⟩, hnB, hna⟩ := N
  obtain ⟨Ak, ck, rfl⟩ := own_shape C.kinds
  obtain ⟨Ao, co, rfl⟩ : ∃ A c, ov = .slice A out.length c := by obtain ⟨V, h, _⟩ := C.outs.h; exact own_shape h
  obtain ⟨Aa, ca, rfl⟩ := own_shape hav
  have hsbw : ¬ sb = w.heap.size := by omega
  have hnwl := hnw.lt
  have hnw' : ¬ nw = w.heap.size := by omega
  have hnw'' : ¬ w.heap.size = nw := by omega
  have hol' : (out.length : Int) ≤ 1073741824 := by omega
  have hlsl : (ls.length : Int) ≤ 1073741824 := by rw [← bare_len, hls]; omega
  obtain ⟨hop0, hop1⟩ := hop
  obtain ⟨hnI0, hnI1⟩ := hnI
  have n0 := hnw.cell 0
  have n1 := hnw.cell 1
  have m0 := hnw.frozen 0
  have m1 := hnw.frozen 1
  simp at n0 n1
  have hklI : (kinds.length : Int) ≤ 1073741825 := by omega
  replace hkl := hide hkl
  replace hls := hide hls
  replace hv := hide hv
  replace hO := hide hO
  replace hdl := hide hdl
  have hd := hnow.bare hh
  subst hd
  have gd1 := fun W => rdr_gn 103 W
  have gd2 := fun W => rdr_nn W
  have uS := ((Upd.refl [] w).alloc (.cells #[.int .i64 2, .int .i64 n] 35)).typed0 (B := B) (ts := [])
  have hCi := C.upd uS (by decide)
  have hNi := RN.upd (ts := []) (w := w) (now := now) (pls := pls) (bs := bs) (nw := nw) (av := .slice Aa ls.length ca) (T := T) (cl := cl) (p := p) (B := B) (ae := ae) (ad := ad) (al := al) (ap := ap) (ah := ah) ⟨⟨z, _, ls, hnw, hls.out, hnow, hav⟩, hnB, hna⟩ (by omega) uS (by decide)
  replace C := hide C
  replace hnow := hide hnow
  replace hav := hide hav
  replace hnw := hide hnw
  replace hCi := hide hCi
  replace hNi := hide hNi
  clear uS
  conv => arg 2; whnf
  go_upto_region 30 with fail
  have Cq := hide (hCi.out)
  have Nq := hide (hNi.out)
  have hwq : B ≤ (w.alloc (.cells #[.int .i64 2, .int .i64 n] 35)).heap.size := by have h1 := Cq.out.up.size; have h2 := Cq.out.hB0; omega
  clear C hnow hav hnw n0 n1 m0 m1 ho1 ho2
  generalize w.alloc (.cells #[.int .i64 2, .int .i64 n] 35) = wq at *
  go_wp2_with (refine wpList_push rfl (.tmp 152) (.tmp 154) 36 rfl B 3 (.int .i64 0) 8 Tryd.underlying36 info_intr rfl (.slice Ak kinds.length ck) kinds.length (kinds.map (Value.int .i64)) rfl Cq.out.kinds (.int .i64 3) rfl rfl (by simp only [maxLen]; omega) (by omega) hwq ?_; intro kv' w9 hk9 hg9; obtain ⟨Ak9, ck9, rfl⟩ := own_shape hk9; replace hk9 := hide hk9; replace hg9 := hide hg9)
  have hC9 := Cq.out.tell hk9.out hg9.out
  have hN9 := (Nq.out.upd hwq (grown_typed Cq.out.kinds hg9.out) (by decide)).later (T' := T + nb + 12) (by omega)
  exact hK.out _ _ _ _ _ _ _ _ _ _ _ _ _ _ _ _ _ _ _ _ _ _ _ _ _ _ _ _ _ _ _ _ _ _ _ _ _ _ _ _ _ _ _ _ _ _ _ _ _ _ _ _ _ _ _ _ _ _ _ _ _ _ _ _ _ _ _ _ _ _ _ _ _ _ _ _ _ _ _ _ _ _ _ _ _ _ _ _ _ _ _ _ _ _ _ _ _ _ _ _ _ _ _ _ _ _ _ _ _ _ _ _ _ _ _ _ _ _ _ _ _ _ hC9 hN9
set_option maxRecDepth 1000000 in
set_option maxHeartbeats 8000000 in
theorem way_idle3 {f1 f10 f16 f26 f27 f28 f29 f30 f31 f32 f33 f34 f35 f36 f37 f38 f39 f40 f41 f42 f43 f44 f157 f158 f159 u17 u18 u19 u20 u21 u22 u23 u24 u25 u48 u49 u50 u51 u52 u53 u54 u55 u56 u57 u58 u59 u60 u61 u62 u63 u64 u65 u66 u67 u68 u69 u70 u71 u72 u73 u74 u75 u76 u77 u78 u79 u80 u81 u82 u83 u84 u85 u86 u87 u88 u89 u90 u91 u92 u93 u94 u95 u96 u97 u98 u99 u100 u101 u102 u103 u104 u105 u106 u107 u108 u109 u110 u111 u112 u113 u114 u115 u116 u117 u118 u119 u120 u121 u122 u123 u124 u125 u126 u127 u128 u129 u130 u131 u132 u133 u134 u135 u136 u137 u138 u139 u140 u141 u142 u143 u144 u145 u146 u147 u148 u149 u150 u151 u152 u153 u154 u155 u156 : Value} (K : Act → World → Prop) (Q0 : Exit → Act → World → Prop) (w0 w : World) (Ab As : Option Addr) (B p T nb cb ns cs k fb rb nw : Nat) (cl : List Int) (ae au ar ad al ap ah : Addr) (form z4 : Array Value) (kv ov av : Value) (steps : List (Int × Int)) (op n : Int)
    (pls : List PL) (bs : List Nat) (out : List Ck) (kinds : List Int) (now : Nw) (hopv : op = 3) (hh : pls = [])
    (hv : Env B cl (T + nb + 12)) (hns : (ns : Int) ≤ 1073741824) (hnb : (nb : Int) ≤ 1073741824) (hk : k < ns) (hst : steps.length = ns) (hS : RdS w0 B As steps) (hstep : steps.getD k (0, 0) = (op, n)) (hop : -9223372036854775808 ≤ op ∧ op ≤ 9223372036854775807) (hnI : -9223372036854775808 ≤ n ∧ n ≤ 9223372036854775807)
    (hkl : kinds.length = k + 1) (hol : out.length ≤ k) (hpl : pls.length ≤ k) (hbl : bs.length ≤ nb) (hO : ∀ x ∈ bs, x ≤ 255) (hdl : ∀ c ∈ out, c.data.length + bs.length ≤ nb)
    (C : RC w0 w B ae au ar ad al ap ah fb rb form z4 out kinds kv ov) (N : RN w B p cl T ae ad al ap ah now pls bs av nw)
    (hK : ∀ (v17 v18 v19 v20 v21 v22 v23 v24 v25 v48 v49 v50 v51 v52 v53 v54 v55 v56 v57 v58 v59 v60 v61 v62 v63 v64 v65 v66 v67 v68 v69 v70 v71 v72 v73 v74 v75 v76 v77 v78 v79 v80 v81 v82 v83 v84 v85 v86 v87 v88 v89 v90 v91 v92 v93 v94 v95 v96 v97 v98 v99 v100 v101 v102 v103 v104 v105 v106 v107 v108 v109 v110 v111 v112 v113 v114 v115 v116 v117 v118 v119 v120 v121 v122 v123 v124 v125 v126 v127 v128 v129 v130 v131 v132 v133 v134 v135 v136 v137 v138 v139 v140 v141 v142 v143 v144 v145 v146 v147 v148 v149 v150 v151 v152 v153 v154 v155 v156 kv' ov' av' : Value) (w' : World), RC w0 w' B ae au ar ad al ap ah fb rb form z4 out (kinds ++ [3]) kv' ov' → RN w' B p cl (T + nb + 12) ae ad al ap ah now pls bs av' nw → K ⟨(.slice Ab nb cb :: f1 :: .slice As ns cs :: undef :: undef :: undef :: .pointer (some ⟨rb, 0, none⟩) :: .slice none 0 0 :: .slice none 0 0 :: .pointer (some ⟨fb, 0, none⟩) :: f10 :: .nilIface :: kv' :: ov' :: av' :: .pointer (some ⟨nw, 0, none⟩) :: f16 :: v17 :: v18 :: v19 :: v20 :: v21 :: v22 :: v23 :: v24 :: v25 :: f26 :: f27 :: f28 :: f29 :: f30 :: f31 :: f32 :: f33 :: f34 :: f35 :: f36 :: f37 :: f38 :: f39 :: f40 :: f41 :: f42 :: f43 :: f44 :: .slice As ns cs :: .int .i64 (ns : Nat) :: .int .i64 ((k + 1 : Nat) : Int) :: v48 :: v49 :: v50 :: v51 :: v52 :: v53 :: v54 :: v55 :: v56 :: v57 :: v58 :: v59 :: v60 :: v61 :: v62 :: v63 :: v64 :: v65 :: v66 :: v67 :: v68 :: v69 :: v70 :: v71 :: v72 :: v73 :: v74 :: v75 :: v76 :: v77 :: v78 :: v79 :: v80 :: v81 :: v82 :: v83 :: v84 :: v85 :: v86 :: v87 :: v88 :: v89 :: v90 :: v91 :: v92 :: v93 :: v94 :: v95 :: v96 :: v97 :: v98 :: v99 :: v100 :: v101 :: v102 :: v103 :: v104 :: v105 :: v106 :: v107 :: v108 :: v109 :: v110 :: v111 :: v112 :: v113 :: v114 :: v115 :: v116 :: v117 :: v118 :: v119 :: v120 :: v121 :: v122 :: v123 :: v124 :: v125 :: v126 :: v127 :: v128 :: v129 :: v130 :: v131 :: v132 :: v133 :: v134 :: v135 :: v136 :: v137 :: v138 :: v139 :: v140 :: v141 :: v142 :: v143 :: v144 :: v145 :: v146 :: v147 :: v148 :: v149 :: v150 :: v151 :: v152 :: v153 :: v154 :: v155 :: v156 :: f157 :: f158 :: f159 :: [] : List Value).toArray, []⟩ w') :
    Code.wp Tryd.prog bodyRiff (Exit.then K Q0) ⟨(.slice Ab nb cb :: f1 :: .slice As ns cs :: undef :: undef :: undef :: .pointer (some ⟨rb, 0, none⟩) :: .slice none 0 0 :: .slice none 0 0 :: .pointer (some ⟨fb, 0, none⟩) :: f10 :: .nilIface :: kv :: ov :: av :: .pointer (some ⟨nw, 0, none⟩) :: f16 :: u17 :: u18 :: u19 :: u20 :: u21 :: u22 :: u23 :: u24 :: u25 :: f26 :: f27 :: f28 :: f29 :: f30 :: f31 :: f32 :: f33 :: f34 :: f35 :: f36 :: f37 :: f38 :: f39 :: f40 :: f41 :: f42 :: f43 :: f44 :: .slice As ns cs :: .int .i64 (ns : Nat) :: .int .i64 (k : Int) :: u48 :: u49 :: u50 :: u51 :: u52 :: u53 :: u54 :: u55 :: u56 :: u57 :: u58 :: u59 :: u60 :: u61 :: u62 :: u63 :: u64 :: u65 :: u66 :: u67 :: u68 :: u69 :: u70 :: u71 :: u72 :: u73 :: u74 :: u75 :: u76 :: u77 :: u78 :: u79 :: u80 :: u81 :: u82 :: u83 :: u84 :: u85 :: u86 :: u87 :: u88 :: u89 :: u90 :: u91 :: u92 :: u93 :: u94 :: u95 :: u96 :: u97 :: u98 :: u99 :: u100 :: u101 :: u102 :: u103 :: u104 :: u105 :: u106 :: u107 :: u108 :: u109 :: u110 :: u111 :: u112 :: u113 :: u114 :: u115 :: u116 :: u117 :: u118 :: u119 :: u120 :: u121 :: u122 :: u123 :: u124 :: u125 :: u126 :: u127 :: u128 :: u129 :: u130 :: u131 :: u132 :: u133 :: u134 :: u135 :: u136 :: u137 :: u138 :: u139 :: u140 :: u141 :: u142 :: u143 :: u144 :: u145 :: u146 :: u147 :: u148 :: u149 :: u150 :: u151 :: u152 :: u153 :: u154 :: u155 :: u156 :: f157 :: f158 :: f159 :: [] : List Value).toArray, []⟩ w := by
  subst hopv
  have hI : (k : Int) < ns := by omega
  have hwB := C.up.size
  have hB0 := C.hB0
  obtain ⟨sb, so, rfl, hsb, hcell⟩ := hS (by rintro rfl; simp at hst; omega)
  obtain ⟨ho1, ho2⟩ := hcell k (by omega)
  rw [hstep] at ho1 ho2
  replace ho1 := (C.up.cell (p := ⟨sb, so + k * 2, none⟩) (by show sb < _; omega) (by simp)).trans ho1
  replace ho2 := (C.up.cell (p := ⟨sb, so + k * 2 + 1, none⟩) (by show sb < _; omega) (by simp)).trans ho2
  clear hcell hS hstep
  replace hK := hide hK
  obtain ⟨⟨z, d, ls, hnw, hls, hnow, hav⟩, hnB, hna⟩ := N
  obtain ⟨Ak, ck, rfl⟩ := own_shape C.kinds
  obtain ⟨Ao, co, rfl⟩ : ∃ A c, ov = .slice A out.length c := by obtain ⟨V, h, _⟩ := C.outs.h; exact own_shape h
  obtain ⟨Aa, ca, rfl⟩ := own_shape hav
  have hsbw : ¬ sb = w.heap.size := by omega
  have hnwl := hnw.lt
  have hnw' : ¬ nw = w.heap.size := by omega
  have hnw'' : ¬ w.heap.size = nw := by omega
  have hol' : (out.length : Int) ≤ 1073741824 := by omega
  have hlsl : (ls.length : Int) ≤ 1073741824 := by rw [← bare_len, hls]; omega
  obtain ⟨hop0, hop1⟩ := hop
  obtain ⟨hnI0, hnI1⟩ := hnI
  have n0 := hnw.cell 0
  have n1 := hnw.cell 1
  have m0 := hnw.frozen 0
  have m1 := hnw.frozen 1
  simp at n0 n1
  have hklI : (kinds.length : Int) ≤ 1073741825 := by omega
  replace hkl := hide hkl
  replace hls := hide hls
  replace hv := hide hv
  replace hO := hide hO
  replace hdl := hide hdl
  have hl0 : ls = [] := bare_nil.1 (hls.out.trans hh)
  subst hl0
  simp only [List.length_nil] at *
  have uS := ((Upd.refl [] w).alloc (.cells #[.int .i64 3, .int .i64 n] 35)).typed0 (B := B) (ts := [])
  have hCi := C.upd uS (by decide)
  have hNi := RN.upd (ts := []) (w := w) (now := now) (pls := pls) (bs := bs) (nw := nw) (av := .slice Aa 0 ca) (T := T) (cl := cl) (p := p) (B := B) (ae := ae) (ad := ad) (al := al) (ap := ap) (ah := ah) ⟨⟨z, _, [], hnw, hls.out, hnow, hav⟩, hnB, hna⟩ (by omega) uS (by decide)
  replace C := hide C
  replace hnow := hide hnow
  replace hav := hide hav
  replace hnw := hide hnw
  replace hCi := hide hCi
  replace hNi := hide hNi
  clear uS
  conv => arg 2; whnf
  go_upto_region 30 with fail
  have Cq := hide (hCi.out)
  have Nq := hide (hNi.out)
  have hwq : B ≤ (w.alloc (.cells #[.int .i64 3, .int .i64 n] 35)).heap.size := by have h1 := Cq.out.up.size; have h2 := Cq.out.hB0; omega
  clear C hnow hav hnw n0 n1 m0 m1 ho1 ho2
  generalize w.alloc (.cells #[.int .i64 3, .int .i64 n] 35) = wq at *
  go_wp2_with (refine wpList_push rfl (.tmp 152) (.tmp 154) 36 rfl B 3 (.int .i64 0) 8 Tryd.underlying36 info_intr rfl (.slice Ak kinds.length ck) kinds.length (kinds.map (Value.int .i64)) rfl Cq.out.kinds (.int .i64 3) rfl rfl (by simp only [maxLen]; omega) (by omega) hwq ?_; intro kv' w9 hk9 hg9; obtain ⟨Ak9, ck9, rfl⟩ := own_shape hk9; replace hk9 := hide hk9; replace hg9 := hide hg9)
  have hC9 := Cq.out.tell hk9.out hg9.out
  have hN9 := (Nq.out.upd hwq (grown_typed Cq.out.kinds hg9.out) (by decide)).later (T' := T + nb + 12) (by omega)
  exact hK.out _ _ _ _ _ _ _ _ _ _ _ _ _ _ _ _ _ _ _ _ _ _ _ _ _ _ _ _ _ _ _ _ _ _ _ _ _ _ _ _ _ _ _ _ _ _ _ _ _ _ _ _ _ _ _ _ _ _ _ _ _ _ _ _ _ _ _ _ _ _ _ _ _ _ _ _ _ _ _ _ _ _ _ _ _ _ _ _ _ _ _ _ _ _ _ _ _ _ _ _ _ _ _ _ _ _ _ _ _ _ _ _ _ _ _ _ _ _ _ _ _ _ hC9 hN9
end Go.Proofs.YthkpoidnhgcjhaaDoor

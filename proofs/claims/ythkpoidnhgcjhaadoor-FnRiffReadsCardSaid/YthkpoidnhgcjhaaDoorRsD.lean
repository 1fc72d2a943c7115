/- The round of 'walked': some of its ways. -/
import Derived.Test.YthkpoidnhgcjhaaDoorRsB
import Derived.Test.YthkpoidnhgcjhaaDoorRsC
namespace Go.Proofs.YthkpoidnhgcjhaaDoor
set_option linter.unusedSimpArgs false
set_option linter.unusedVariables false
open Go.RowKit Plain

noncomputable def bodyWalked : Code := (Tryd.f27.body.bind firstLoop).getD .skip
theorem own_form {w : World} {B : Nat} {e : TypeId} {size n c : Nat} {A : Option Addr} {xs : List Value} (h : w.ownsRow B e size (.slice A (n + 1) c) (n + 1) xs) : ∃ g, A = some ⟨g, 0, none⟩ := by
  rcases h.2 with ⟨h0, _⟩ | ⟨g, cap, cur, hv, _⟩
  · cases h0
  · injection hv with h1
    exact ⟨g, h1⟩
end Go.Proofs.YthkpoidnhgcjhaaDoor

namespace Go.Proofs.YthkpoidnhgcjhaaDoor
set_option linter.unusedSimpArgs false
set_option linter.unusedVariables false
set_option linter.unnecessarySimpa false
open Go.RowKit Plain

set_option maxRecDepth 1000000 in
set_option maxHeartbeats 8000000 in
theorem wway_idle {f2 f3 f4 f5 f6 f7 f9 f11 f20 f21 f22 f23 f24 f25 f26 f27 f28 f29 f30 f31 f32 f33 f34 f167 f168 f169 f170 u16 u17 u18 u19 u35 u36 u37 u38 u39 u40 u41 u42 u43 u44 u45 u46 u47 u48 u49 u50 u51 u52 u53 u54 u55 u56 u57 u58 u59 u60 u61 u62 u63 u64 u65 u66 u67 u68 u69 u70 u71 u72 u73 u74 u75 u76 u77 u78 u79 u80 u81 u82 u83 u84 u85 u86 u87 u88 u89 u90 u91 u92 u93 u94 u95 u96 u97 u98 u99 u100 u101 u102 u103 u104 u105 u106 u107 u108 u109 u110 u111 u112 u113 u114 u115 u116 u117 u118 u119 u120 u121 u122 u123 u124 u125 u126 u127 u128 u129 u130 u131 u132 u133 u134 u135 u136 u137 u138 u139 u140 u141 u142 u143 u144 u145 u146 u147 u148 u149 u150 u151 u152 u153 u154 u155 u156 u157 u158 u159 u160 u161 u162 u163 u164 u165 u166 : Value} (K : Act → World → Prop) (Q0 : Exit → Act → World → Prop) (w0 w : World) (Ab As : Option Addr) (B nb cb ns cs k fb rb gf : Nat) (gs : List Nat) (dv : Value) (V : Nat → Value) (form z4 : Array Value) (kv ov av : Value) (steps : List (Int × Int)) (op n : Int)
    (f : SF) (ar : List SF) (out : List Ck) (kinds : List Int) (opn : Bool) (hid : (op ≠ 0 ∧ op ≠ 1 ∧ op ≠ 2 ∧ op ≠ 3) ∨ (op = 1 ∧ f.hand = false) ∨ (op = 2 ∧ f.hand = false) ∨ (op = 3 ∧ ar = []))
    (hns : (ns : Int) ≤ 1048576) (hnb : (nb : Int) ≤ 1073741824) (hk : k < ns) (hst : steps.length = ns) (hS : RdS w0 B As steps) (hstep : steps.getD k (0, 0) = (op, n)) (hop : -9223372036854775808 ≤ op ∧ op ≤ 9223372036854775807) (hnI : -9223372036854775808 ≤ n ∧ n ≤ 9223372036854775807)
    (J : SJ nb k ⟨f, ar, out, kinds, opn⟩) (C : SX w0 w B gf gs dv V fb rb form z4 f ar out kinds kv ov av) (hdv : f.hand = true → dv = V (out.length - 1))
    (hK : ∀ (v16 v17 v18 v19 v35 v36 v37 v38 v39 v40 v41 v42 v43 v44 v45 v46 v47 v48 v49 v50 v51 v52 v53 v54 v55 v56 v57 v58 v59 v60 v61 v62 v63 v64 v65 v66 v67 v68 v69 v70 v71 v72 v73 v74 v75 v76 v77 v78 v79 v80 v81 v82 v83 v84 v85 v86 v87 v88 v89 v90 v91 v92 v93 v94 v95 v96 v97 v98 v99 v100 v101 v102 v103 v104 v105 v106 v107 v108 v109 v110 v111 v112 v113 v114 v115 v116 v117 v118 v119 v120 v121 v122 v123 v124 v125 v126 v127 v128 v129 v130 v131 v132 v133 v134 v135 v136 v137 v138 v139 v140 v141 v142 v143 v144 v145 v146 v147 v148 v149 v150 v151 v152 v153 v154 v155 v156 v157 v158 v159 v160 v161 v162 v163 v164 v165 v166 kv' ov' av' : Value) (gf' : Nat) (gs' : List Nat) (dv' : Value) (V' : Nat → Value) (w' : World), SX w0 w' B gf' gs' dv' V' fb rb form z4 (f) (ar) (out) (kinds ++ [3]) kv' ov' av' → ((f).hand = true → dv' = V' ((out).length - 1)) → K ⟨(.slice Ab nb cb :: .slice As ns cs :: f2 :: f3 :: f4 :: f5 :: f6 :: f7 :: .pointer (some ⟨gf', 0, none⟩) :: f9 :: .bool opn :: f11 :: av' :: ov' :: kv' :: .int .i64 ((k + 1 : Nat) : Int) :: v16 :: v17 :: v18 :: v19 :: f20 :: f21 :: f22 :: f23 :: f24 :: f25 :: f26 :: f27 :: f28 :: f29 :: f30 :: f31 :: f32 :: f33 :: f34 :: v35 :: v36 :: v37 :: v38 :: v39 :: v40 :: v41 :: v42 :: v43 :: v44 :: v45 :: v46 :: v47 :: v48 :: v49 :: v50 :: v51 :: v52 :: v53 :: v54 :: v55 :: v56 :: v57 :: v58 :: v59 :: v60 :: v61 :: v62 :: v63 :: v64 :: v65 :: v66 :: v67 :: v68 :: v69 :: v70 :: v71 :: v72 :: v73 :: v74 :: v75 :: v76 :: v77 :: v78 :: v79 :: v80 :: v81 :: v82 :: v83 :: v84 :: v85 :: v86 :: v87 :: v88 :: v89 :: v90 :: v91 :: v92 :: v93 :: v94 :: v95 :: v96 :: v97 :: v98 :: v99 :: v100 :: v101 :: v102 :: v103 :: v104 :: v105 :: v106 :: v107 :: v108 :: v109 :: v110 :: v111 :: v112 :: v113 :: v114 :: v115 :: v116 :: v117 :: v118 :: v119 :: v120 :: v121 :: v122 :: v123 :: v124 :: v125 :: v126 :: v127 :: v128 :: v129 :: v130 :: v131 :: v132 :: v133 :: v134 :: v135 :: v136 :: v137 :: v138 :: v139 :: v140 :: v141 :: v142 :: v143 :: v144 :: v145 :: v146 :: v147 :: v148 :: v149 :: v150 :: v151 :: v152 :: v153 :: v154 :: v155 :: v156 :: v157 :: v158 :: v159 :: v160 :: v161 :: v162 :: v163 :: v164 :: v165 :: v166 :: f167 :: f168 :: f169 :: f170 :: [] : List Value).toArray, []⟩ w') :
    Code.wp Tryd.prog bodyWalked (Exit.then K Q0) ⟨(.slice Ab nb cb :: .slice As ns cs :: f2 :: f3 :: f4 :: f5 :: f6 :: f7 :: .pointer (some ⟨gf, 0, none⟩) :: f9 :: .bool opn :: f11 :: av :: ov :: kv :: .int .i64 (k : Int) :: u16 :: u17 :: u18 :: u19 :: f20 :: f21 :: f22 :: f23 :: f24 :: f25 :: f26 :: f27 :: f28 :: f29 :: f30 :: f31 :: f32 :: f33 :: f34 :: u35 :: u36 :: u37 :: u38 :: u39 :: u40 :: u41 :: u42 :: u43 :: u44 :: u45 :: u46 :: u47 :: u48 :: u49 :: u50 :: u51 :: u52 :: u53 :: u54 :: u55 :: u56 :: u57 :: u58 :: u59 :: u60 :: u61 :: u62 :: u63 :: u64 :: u65 :: u66 :: u67 :: u68 :: u69 :: u70 :: u71 :: u72 :: u73 :: u74 :: u75 :: u76 :: u77 :: u78 :: u79 :: u80 :: u81 :: u82 :: u83 :: u84 :: u85 :: u86 :: u87 :: u88 :: u89 :: u90 :: u91 :: u92 :: u93 :: u94 :: u95 :: u96 :: u97 :: u98 :: u99 :: u100 :: u101 :: u102 :: u103 :: u104 :: u105 :: u106 :: u107 :: u108 :: u109 :: u110 :: u111 :: u112 :: u113 :: u114 :: u115 :: u116 :: u117 :: u118 :: u119 :: u120 :: u121 :: u122 :: u123 :: u124 :: u125 :: u126 :: u127 :: u128 :: u129 :: u130 :: u131 :: u132 :: u133 :: u134 :: u135 :: u136 :: u137 :: u138 :: u139 :: u140 :: u141 :: u142 :: u143 :: u144 :: u145 :: u146 :: u147 :: u148 :: u149 :: u150 :: u151 :: u152 :: u153 :: u154 :: u155 :: u156 :: u157 :: u158 :: u159 :: u160 :: u161 :: u162 :: u163 :: u164 :: u165 :: u166 :: f167 :: f168 :: f169 :: f170 :: [] : List Value).toArray, []⟩ w := by
  have hI : (k : Int) < ns := by omega
  have hwB := C.bw
  have hwu := C.up.size
  have hB0 := C.hB0
  obtain ⟨sb, so, rfl, hsb, hcell⟩ := hS (by rintro rfl; simp at hst; omega)
  obtain ⟨ho1, ho2⟩ := hcell k (by omega)
  rw [hstep] at ho1 ho2
  replace ho1 := (C.up.cell (p := ⟨sb, so + k * 2, none⟩) (by show sb < _; omega) (by simp)).trans ho1
  replace ho2 := (C.up.cell (p := ⟨sb, so + k * 2 + 1, none⟩) (by show sb < _; omega) (by simp)).trans ho2
  clear hcell hS hstep
  replace hK := hide hK
  obtain ⟨Ak, ck, rfl⟩ := own_shape C.kinds
  obtain ⟨Aa, ca, rfl⟩ := own_shape C.around
  obtain ⟨Ao, co, rfl⟩ := own_shape C.outs.row
  have hsbw : ¬ sb = w.heap.size := by omega
  have hol : (out.length : Int) ≤ 1048576 := by have h1 : out.length ≤ k := J.ol; omega
  have hgl : (gs.length : Int) ≤ 1048576 := by have h1 : ar.length ≤ k := J.al; rw [C.files.len]; omega
  have hkl : (kinds.length : Int) ≤ 1048577 := by have h1 : kinds.length = k + 1 := J.kl; omega
  obtain ⟨hop0, hop1⟩ := hop
  obtain ⟨hnI0, hnI1⟩ := hnI
  have hfl := C.f.lt
  have hfn : ¬ gf = w.heap.size := by omega
  have hfB := C.ge gf (by simp)
  have c3 : w.cell? ⟨gf, 3, none⟩ = some (.bool f.hand) := by obtain ⟨_, _, _, _, h1, _⟩ := C.f.h; exact h1.cell 3
  replace J := hide J
  replace hdv := hide hdv
  rcases hid with ⟨h0, h1, h2, h3⟩ | ⟨rfl, hh⟩ | ⟨rfl, hh⟩ | ⟨rfl, hh⟩
  · have b0 : (op == 0) = false := by simp [h0]
    have b1 : (op == 1) = false := by simp [h1]
    have b2 : (op == 2) = false := by simp [h2]
    have b3 : (op == 3) = false := by simp [h3]
    clear h0 h1 h2 h3
    replace C := hide C
    conv => arg 2; whnf
    have Cq := hide (C.out.alloc (.cells #[.int .i64 op, .int .i64 n] 78))
    go_upto_region 35 with fail
    have hwq : B ≤ (w.alloc (.cells #[.int .i64 op, .int .i64 n] 78)).heap.size := Cq.out.bw
    clear C c3 ho1 ho2
    generalize w.alloc (.cells #[.int .i64 op, .int .i64 n] 78) = wq at *
    go_wp2_with (refine wpList_push rfl (.tmp 163) (.tmp 165) 36 rfl B 3 (.int .i64 0) 8 Tryd.underlying36 info_intr rfl (.slice Ak kinds.length ck) kinds.length (kinds.map (Value.int .i64)) rfl Cq.out.kinds (.int .i64 3) rfl rfl (by simp only [maxLen]; omega) (by omega) hwq ?_; intro kv' w9 hk9 hg9; obtain ⟨Ak9, ck9, rfl⟩ := own_shape hk9; replace hk9 := hide hk9; replace hg9 := hide hg9)
    have hC9 := Cq.out.tell hk9.out hg9.out
    exact hK.out _ _ _ _ _ _ _ _ _ _ _ _ _ _ _ _ _ _ _ _ _ _ _ _ _ _ _ _ _ _ _ _ _ _ _ _ _ _ _ _ _ _ _ _ _ _ _ _ _ _ _ _ _ _ _ _ _ _ _ _ _ _ _ _ _ _ _ _ _ _ _ _ _ _ _ _ _ _ _ _ _ _ _ _ _ _ _ _ _ _ _ _ _ _ _ _ _ _ _ _ _ _ _ _ _ _ _ _ _ _ _ _ _ _ _ _ _ _ _ _ _ _ _ _ _ _ _ _ _ _ _ _ _ _ _ _ _ _ _ _ _ _ _ _ hC9 (hdv.out)
  · rw [hh] at c3
    replace hh := hide hh
    replace C := hide C
    conv => arg 2; whnf
    have Cq := hide (C.out.alloc (.cells #[.int .i64 1, .int .i64 n] 78))
    go_upto_region 35 with fail
    have hwq : B ≤ (w.alloc (.cells #[.int .i64 1, .int .i64 n] 78)).heap.size := Cq.out.bw
    clear C c3 ho1 ho2
    generalize w.alloc (.cells #[.int .i64 1, .int .i64 n] 78) = wq at *
    go_wp2_with (refine wpList_push rfl (.tmp 163) (.tmp 165) 36 rfl B 3 (.int .i64 0) 8 Tryd.underlying36 info_intr rfl (.slice Ak kinds.length ck) kinds.length (kinds.map (Value.int .i64)) rfl Cq.out.kinds (.int .i64 3) rfl rfl (by simp only [maxLen]; omega) (by omega) hwq ?_; intro kv' w9 hk9 hg9; obtain ⟨Ak9, ck9, rfl⟩ := own_shape hk9; replace hk9 := hide hk9; replace hg9 := hide hg9)
    have hC9 := Cq.out.tell hk9.out hg9.out
    exact hK.out _ _ _ _ _ _ _ _ _ _ _ _ _ _ _ _ _ _ _ _ _ _ _ _ _ _ _ _ _ _ _ _ _ _ _ _ _ _ _ _ _ _ _ _ _ _ _ _ _ _ _ _ _ _ _ _ _ _ _ _ _ _ _ _ _ _ _ _ _ _ _ _ _ _ _ _ _ _ _ _ _ _ _ _ _ _ _ _ _ _ _ _ _ _ _ _ _ _ _ _ _ _ _ _ _ _ _ _ _ _ _ _ _ _ _ _ _ _ _ _ _ _ _ _ _ _ _ _ _ _ _ _ _ _ _ _ _ _ _ _ _ _ _ _ hC9 (hdv.out)
  · rw [hh] at c3
    replace hh := hide hh
    replace C := hide C
    conv => arg 2; whnf
    have Cq := hide (C.out.alloc (.cells #[.int .i64 2, .int .i64 n] 78))
    go_upto_region 35 with fail
    have hwq : B ≤ (w.alloc (.cells #[.int .i64 2, .int .i64 n] 78)).heap.size := Cq.out.bw
    clear C c3 ho1 ho2
    generalize w.alloc (.cells #[.int .i64 2, .int .i64 n] 78) = wq at *
    go_wp2_with (refine wpList_push rfl (.tmp 163) (.tmp 165) 36 rfl B 3 (.int .i64 0) 8 Tryd.underlying36 info_intr rfl (.slice Ak kinds.length ck) kinds.length (kinds.map (Value.int .i64)) rfl Cq.out.kinds (.int .i64 3) rfl rfl (by simp only [maxLen]; omega) (by omega) hwq ?_; intro kv' w9 hk9 hg9; obtain ⟨Ak9, ck9, rfl⟩ := own_shape hk9; replace hk9 := hide hk9; replace hg9 := hide hg9)
    have hC9 := Cq.out.tell hk9.out hg9.out
    exact hK.out _ _ _ _ _ _ _ _ _ _ _ _ _ _ _ _ _ _ _ _ _ _ _ _ _ _ _ _ _ _ _ _ _ _ _ _ _ _ _ _ _ _ _ _ _ _ _ _ _ _ _ _ _ _ _ _ _ _ _ _ _ _ _ _ _ _ _ _ _ _ _ _ _ _ _ _ _ _ _ _ _ _ _ _ _ _ _ _ _ _ _ _ _ _ _ _ _ _ _ _ _ _ _ _ _ _ _ _ _ _ _ _ _ _ _ _ _ _ _ _ _ _ _ _ _ _ _ _ _ _ _ _ _ _ _ _ _ _ _ _ _ _ _ _ hC9 (hdv.out)
  · have hgs0 : gs.length = 0 := by rw [C.files.len, hh]; rfl
    obtain rfl : gs = [] := by cases gs with
      | nil => rfl
      | cons _ _ => simp at hgs0
    clear hgs0
    replace hh := hide hh
    replace C := hide C
    conv => arg 2; whnf
    have Cq := hide (C.out.alloc (.cells #[.int .i64 3, .int .i64 n] 78))
    go_upto_region 35 with fail
    have hwq : B ≤ (w.alloc (.cells #[.int .i64 3, .int .i64 n] 78)).heap.size := Cq.out.bw
    clear C c3 ho1 ho2
    generalize w.alloc (.cells #[.int .i64 3, .int .i64 n] 78) = wq at *
    go_wp2_with (refine wpList_push rfl (.tmp 163) (.tmp 165) 36 rfl B 3 (.int .i64 0) 8 Tryd.underlying36 info_intr rfl (.slice Ak kinds.length ck) kinds.length (kinds.map (Value.int .i64)) rfl Cq.out.kinds (.int .i64 3) rfl rfl (by simp only [maxLen]; omega) (by omega) hwq ?_; intro kv' w9 hk9 hg9; obtain ⟨Ak9, ck9, rfl⟩ := own_shape hk9; replace hk9 := hide hk9; replace hg9 := hide hg9)
    have hC9 := Cq.out.tell hk9.out hg9.out
    exact hK.out _ _ _ _ _ _ _ _ _ _ _ _ _ _ _ _ _ _ _ _ _ _ _ _ _ _ _ _ _ _ _ _ _ _ _ _ _ _ _ _ _ _ _ _ _ _ _ _ _ _ _ _ _ _ _ _ _ _ _ _ _ _ _ _ _ _ _ _ _ _ _ _ _ _ _ _ _ _ _ _ _ _ _ _ _ _ _ _ _ _ _ _ _ _ _ _ _ _ _ _ _ _ _ _ _ _ _ _ _ _ _ _ _ _ _ _ _ _ _ _ _ _ _ _ _ _ _ _ _ _ _ _ _ _ _ _ _ _ _ _ _ _ _ _ hC9 (hdv.out)
end Go.Proofs.YthkpoidnhgcjhaaDoor

namespace Go.Proofs.YthkpoidnhgcjhaaDoor
set_option linter.unusedSimpArgs false
set_option linter.unusedVariables false
set_option linter.unnecessarySimpa false
open Go.RowKit Plain

set_option maxRecDepth 1000000 in
set_option maxHeartbeats 8000000 in
theorem wway_nexte {f2 f3 f4 f5 f6 f7 f9 f11 f20 f21 f22 f23 f24 f25 f26 f27 f28 f29 f30 f31 f32 f33 f34 f167 f168 f169 f170 u16 u17 u18 u19 u35 u36 u37 u38 u39 u40 u41 u42 u43 u44 u45 u46 u47 u48 u49 u50 u51 u52 u53 u54 u55 u56 u57 u58 u59 u60 u61 u62 u63 u64 u65 u66 u67 u68 u69 u70 u71 u72 u73 u74 u75 u76 u77 u78 u79 u80 u81 u82 u83 u84 u85 u86 u87 u88 u89 u90 u91 u92 u93 u94 u95 u96 u97 u98 u99 u100 u101 u102 u103 u104 u105 u106 u107 u108 u109 u110 u111 u112 u113 u114 u115 u116 u117 u118 u119 u120 u121 u122 u123 u124 u125 u126 u127 u128 u129 u130 u131 u132 u133 u134 u135 u136 u137 u138 u139 u140 u141 u142 u143 u144 u145 u146 u147 u148 u149 u150 u151 u152 u153 u154 u155 u156 u157 u158 u159 u160 u161 u162 u163 u164 u165 u166 : Value} (K : Act → World → Prop) (Q0 : Exit → Act → World → Prop) (w0 w : World) (Ab As : Option Addr) (B nb cb ns cs k fb rb gf : Nat) (gs : List Nat) (dv : Value) (V : Nat → Value) (form z4 : Array Value) (kv ov av : Value) (steps : List (Int × Int)) (op n : Int)
    (f : SF) (ar : List SF) (out : List Ck) (kinds : List Int) (opn : Bool) (hop : op = 0) (hz : (sNext f).1 ≠ 0)
    (hns : (ns : Int) ≤ 1048576) (hnb : (nb : Int) ≤ 1073741824) (hk : k < ns) (hst : steps.length = ns) (hS : RdS w0 B As steps) (hstep : steps.getD k (0, 0) = (op, n)) (hop : -9223372036854775808 ≤ op ∧ op ≤ 9223372036854775807) (hnI : -9223372036854775808 ≤ n ∧ n ≤ 9223372036854775807)
    (J : SJ nb k ⟨f, ar, out, kinds, opn⟩) (C : SX w0 w B gf gs dv V fb rb form z4 f ar out kinds kv ov av) (hdv : f.hand = true → dv = V (out.length - 1))
    (hK : ∀ (v16 v17 v18 v19 v35 v36 v37 v38 v39 v40 v41 v42 v43 v44 v45 v46 v47 v48 v49 v50 v51 v52 v53 v54 v55 v56 v57 v58 v59 v60 v61 v62 v63 v64 v65 v66 v67 v68 v69 v70 v71 v72 v73 v74 v75 v76 v77 v78 v79 v80 v81 v82 v83 v84 v85 v86 v87 v88 v89 v90 v91 v92 v93 v94 v95 v96 v97 v98 v99 v100 v101 v102 v103 v104 v105 v106 v107 v108 v109 v110 v111 v112 v113 v114 v115 v116 v117 v118 v119 v120 v121 v122 v123 v124 v125 v126 v127 v128 v129 v130 v131 v132 v133 v134 v135 v136 v137 v138 v139 v140 v141 v142 v143 v144 v145 v146 v147 v148 v149 v150 v151 v152 v153 v154 v155 v156 v157 v158 v159 v160 v161 v162 v163 v164 v165 v166 kv' ov' av' : Value) (gf' : Nat) (gs' : List Nat) (dv' : Value) (V' : Nat → Value) (w' : World), SX w0 w' B gf' gs' dv' V' fb rb form z4 ((sNext f).2) (ar) (out) (kinds ++ [((sNext f).1 : Int)]) kv' ov' av' → (((sNext f).2).hand = true → dv' = V' ((out).length - 1)) → K ⟨(.slice Ab nb cb :: .slice As ns cs :: f2 :: f3 :: f4 :: f5 :: f6 :: f7 :: .pointer (some ⟨gf', 0, none⟩) :: f9 :: .bool (opn || (sNext f).2.odd) :: f11 :: av' :: ov' :: kv' :: .int .i64 ((k + 1 : Nat) : Int) :: v16 :: v17 :: v18 :: v19 :: f20 :: f21 :: f22 :: f23 :: f24 :: f25 :: f26 :: f27 :: f28 :: f29 :: f30 :: f31 :: f32 :: f33 :: f34 :: v35 :: v36 :: v37 :: v38 :: v39 :: v40 :: v41 :: v42 :: v43 :: v44 :: v45 :: v46 :: v47 :: v48 :: v49 :: v50 :: v51 :: v52 :: v53 :: v54 :: v55 :: v56 :: v57 :: v58 :: v59 :: v60 :: v61 :: v62 :: v63 :: v64 :: v65 :: v66 :: v67 :: v68 :: v69 :: v70 :: v71 :: v72 :: v73 :: v74 :: v75 :: v76 :: v77 :: v78 :: v79 :: v80 :: v81 :: v82 :: v83 :: v84 :: v85 :: v86 :: v87 :: v88 :: v89 :: v90 :: v91 :: v92 :: v93 :: v94 :: v95 :: v96 :: v97 :: v98 :: v99 :: v100 :: v101 :: v102 :: v103 :: v104 :: v105 :: v106 :: v107 :: v108 :: v109 :: v110 :: v111 :: v112 :: v113 :: v114 :: v115 :: v116 :: v117 :: v118 :: v119 :: v120 :: v121 :: v122 :: v123 :: v124 :: v125 :: v126 :: v127 :: v128 :: v129 :: v130 :: v131 :: v132 :: v133 :: v134 :: v135 :: v136 :: v137 :: v138 :: v139 :: v140 :: v141 :: v142 :: v143 :: v144 :: v145 :: v146 :: v147 :: v148 :: v149 :: v150 :: v151 :: v152 :: v153 :: v154 :: v155 :: v156 :: v157 :: v158 :: v159 :: v160 :: v161 :: v162 :: v163 :: v164 :: v165 :: v166 :: f167 :: f168 :: f169 :: f170 :: [] : List Value).toArray, []⟩ w') :
    Code.wp Tryd.prog bodyWalked (Exit.then K Q0) ⟨(.slice Ab nb cb :: .slice As ns cs :: f2 :: f3 :: f4 :: f5 :: f6 :: f7 :: .pointer (some ⟨gf, 0, none⟩) :: f9 :: .bool opn :: f11 :: av :: ov :: kv :: .int .i64 (k : Int) :: u16 :: u17 :: u18 :: u19 :: f20 :: f21 :: f22 :: f23 :: f24 :: f25 :: f26 :: f27 :: f28 :: f29 :: f30 :: f31 :: f32 :: f33 :: f34 :: u35 :: u36 :: u37 :: u38 :: u39 :: u40 :: u41 :: u42 :: u43 :: u44 :: u45 :: u46 :: u47 :: u48 :: u49 :: u50 :: u51 :: u52 :: u53 :: u54 :: u55 :: u56 :: u57 :: u58 :: u59 :: u60 :: u61 :: u62 :: u63 :: u64 :: u65 :: u66 :: u67 :: u68 :: u69 :: u70 :: u71 :: u72 :: u73 :: u74 :: u75 :: u76 :: u77 :: u78 :: u79 :: u80 :: u81 :: u82 :: u83 :: u84 :: u85 :: u86 :: u87 :: u88 :: u89 :: u90 :: u91 :: u92 :: u93 :: u94 :: u95 :: u96 :: u97 :: u98 :: u99 :: u100 :: u101 :: u102 :: u103 :: u104 :: u105 :: u106 :: u107 :: u108 :: u109 :: u110 :: u111 :: u112 :: u113 :: u114 :: u115 :: u116 :: u117 :: u118 :: u119 :: u120 :: u121 :: u122 :: u123 :: u124 :: u125 :: u126 :: u127 :: u128 :: u129 :: u130 :: u131 :: u132 :: u133 :: u134 :: u135 :: u136 :: u137 :: u138 :: u139 :: u140 :: u141 :: u142 :: u143 :: u144 :: u145 :: u146 :: u147 :: u148 :: u149 :: u150 :: u151 :: u152 :: u153 :: u154 :: u155 :: u156 :: u157 :: u158 :: u159 :: u160 :: u161 :: u162 :: u163 :: u164 :: u165 :: u166 :: f167 :: f168 :: f169 :: f170 :: [] : List Value).toArray, []⟩ w := by
  have hI : (k : Int) < ns := by omega
  have hwB := C.bw
  have hwu := C.up.size
  have hB0 := C.hB0
  obtain ⟨sb, so, rfl, hsb, hcell⟩ := hS (by rintro rfl; simp at hst; omega)
  obtain ⟨ho1, ho2⟩ := hcell k (by omega)
  rw [hstep] at ho1 ho2
  replace ho1 := (C.up.cell (p := ⟨sb, so + k * 2, none⟩) (by show sb < _; omega) (by simp)).trans ho1
  replace ho2 := (C.up.cell (p := ⟨sb, so + k * 2 + 1, none⟩) (by show sb < _; omega) (by simp)).trans ho2
  clear hcell hS hstep
  replace hK := hide hK
  obtain ⟨Ak, ck, rfl⟩ := own_shape C.kinds
  obtain ⟨Aa, ca, rfl⟩ := own_shape C.around
  obtain ⟨Ao, co, rfl⟩ := own_shape C.outs.row
  have hsbw : ¬ sb = w.heap.size := by omega
  have hol : (out.length : Int) ≤ 1048576 := by have h1 : out.length ≤ k := J.ol; omega
  have hgl : (gs.length : Int) ≤ 1048576 := by have h1 : ar.length ≤ k := J.al; rw [C.files.len]; omega
  have hkl : (kinds.length : Int) ≤ 1048577 := by have h1 : kinds.length = k + 1 := J.kl; omega
  obtain ⟨hop0, hop1⟩ := hop
  obtain ⟨hnI0, hnI1⟩ := hnI
  have hfl := C.f.lt
  have hfn : ¬ gf = w.heap.size := by omega
  have hfB := C.ge gf (by simp)
  have c3 : w.cell? ⟨gf, 3, none⟩ = some (.bool f.hand) := by obtain ⟨_, _, _, _, h1, _⟩ := C.f.h; exact h1.cell 3
  replace J := hide J
  replace hdv := hide hdv
  subst hop
  have cN := next_spec gf B nb f dv _ (C.alloc (.cells #[.int .i64 0, .int .i64 n] 78)).f J.out.f hnb (C.alloc _).bw hfB
  unfold NextPostS at cN
  replace cN := hide cN
  have hzI : ((sNext f).1 : Int) ≠ 0 := by omega
  have hzq : (((sNext f).1 : Int) == 0) = false := beq_false_of_ne hzI
  have hh1 : (sNext f).2.hand = false := next_hand hz (fun e => ⟨(J.out.hand e).1, (J.out.hand e).2.1⟩)
  obtain ⟨R, hR⟩ : ∃ R, R = sNext f := ⟨_, rfl⟩
  rw [← hR] at cN hK hz hzI hzq hh1
  replace hR := hide hR
  conv => arg 2; whnf
  go_upto_region 16 with fail
  have sB := hide (Blk.new w 78 #[.int .i64 0, .int .i64 n])
  replace C := hide (C.alloc (.cells #[.int .i64 0, .int .i64 n] 78))
  clear c3 ho1 ho2 hsbw hwu
  replace hwB : B ≤ (w.alloc (.cells #[.int .i64 0, .int .i64 n] 78)).heap.size := C.out.bw
  replace hfl : gf < (w.alloc (.cells #[.int .i64 0, .int .i64 n] 78)).heap.size := C.out.f.lt
  have hsx : w.heap.size < (w.alloc (.cells #[.int .i64 0, .int .i64 n] 78)).heap.size := by simp
  generalize w.alloc (.cells #[.int .i64 0, .int .i64 n] 78) = wS at *
  generalize w.heap.size = sx at *
  have o0 : wS.cell? ⟨sx, 0, none⟩ = some (.int .i64 0) := sB.out.cell 0
  have o1 : wS.cell? ⟨sx, 1, none⟩ = some (.int .i64 n) := sB.out.cell 1
  cases opn with
  | false =>
    go_upto_region 35 with (first
    | (go_at_call 32; (with_reducible refine (cN.out).mono ?_); rintro e w1 ⟨rfl, hu1, dv1, hF1, hdv1⟩; have C1 := C.out.turn hu1 hF1; have c19 : w1.cell? ⟨gf, 19, none⟩ = some (.bool R.2.odd) := (by obtain ⟨_, _, _, _, h1, _⟩ := hF1.h; exact h1.cell 19); replace C1 := hide C1; clear hF1 hu1 hdv1)
    | fail)
    have Cq := hide (C1.out)
    clear C
    have hwq : B ≤ (w1).heap.size := Cq.out.bw
    generalize w1 = wq at *
    go_wp2_with (refine wpList_push rfl (.tmp 163) (.tmp 165) 36 rfl B 3 (.int .i64 0) 8 Tryd.underlying36 info_intr rfl (.slice Ak kinds.length ck) kinds.length (kinds.map (Value.int .i64)) rfl Cq.out.kinds (.int .i64 (R.1 : Nat)) rfl rfl (by simp only [maxLen]; omega) (by omega) hwq ?_; intro kv' w9 hk9 hg9; obtain ⟨Ak9, ck9, rfl⟩ := own_shape hk9; replace hk9 := hide hk9; replace hg9 := hide hg9)
    have hC9 := Cq.out.tell hk9.out hg9.out
    exact hK.out _ _ _ _ _ _ _ _ _ _ _ _ _ _ _ _ _ _ _ _ _ _ _ _ _ _ _ _ _ _ _ _ _ _ _ _ _ _ _ _ _ _ _ _ _ _ _ _ _ _ _ _ _ _ _ _ _ _ _ _ _ _ _ _ _ _ _ _ _ _ _ _ _ _ _ _ _ _ _ _ _ _ _ _ _ _ _ _ _ _ _ _ _ _ _ _ _ _ _ _ _ _ _ _ _ _ _ _ _ _ _ _ _ _ _ _ _ _ _ _ _ _ _ _ _ _ _ _ _ _ _ _ _ _ _ _ _ _ _ _ _ _ _ _ hC9 (fun e => by rw [hh1] at e; cases e)
  | true =>
    go_upto_region 35 with (first
    | (go_at_call 32; (with_reducible refine (cN.out).mono ?_); rintro e w1 ⟨rfl, hu1, dv1, hF1, hdv1⟩; have C1 := C.out.turn hu1 hF1; have c19 : w1.cell? ⟨gf, 19, none⟩ = some (.bool R.2.odd) := (by obtain ⟨_, _, _, _, h1, _⟩ := hF1.h; exact h1.cell 19); replace C1 := hide C1; clear hF1 hu1 hdv1)
    | fail)
    have Cq := hide (C1.out)
    clear C
    have hwq : B ≤ (w1).heap.size := Cq.out.bw
    generalize w1 = wq at *
    go_wp2_with (refine wpList_push rfl (.tmp 163) (.tmp 165) 36 rfl B 3 (.int .i64 0) 8 Tryd.underlying36 info_intr rfl (.slice Ak kinds.length ck) kinds.length (kinds.map (Value.int .i64)) rfl Cq.out.kinds (.int .i64 (R.1 : Nat)) rfl rfl (by simp only [maxLen]; omega) (by omega) hwq ?_; intro kv' w9 hk9 hg9; obtain ⟨Ak9, ck9, rfl⟩ := own_shape hk9; replace hk9 := hide hk9; replace hg9 := hide hg9)
    have hC9 := Cq.out.tell hk9.out hg9.out
    exact hK.out _ _ _ _ _ _ _ _ _ _ _ _ _ _ _ _ _ _ _ _ _ _ _ _ _ _ _ _ _ _ _ _ _ _ _ _ _ _ _ _ _ _ _ _ _ _ _ _ _ _ _ _ _ _ _ _ _ _ _ _ _ _ _ _ _ _ _ _ _ _ _ _ _ _ _ _ _ _ _ _ _ _ _ _ _ _ _ _ _ _ _ _ _ _ _ _ _ _ _ _ _ _ _ _ _ _ _ _ _ _ _ _ _ _ _ _ _ _ _ _ _ _ _ _ _ _ _ _ _ _ _ _ _ _ _ _ _ _ _ _ _ _ _ _ hC9 (fun e => by rw [hh1] at e; cases e)
end Go.Proofs.YthkpoidnhgcjhaaDoor

namespace Go.Proofs.YthkpoidnhgcjhaaDoor
set_option linter.unusedSimpArgs false
set_option linter.unusedVariables false
set_option linter.unnecessarySimpa false
open Go.RowKit Plain

set_option maxRecDepth 1000000 in
set_option maxHeartbeats 8000000 in
theorem wway_nextk {f2 f3 f4 f5 f6 f7 f9 f11 f20 f21 f22 f23 f24 f25 f26 f27 f28 f29 f30 f31 f32 f33 f34 f167 f168 f169 f170 u16 u17 u18 u19 u35 u36 u37 u38 u39 u40 u41 u42 u43 u44 u45 u46 u47 u48 u49 u50 u51 u52 u53 u54 u55 u56 u57 u58 u59 u60 u61 u62 u63 u64 u65 u66 u67 u68 u69 u70 u71 u72 u73 u74 u75 u76 u77 u78 u79 u80 u81 u82 u83 u84 u85 u86 u87 u88 u89 u90 u91 u92 u93 u94 u95 u96 u97 u98 u99 u100 u101 u102 u103 u104 u105 u106 u107 u108 u109 u110 u111 u112 u113 u114 u115 u116 u117 u118 u119 u120 u121 u122 u123 u124 u125 u126 u127 u128 u129 u130 u131 u132 u133 u134 u135 u136 u137 u138 u139 u140 u141 u142 u143 u144 u145 u146 u147 u148 u149 u150 u151 u152 u153 u154 u155 u156 u157 u158 u159 u160 u161 u162 u163 u164 u165 u166 : Value} (K : Act → World → Prop) (Q0 : Exit → Act → World → Prop) (w0 w : World) (Ab As : Option Addr) (B nb cb ns cs k fb rb gf : Nat) (gs : List Nat) (dv : Value) (V : Nat → Value) (form z4 : Array Value) (kv ov av : Value) (steps : List (Int × Int)) (op n : Int)
    (f : SF) (ar : List SF) (out : List Ck) (kinds : List Int) (opn : Bool) (hop : op = 0) (hz : (sNext f).1 = 0)
    (hns : (ns : Int) ≤ 1048576) (hnb : (nb : Int) ≤ 1073741824) (hk : k < ns) (hst : steps.length = ns) (hS : RdS w0 B As steps) (hstep : steps.getD k (0, 0) = (op, n)) (hop : -9223372036854775808 ≤ op ∧ op ≤ 9223372036854775807) (hnI : -9223372036854775808 ≤ n ∧ n ≤ 9223372036854775807)
    (J : SJ nb k ⟨f, ar, out, kinds, opn⟩) (C : SX w0 w B gf gs dv V fb rb form z4 f ar out kinds kv ov av) (hdv : f.hand = true → dv = V (out.length - 1))
    (hK : ∀ (v16 v17 v18 v19 v35 v36 v37 v38 v39 v40 v41 v42 v43 v44 v45 v46 v47 v48 v49 v50 v51 v52 v53 v54 v55 v56 v57 v58 v59 v60 v61 v62 v63 v64 v65 v66 v67 v68 v69 v70 v71 v72 v73 v74 v75 v76 v77 v78 v79 v80 v81 v82 v83 v84 v85 v86 v87 v88 v89 v90 v91 v92 v93 v94 v95 v96 v97 v98 v99 v100 v101 v102 v103 v104 v105 v106 v107 v108 v109 v110 v111 v112 v113 v114 v115 v116 v117 v118 v119 v120 v121 v122 v123 v124 v125 v126 v127 v128 v129 v130 v131 v132 v133 v134 v135 v136 v137 v138 v139 v140 v141 v142 v143 v144 v145 v146 v147 v148 v149 v150 v151 v152 v153 v154 v155 v156 v157 v158 v159 v160 v161 v162 v163 v164 v165 v166 kv' ov' av' : Value) (gf' : Nat) (gs' : List Nat) (dv' : Value) (V' : Nat → Value) (w' : World), SX w0 w' B gf' gs' dv' V' fb rb form z4 ((sNext f).2.at_ out.length) (ar) (out ++ [(sNext f).2.ck]) (kinds ++ [0]) kv' ov' av' → (((sNext f).2.at_ out.length).hand = true → dv' = V' ((out ++ [(sNext f).2.ck]).length - 1)) → K ⟨(.slice Ab nb cb :: .slice As ns cs :: f2 :: f3 :: f4 :: f5 :: f6 :: f7 :: .pointer (some ⟨gf', 0, none⟩) :: f9 :: .bool (opn || (sNext f).2.odd) :: f11 :: av' :: ov' :: kv' :: .int .i64 ((k + 1 : Nat) : Int) :: v16 :: v17 :: v18 :: v19 :: f20 :: f21 :: f22 :: f23 :: f24 :: f25 :: f26 :: f27 :: f28 :: f29 :: f30 :: f31 :: f32 :: f33 :: f34 :: v35 :: v36 :: v37 :: v38 :: v39 :: v40 :: v41 :: v42 :: v43 :: v44 :: v45 :: v46 :: v47 :: v48 :: v49 :: v50 :: v51 :: v52 :: v53 :: v54 :: v55 :: v56 :: v57 :: v58 :: v59 :: v60 :: v61 :: v62 :: v63 :: v64 :: v65 :: v66 :: v67 :: v68 :: v69 :: v70 :: v71 :: v72 :: v73 :: v74 :: v75 :: v76 :: v77 :: v78 :: v79 :: v80 :: v81 :: v82 :: v83 :: v84 :: v85 :: v86 :: v87 :: v88 :: v89 :: v90 :: v91 :: v92 :: v93 :: v94 :: v95 :: v96 :: v97 :: v98 :: v99 :: v100 :: v101 :: v102 :: v103 :: v104 :: v105 :: v106 :: v107 :: v108 :: v109 :: v110 :: v111 :: v112 :: v113 :: v114 :: v115 :: v116 :: v117 :: v118 :: v119 :: v120 :: v121 :: v122 :: v123 :: v124 :: v125 :: v126 :: v127 :: v128 :: v129 :: v130 :: v131 :: v132 :: v133 :: v134 :: v135 :: v136 :: v137 :: v138 :: v139 :: v140 :: v141 :: v142 :: v143 :: v144 :: v145 :: v146 :: v147 :: v148 :: v149 :: v150 :: v151 :: v152 :: v153 :: v154 :: v155 :: v156 :: v157 :: v158 :: v159 :: v160 :: v161 :: v162 :: v163 :: v164 :: v165 :: v166 :: f167 :: f168 :: f169 :: f170 :: [] : List Value).toArray, []⟩ w') :
    Code.wp Tryd.prog bodyWalked (Exit.then K Q0) ⟨(.slice Ab nb cb :: .slice As ns cs :: f2 :: f3 :: f4 :: f5 :: f6 :: f7 :: .pointer (some ⟨gf, 0, none⟩) :: f9 :: .bool opn :: f11 :: av :: ov :: kv :: .int .i64 (k : Int) :: u16 :: u17 :: u18 :: u19 :: f20 :: f21 :: f22 :: f23 :: f24 :: f25 :: f26 :: f27 :: f28 :: f29 :: f30 :: f31 :: f32 :: f33 :: f34 :: u35 :: u36 :: u37 :: u38 :: u39 :: u40 :: u41 :: u42 :: u43 :: u44 :: u45 :: u46 :: u47 :: u48 :: u49 :: u50 :: u51 :: u52 :: u53 :: u54 :: u55 :: u56 :: u57 :: u58 :: u59 :: u60 :: u61 :: u62 :: u63 :: u64 :: u65 :: u66 :: u67 :: u68 :: u69 :: u70 :: u71 :: u72 :: u73 :: u74 :: u75 :: u76 :: u77 :: u78 :: u79 :: u80 :: u81 :: u82 :: u83 :: u84 :: u85 :: u86 :: u87 :: u88 :: u89 :: u90 :: u91 :: u92 :: u93 :: u94 :: u95 :: u96 :: u97 :: u98 :: u99 :: u100 :: u101 :: u102 :: u103 :: u104 :: u105 :: u106 :: u107 :: u108 :: u109 :: u110 :: u111 :: u112 :: u113 :: u114 :: u115 :: u116 :: u117 :: u118 :: u119 :: u120 :: u121 :: u122 :: u123 :: u124 :: u125 :: u126 :: u127 :: u128 :: u129 :: u130 :: u131 :: u132 :: u133 :: u134 :: u135 :: u136 :: u137 :: u138 :: u139 :: u140 :: u141 :: u142 :: u143 :: u144 :: u145 :: u146 :: u147 :: u148 :: u149 :: u150 :: u151 :: u152 :: u153 :: u154 :: u155 :: u156 :: u157 :: u158 :: u159 :: u160 :: u161 :: u162 :: u163 :: u164 :: u165 :: u166 :: f167 :: f168 :: f169 :: f170 :: [] : List Value).toArray, []⟩ w := by
  have hI : (k : Int) < ns := by omega
  have hwB := C.bw
  have hwu := C.up.size
  have hB0 := C.hB0
  obtain ⟨sb, so, rfl, hsb, hcell⟩ := hS (by rintro rfl; simp at hst; omega)
  obtain ⟨ho1, ho2⟩ := hcell k (by omega)
  rw [hstep] at ho1 ho2
  replace ho1 := (C.up.cell (p := ⟨sb, so + k * 2, none⟩) (by show sb < _; omega) (by simp)).trans ho1
  replace ho2 := (C.up.cell (p := ⟨sb, so + k * 2 + 1, none⟩) (by show sb < _; omega) (by simp)).trans ho2
  clear hcell hS hstep
  replace hK := hide hK
  obtain ⟨Ak, ck, rfl⟩ := own_shape C.kinds
  obtain ⟨Aa, ca, rfl⟩ := own_shape C.around
  obtain ⟨Ao, co, rfl⟩ := own_shape C.outs.row
  have hsbw : ¬ sb = w.heap.size := by omega
  have hol : (out.length : Int) ≤ 1048576 := by have h1 : out.length ≤ k := J.ol; omega
  have hgl : (gs.length : Int) ≤ 1048576 := by have h1 : ar.length ≤ k := J.al; rw [C.files.len]; omega
  have hkl : (kinds.length : Int) ≤ 1048577 := by have h1 : kinds.length = k + 1 := J.kl; omega
  obtain ⟨hop0, hop1⟩ := hop
  obtain ⟨hnI0, hnI1⟩ := hnI
  have hfl := C.f.lt
  have hfn : ¬ gf = w.heap.size := by omega
  have hfB := C.ge gf (by simp)
  have c3 : w.cell? ⟨gf, 3, none⟩ = some (.bool f.hand) := by obtain ⟨_, _, _, _, h1, _⟩ := C.f.h; exact h1.cell 3
  replace J := hide J
  replace hdv := hide hdv
  subst hop
  have cN := next_spec gf B nb f dv _ (C.alloc (.cells #[.int .i64 0, .int .i64 n] 78)).f J.out.f hnb (C.alloc _).bw hfB
  unfold NextPostS at cN
  replace cN := hide cN
  obtain ⟨b1, b2, b3, b4⟩ := next_ok hz
  obtain ⟨R, hR⟩ : ∃ R, R = sNext f := ⟨_, rfl⟩
  rw [← hR] at cN hK hz b1 b2 b3 b4
  rw [hz] at cN
  replace hR := hide hR
  conv => arg 2; whnf
  go_upto_region 16 with fail
  have sB := hide (Blk.new w 78 #[.int .i64 0, .int .i64 n])
  replace C := hide (C.alloc (.cells #[.int .i64 0, .int .i64 n] 78))
  clear c3 ho1 ho2 hsbw hwu
  replace hwB : B ≤ (w.alloc (.cells #[.int .i64 0, .int .i64 n] 78)).heap.size := C.out.bw
  replace hfl : gf < (w.alloc (.cells #[.int .i64 0, .int .i64 n] 78)).heap.size := C.out.f.lt
  have hsx : w.heap.size < (w.alloc (.cells #[.int .i64 0, .int .i64 n] 78)).heap.size := by simp
  generalize w.alloc (.cells #[.int .i64 0, .int .i64 n] 78) = wS at *
  generalize w.heap.size = sx at *
  have o0 : wS.cell? ⟨sx, 0, none⟩ = some (.int .i64 0) := sB.out.cell 0
  have o1 : wS.cell? ⟨sx, 1, none⟩ = some (.int .i64 n) := sB.out.cell 1
  cases opn with
  | false =>
    go_upto_region 20 with (first
      | (go_at_call 32; (with_reducible refine (cN.out).mono ?_); rintro e w1 ⟨rfl, hu1, dv1, hF1, hdv1⟩; obtain rfl := hdv1 rfl; have C1 := C.out.turn hu1 hF1; obtain ⟨Af, cf, Af2, cf2, hBf, hBr⟩ := hF1.h
         have c19 : w1.cell? ⟨gf, 19, none⟩ = some (.bool R.2.odd) := hBf.cell 19
         have z14 := hBf.frozen 14
         obtain ⟨x14, c14⟩ : ∃ x, w1.cell? ⟨gf, 14, none⟩ = some x := ⟨_, hBf.cell 14⟩
         have hF2 : FAt (w1.setCell ⟨gf, 14, none⟩ (.int .i64 (out.length : Nat))) gf B (R.2.at_ out.length) (.slice none 0 0) := by
           obtain ⟨g2, g3, g4, g5, g6, g7⟩ := hBr
           have uu := (Upd.refl [gf] w1).setCell (p := ⟨gf, 14, none⟩) (.inl (by simp)) (.int .i64 (out.length : Nat))
           have hS : ∀ s ∈ [gf], B ≤ s := by simp; exact hfB
           exact ⟨⟨Af, cf, Af2, cf2, fset14 hBf (out.length : Nat), g2.upd uu C1.bw hS, g3, g4, g5.upd uu C1.bw hS, g6, g7⟩⟩
         have C2 := hide (C1.turn ((Upd.refl [gf] w1).setCell (p := ⟨gf, 14, none⟩) (.inl (by simp)) (.int .i64 (out.length : Nat))) hF2)
         clear hF1 hF2 hBf hBr hu1 hdv1 C C1)
      | fail)
    clear c14 c19 z14
    generalize w1.setCell ⟨gf, 14, none⟩ (.int .i64 (out.length : Nat)) = w2 at *
    obtain ⟨Af, cf, Af2, cf2, hBf, _⟩ := C2.out.f.h
    have c4 : w2.cell? ⟨gf, 4, none⟩ = some (.int .u8 (R.2.ck.id.getD 0 0 : Nat)) := hBf.cell 4
    have c5 : w2.cell? ⟨gf, 5, none⟩ = some (.int .u8 (R.2.ck.id.getD 1 0 : Nat)) := hBf.cell 5
    have c6 : w2.cell? ⟨gf, 6, none⟩ = some (.int .u8 (R.2.ck.id.getD 2 0 : Nat)) := hBf.cell 6
    have c7 : w2.cell? ⟨gf, 7, none⟩ = some (.int .u8 (R.2.ck.id.getD 3 0 : Nat)) := hBf.cell 7
    have c8 : w2.cell? ⟨gf, 8, none⟩ = some (.int .i64 (R.2.ck.len : Nat)) := hBf.cell 8
    have c9 : w2.cell? ⟨gf, 9, none⟩ = some (.slice none 0 0) := hBf.cell 9
    have c10 : w2.cell? ⟨gf, 10, none⟩ = some (.int .i64 (R.2.ck.en : Nat)) := hBf.cell 10
    clear hBf
    have hckC : ckC R.2.ck (.slice none 0 0) = [.int .u8 (R.2.ck.id.getD 0 0 : Nat), .int .u8 (R.2.ck.id.getD 1 0 : Nat), .int .u8 (R.2.ck.id.getD 2 0 : Nat), .int .u8 (R.2.ck.id.getD 3 0 : Nat), .int .i64 (R.2.ck.len : Nat), .slice none 0 0, .int .i64 (R.2.ck.en : Nat)] := rfl
    generalize R.2.ck.id.getD 0 0 = i0 at *
    generalize R.2.ck.id.getD 1 0 = i1 at *
    generalize R.2.ck.id.getD 2 0 = i2 at *
    generalize R.2.ck.id.getD 3 0 = i3 at *
    replace hckC := hide hckC
    have hw2 : B ≤ w2.heap.size := C2.out.bw
    have hgw2 := C2.out.f.lt
    have hgn2 : ¬ gf = w2.heap.size := by omega
    go_upto_region 35 with (first
      | (refine wpList_pushNL rfl (.tmp 65) (.tmp 70) 48 rfl B 79 (.agg #[.int .u8 0, .int .u8 0, .int .u8 0, .int .u8 0, .int .i64 0, .slice none 0 0, .int .i64 0]) 7 48 Tryd.underlying48 info_sck rfl (by decide) (.slice Ao out.length co) out.length (ckCells V 0 out) rfl C2.out.outs.row #[.int .u8 (i0 : Nat), .int .u8 (i1 : Nat), .int .u8 (i2 : Nat), .int .u8 (i3 : Nat), .int .i64 (R.2.ck.len : Nat), .slice none 0 0, .int .i64 (R.2.ck.en : Nat)] rfl (by simp [Value.oneCell']) rfl (by simp only [maxLen]; omega) (by omega) hw2 ?_
         intro go capo w3 ho3 hg3 _
         replace ho3 := hide ho3
         replace hg3 := hide hg3)
      | fail)
    have C3 := C2.out.more (c := R.2.ck) hg3.out b4 (by rw [hckC.out]; exact ho3.out)
    replace C3 := hide C3
    clear ho3 hg3 C2
    have Cq := hide (C3.out)
    have hwq : B ≤ (w3).heap.size := Cq.out.bw
    generalize w3 = wq at *
    go_wp2_with (refine wpList_push rfl (.tmp 163) (.tmp 165) 36 rfl B 3 (.int .i64 0) 8 Tryd.underlying36 info_intr rfl (.slice Ak kinds.length ck) kinds.length (kinds.map (Value.int .i64)) rfl Cq.out.kinds (.int .i64 0) rfl rfl (by simp only [maxLen]; omega) (by omega) hwq ?_; intro kv' w9 hk9 hg9; obtain ⟨Ak9, ck9, rfl⟩ := own_shape hk9; replace hk9 := hide hk9; replace hg9 := hide hg9)
    have hC9 := Cq.out.tell hk9.out hg9.out
    exact hK.out _ _ _ _ _ _ _ _ _ _ _ _ _ _ _ _ _ _ _ _ _ _ _ _ _ _ _ _ _ _ _ _ _ _ _ _ _ _ _ _ _ _ _ _ _ _ _ _ _ _ _ _ _ _ _ _ _ _ _ _ _ _ _ _ _ _ _ _ _ _ _ _ _ _ _ _ _ _ _ _ _ _ _ _ _ _ _ _ _ _ _ _ _ _ _ _ _ _ _ _ _ _ _ _ _ _ _ _ _ _ _ _ _ _ _ _ _ _ _ _ _ _ _ _ _ _ _ _ _ _ _ _ _ _ _ _ _ _ _ _ _ _ _ _ hC9 (fun _ => by simp)
  | true =>
    go_upto_region 20 with (first
      | (go_at_call 32; (with_reducible refine (cN.out).mono ?_); rintro e w1 ⟨rfl, hu1, dv1, hF1, hdv1⟩; obtain rfl := hdv1 rfl; have C1 := C.out.turn hu1 hF1; obtain ⟨Af, cf, Af2, cf2, hBf, hBr⟩ := hF1.h
         have c19 : w1.cell? ⟨gf, 19, none⟩ = some (.bool R.2.odd) := hBf.cell 19
         have z14 := hBf.frozen 14
         obtain ⟨x14, c14⟩ : ∃ x, w1.cell? ⟨gf, 14, none⟩ = some x := ⟨_, hBf.cell 14⟩
         have hF2 : FAt (w1.setCell ⟨gf, 14, none⟩ (.int .i64 (out.length : Nat))) gf B (R.2.at_ out.length) (.slice none 0 0) := by
           obtain ⟨g2, g3, g4, g5, g6, g7⟩ := hBr
           have uu := (Upd.refl [gf] w1).setCell (p := ⟨gf, 14, none⟩) (.inl (by simp)) (.int .i64 (out.length : Nat))
           have hS : ∀ s ∈ [gf], B ≤ s := by simp; exact hfB
           exact ⟨⟨Af, cf, Af2, cf2, fset14 hBf (out.length : Nat), g2.upd uu C1.bw hS, g3, g4, g5.upd uu C1.bw hS, g6, g7⟩⟩
         have C2 := hide (C1.turn ((Upd.refl [gf] w1).setCell (p := ⟨gf, 14, none⟩) (.inl (by simp)) (.int .i64 (out.length : Nat))) hF2)
         clear hF1 hF2 hBf hBr hu1 hdv1 C C1)
      | fail)
    clear c14 c19 z14
    generalize w1.setCell ⟨gf, 14, none⟩ (.int .i64 (out.length : Nat)) = w2 at *
    obtain ⟨Af, cf, Af2, cf2, hBf, _⟩ := C2.out.f.h
    have c4 : w2.cell? ⟨gf, 4, none⟩ = some (.int .u8 (R.2.ck.id.getD 0 0 : Nat)) := hBf.cell 4
    have c5 : w2.cell? ⟨gf, 5, none⟩ = some (.int .u8 (R.2.ck.id.getD 1 0 : Nat)) := hBf.cell 5
    have c6 : w2.cell? ⟨gf, 6, none⟩ = some (.int .u8 (R.2.ck.id.getD 2 0 : Nat)) := hBf.cell 6
    have c7 : w2.cell? ⟨gf, 7, none⟩ = some (.int .u8 (R.2.ck.id.getD 3 0 : Nat)) := hBf.cell 7
    have c8 : w2.cell? ⟨gf, 8, none⟩ = some (.int .i64 (R.2.ck.len : Nat)) := hBf.cell 8
    have c9 : w2.cell? ⟨gf, 9, none⟩ = some (.slice none 0 0) := hBf.cell 9
    have c10 : w2.cell? ⟨gf, 10, none⟩ = some (.int .i64 (R.2.ck.en : Nat)) := hBf.cell 10
    clear hBf
    have hckC : ckC R.2.ck (.slice none 0 0) = [.int .u8 (R.2.ck.id.getD 0 0 : Nat), .int .u8 (R.2.ck.id.getD 1 0 : Nat), .int .u8 (R.2.ck.id.getD 2 0 : Nat), .int .u8 (R.2.ck.id.getD 3 0 : Nat), .int .i64 (R.2.ck.len : Nat), .slice none 0 0, .int .i64 (R.2.ck.en : Nat)] := rfl
    generalize R.2.ck.id.getD 0 0 = i0 at *
    generalize R.2.ck.id.getD 1 0 = i1 at *
    generalize R.2.ck.id.getD 2 0 = i2 at *
    generalize R.2.ck.id.getD 3 0 = i3 at *
    replace hckC := hide hckC
    have hw2 : B ≤ w2.heap.size := C2.out.bw
    have hgw2 := C2.out.f.lt
    have hgn2 : ¬ gf = w2.heap.size := by omega
    go_upto_region 35 with (first
      | (refine wpList_pushNL rfl (.tmp 65) (.tmp 70) 48 rfl B 79 (.agg #[.int .u8 0, .int .u8 0, .int .u8 0, .int .u8 0, .int .i64 0, .slice none 0 0, .int .i64 0]) 7 48 Tryd.underlying48 info_sck rfl (by decide) (.slice Ao out.length co) out.length (ckCells V 0 out) rfl C2.out.outs.row #[.int .u8 (i0 : Nat), .int .u8 (i1 : Nat), .int .u8 (i2 : Nat), .int .u8 (i3 : Nat), .int .i64 (R.2.ck.len : Nat), .slice none 0 0, .int .i64 (R.2.ck.en : Nat)] rfl (by simp [Value.oneCell']) rfl (by simp only [maxLen]; omega) (by omega) hw2 ?_
         intro go capo w3 ho3 hg3 _
         replace ho3 := hide ho3
         replace hg3 := hide hg3)
      | fail)
    have C3 := C2.out.more (c := R.2.ck) hg3.out b4 (by rw [hckC.out]; exact ho3.out)
    replace C3 := hide C3
    clear ho3 hg3 C2
    have Cq := hide (C3.out)
    have hwq : B ≤ (w3).heap.size := Cq.out.bw
    generalize w3 = wq at *
    go_wp2_with (refine wpList_push rfl (.tmp 163) (.tmp 165) 36 rfl B 3 (.int .i64 0) 8 Tryd.underlying36 info_intr rfl (.slice Ak kinds.length ck) kinds.length (kinds.map (Value.int .i64)) rfl Cq.out.kinds (.int .i64 0) rfl rfl (by simp only [maxLen]; omega) (by omega) hwq ?_; intro kv' w9 hk9 hg9; obtain ⟨Ak9, ck9, rfl⟩ := own_shape hk9; replace hk9 := hide hk9; replace hg9 := hide hg9)
    have hC9 := Cq.out.tell hk9.out hg9.out
    exact hK.out _ _ _ _ _ _ _ _ _ _ _ _ _ _ _ _ _ _ _ _ _ _ _ _ _ _ _ _ _ _ _ _ _ _ _ _ _ _ _ _ _ _ _ _ _ _ _ _ _ _ _ _ _ _ _ _ _ _ _ _ _ _ _ _ _ _ _ _ _ _ _ _ _ _ _ _ _ _ _ _ _ _ _ _ _ _ _ _ _ _ _ _ _ _ _ _ _ _ _ _ _ _ _ _ _ _ _ _ _ _ _ _ _ _ _ _ _ _ _ _ _ _ _ _ _ _ _ _ _ _ _ _ _ _ _ _ _ _ _ _ _ _ _ _ hC9 (fun _ => by simp)
end Go.Proofs.YthkpoidnhgcjhaaDoor

namespace Go.Proofs.YthkpoidnhgcjhaaDoor
set_option linter.unusedSimpArgs false
set_option linter.unusedVariables false
set_option linter.unnecessarySimpa false
open Go.RowKit Plain

set_option maxRecDepth 1000000 in
set_option maxHeartbeats 8000000 in
theorem wway_pop {f2 f3 f4 f5 f6 f7 f9 f11 f20 f21 f22 f23 f24 f25 f26 f27 f28 f29 f30 f31 f32 f33 f34 f167 f168 f169 f170 u16 u17 u18 u19 u35 u36 u37 u38 u39 u40 u41 u42 u43 u44 u45 u46 u47 u48 u49 u50 u51 u52 u53 u54 u55 u56 u57 u58 u59 u60 u61 u62 u63 u64 u65 u66 u67 u68 u69 u70 u71 u72 u73 u74 u75 u76 u77 u78 u79 u80 u81 u82 u83 u84 u85 u86 u87 u88 u89 u90 u91 u92 u93 u94 u95 u96 u97 u98 u99 u100 u101 u102 u103 u104 u105 u106 u107 u108 u109 u110 u111 u112 u113 u114 u115 u116 u117 u118 u119 u120 u121 u122 u123 u124 u125 u126 u127 u128 u129 u130 u131 u132 u133 u134 u135 u136 u137 u138 u139 u140 u141 u142 u143 u144 u145 u146 u147 u148 u149 u150 u151 u152 u153 u154 u155 u156 u157 u158 u159 u160 u161 u162 u163 u164 u165 u166 : Value} (K : Act → World → Prop) (Q0 : Exit → Act → World → Prop) (w0 w : World) (Ab As : Option Addr) (B nb cb ns cs k fb rb gf : Nat) (gs : List Nat) (dv : Value) (V : Nat → Value) (form z4 : Array Value) (kv ov av : Value) (steps : List (Int × Int)) (op n : Int)
    (f : SF) (ar : List SF) (out : List Ck) (kinds : List Int) (opn : Bool) (g : Nat) (gs1 : List Nat) (f1 : SF) (ar1 : List SF) (hop : op = 3) (hgs : gs = g :: gs1) (har : ar = f1 :: ar1)
    (hns : (ns : Int) ≤ 1048576) (hnb : (nb : Int) ≤ 1073741824) (hk : k < ns) (hst : steps.length = ns) (hS : RdS w0 B As steps) (hstep : steps.getD k (0, 0) = (op, n)) (hop : -9223372036854775808 ≤ op ∧ op ≤ 9223372036854775807) (hnI : -9223372036854775808 ≤ n ∧ n ≤ 9223372036854775807)
    (J : SJ nb k ⟨f, ar, out, kinds, opn⟩) (C : SX w0 w B gf gs dv V fb rb form z4 f ar out kinds kv ov av) (hdv : f.hand = true → dv = V (out.length - 1))
    (hK : ∀ (v16 v17 v18 v19 v35 v36 v37 v38 v39 v40 v41 v42 v43 v44 v45 v46 v47 v48 v49 v50 v51 v52 v53 v54 v55 v56 v57 v58 v59 v60 v61 v62 v63 v64 v65 v66 v67 v68 v69 v70 v71 v72 v73 v74 v75 v76 v77 v78 v79 v80 v81 v82 v83 v84 v85 v86 v87 v88 v89 v90 v91 v92 v93 v94 v95 v96 v97 v98 v99 v100 v101 v102 v103 v104 v105 v106 v107 v108 v109 v110 v111 v112 v113 v114 v115 v116 v117 v118 v119 v120 v121 v122 v123 v124 v125 v126 v127 v128 v129 v130 v131 v132 v133 v134 v135 v136 v137 v138 v139 v140 v141 v142 v143 v144 v145 v146 v147 v148 v149 v150 v151 v152 v153 v154 v155 v156 v157 v158 v159 v160 v161 v162 v163 v164 v165 v166 kv' ov' av' : Value) (gf' : Nat) (gs' : List Nat) (dv' : Value) (V' : Nat → Value) (w' : World), SX w0 w' B gf' gs' dv' V' fb rb form z4 (f1.off) (ar1) (out) (kinds ++ [0]) kv' ov' av' → ((f1.off).hand = true → dv' = V' ((out).length - 1)) → K ⟨(.slice Ab nb cb :: .slice As ns cs :: f2 :: f3 :: f4 :: f5 :: f6 :: f7 :: .pointer (some ⟨gf', 0, none⟩) :: f9 :: .bool opn :: f11 :: av' :: ov' :: kv' :: .int .i64 ((k + 1 : Nat) : Int) :: v16 :: v17 :: v18 :: v19 :: f20 :: f21 :: f22 :: f23 :: f24 :: f25 :: f26 :: f27 :: f28 :: f29 :: f30 :: f31 :: f32 :: f33 :: f34 :: v35 :: v36 :: v37 :: v38 :: v39 :: v40 :: v41 :: v42 :: v43 :: v44 :: v45 :: v46 :: v47 :: v48 :: v49 :: v50 :: v51 :: v52 :: v53 :: v54 :: v55 :: v56 :: v57 :: v58 :: v59 :: v60 :: v61 :: v62 :: v63 :: v64 :: v65 :: v66 :: v67 :: v68 :: v69 :: v70 :: v71 :: v72 :: v73 :: v74 :: v75 :: v76 :: v77 :: v78 :: v79 :: v80 :: v81 :: v82 :: v83 :: v84 :: v85 :: v86 :: v87 :: v88 :: v89 :: v90 :: v91 :: v92 :: v93 :: v94 :: v95 :: v96 :: v97 :: v98 :: v99 :: v100 :: v101 :: v102 :: v103 :: v104 :: v105 :: v106 :: v107 :: v108 :: v109 :: v110 :: v111 :: v112 :: v113 :: v114 :: v115 :: v116 :: v117 :: v118 :: v119 :: v120 :: v121 :: v122 :: v123 :: v124 :: v125 :: v126 :: v127 :: v128 :: v129 :: v130 :: v131 :: v132 :: v133 :: v134 :: v135 :: v136 :: v137 :: v138 :: v139 :: v140 :: v141 :: v142 :: v143 :: v144 :: v145 :: v146 :: v147 :: v148 :: v149 :: v150 :: v151 :: v152 :: v153 :: v154 :: v155 :: v156 :: v157 :: v158 :: v159 :: v160 :: v161 :: v162 :: v163 :: v164 :: v165 :: v166 :: f167 :: f168 :: f169 :: f170 :: [] : List Value).toArray, []⟩ w') :
    Code.wp Tryd.prog bodyWalked (Exit.then K Q0) ⟨(.slice Ab nb cb :: .slice As ns cs :: f2 :: f3 :: f4 :: f5 :: f6 :: f7 :: .pointer (some ⟨gf, 0, none⟩) :: f9 :: .bool opn :: f11 :: av :: ov :: kv :: .int .i64 (k : Int) :: u16 :: u17 :: u18 :: u19 :: f20 :: f21 :: f22 :: f23 :: f24 :: f25 :: f26 :: f27 :: f28 :: f29 :: f30 :: f31 :: f32 :: f33 :: f34 :: u35 :: u36 :: u37 :: u38 :: u39 :: u40 :: u41 :: u42 :: u43 :: u44 :: u45 :: u46 :: u47 :: u48 :: u49 :: u50 :: u51 :: u52 :: u53 :: u54 :: u55 :: u56 :: u57 :: u58 :: u59 :: u60 :: u61 :: u62 :: u63 :: u64 :: u65 :: u66 :: u67 :: u68 :: u69 :: u70 :: u71 :: u72 :: u73 :: u74 :: u75 :: u76 :: u77 :: u78 :: u79 :: u80 :: u81 :: u82 :: u83 :: u84 :: u85 :: u86 :: u87 :: u88 :: u89 :: u90 :: u91 :: u92 :: u93 :: u94 :: u95 :: u96 :: u97 :: u98 :: u99 :: u100 :: u101 :: u102 :: u103 :: u104 :: u105 :: u106 :: u107 :: u108 :: u109 :: u110 :: u111 :: u112 :: u113 :: u114 :: u115 :: u116 :: u117 :: u118 :: u119 :: u120 :: u121 :: u122 :: u123 :: u124 :: u125 :: u126 :: u127 :: u128 :: u129 :: u130 :: u131 :: u132 :: u133 :: u134 :: u135 :: u136 :: u137 :: u138 :: u139 :: u140 :: u141 :: u142 :: u143 :: u144 :: u145 :: u146 :: u147 :: u148 :: u149 :: u150 :: u151 :: u152 :: u153 :: u154 :: u155 :: u156 :: u157 :: u158 :: u159 :: u160 :: u161 :: u162 :: u163 :: u164 :: u165 :: u166 :: f167 :: f168 :: f169 :: f170 :: [] : List Value).toArray, []⟩ w := by
  have hI : (k : Int) < ns := by omega
  have hwB := C.bw
  have hwu := C.up.size
  have hB0 := C.hB0
  obtain ⟨sb, so, rfl, hsb, hcell⟩ := hS (by rintro rfl; simp at hst; omega)
  obtain ⟨ho1, ho2⟩ := hcell k (by omega)
  rw [hstep] at ho1 ho2
  replace ho1 := (C.up.cell (p := ⟨sb, so + k * 2, none⟩) (by show sb < _; omega) (by simp)).trans ho1
  replace ho2 := (C.up.cell (p := ⟨sb, so + k * 2 + 1, none⟩) (by show sb < _; omega) (by simp)).trans ho2
  clear hcell hS hstep
  replace hK := hide hK
  obtain ⟨Ak, ck, rfl⟩ := own_shape C.kinds
  obtain ⟨Aa, ca, rfl⟩ := own_shape C.around
  obtain ⟨Ao, co, rfl⟩ := own_shape C.outs.row
  have hsbw : ¬ sb = w.heap.size := by omega
  have hol : (out.length : Int) ≤ 1048576 := by have h1 : out.length ≤ k := J.ol; omega
  have hgl : (gs.length : Int) ≤ 1048576 := by have h1 : ar.length ≤ k := J.al; rw [C.files.len]; omega
  have hkl : (kinds.length : Int) ≤ 1048577 := by have h1 : kinds.length = k + 1 := J.kl; omega
  obtain ⟨hop0, hop1⟩ := hop
  obtain ⟨hnI0, hnI1⟩ := hnI
  have hfl := C.f.lt
  have hfn : ¬ gf = w.heap.size := by omega
  have hfB := C.ge gf (by simp)
  replace J := hide J
  replace hdv := hide hdv
  subst hop hgs har
  obtain ⟨⟨dg, hFg⟩, _⟩ := id C.files
  obtain ⟨Af, cf, Af2, cf2, hBg, _⟩ := hFg.h
  obtain ⟨x3, g3⟩ : ∃ x, w.cell? ⟨g, 3, none⟩ = some x := ⟨_, hBg.cell 3⟩
  have z3 := hBg.frozen 3
  have hgl1 : g < w.heap.size := hBg.lt
  have hgn : ¬ g = w.heap.size := by omega
  have hpl := own_form C.around
  obtain ⟨ga, rfl⟩ := hpl
  have hrow := C.around
  rw [List.length_cons, pCs_cons] at hrow
  have hlast : w.cell? ⟨ga, gs1.length, none⟩ = some (.pointer (some ⟨g, 0, none⟩)) := by
    rw [hrow.cellAt gs1.length (by omega), List.getElem?_append_right (by rw [pCs_len]; omega), pCs_len, Nat.sub_self]
    rfl
  have hcap := own_cap C.around
  rw [List.length_cons] at hcap hgl
  have hcapI : ((gs1.length : Int)) ≤ (ca : Int) := by omega
  have hgab : ga < w.heap.size := World.block_lt_of_cell? _ _ hlast
  have hgan : ¬ ga = w.heap.size := by omega
  have hne := own_ne hrow hBg (by decide)
  have hlenI : ((gs1.length + 1 : Nat) : Int) - 1 = (gs1.length : Int) := by omega
  have hw0 : IntKind.i64.wrap (gs1.length : Int) = (gs1.length : Int) := IntWalk.i64_in _ (by omega)
  have hCb := hide C
  have hrow2 := hide hrow
  replace hne := hide hne
  clear hrow hBg hFg
  conv => arg 2; whnf
  go_upto_region 35 with fail
  obtain ⟨dq, C1⟩ := hCb.out.pop (av' := .slice (some ⟨ga, 0, none⟩) gs1.length ca) (own_less (own_set_far hrow2.out hne.out _) (by rw [pCs_len, Nat.mul_one]))
  replace C1 := hide C1
  clear C hCb hrow2 hne hlast g3 z3 ho1 ho2
  have Cq := hide (C1.out.alloc (.cells #[.int .i64 3, .int .i64 n] 78))
  have hwq : B ≤ ((World.alloc (World.setCell w ⟨g, 3, none⟩ (.bool false)) (.cells #[.int .i64 3, .int .i64 n] 78))).heap.size := Cq.out.bw
  generalize (World.alloc (World.setCell w ⟨g, 3, none⟩ (.bool false)) (.cells #[.int .i64 3, .int .i64 n] 78)) = wq at *
  go_wp2_with (refine wpList_push rfl (.tmp 163) (.tmp 165) 36 rfl B 3 (.int .i64 0) 8 Tryd.underlying36 info_intr rfl (.slice Ak kinds.length ck) kinds.length (kinds.map (Value.int .i64)) rfl Cq.out.kinds (.int .i64 0) rfl rfl (by simp only [maxLen]; omega) (by omega) hwq ?_; intro kv' w9 hk9 hg9; obtain ⟨Ak9, ck9, rfl⟩ := own_shape hk9; replace hk9 := hide hk9; replace hg9 := hide hg9)
  have hC9 := Cq.out.tell hk9.out hg9.out
  exact hK.out _ _ _ _ _ _ _ _ _ _ _ _ _ _ _ _ _ _ _ _ _ _ _ _ _ _ _ _ _ _ _ _ _ _ _ _ _ _ _ _ _ _ _ _ _ _ _ _ _ _ _ _ _ _ _ _ _ _ _ _ _ _ _ _ _ _ _ _ _ _ _ _ _ _ _ _ _ _ _ _ _ _ _ _ _ _ _ _ _ _ _ _ _ _ _ _ _ _ _ _ _ _ _ _ _ _ _ _ _ _ _ _ _ _ _ _ _ _ _ _ _ _ _ _ _ _ _ _ _ _ _ _ _ _ _ _ _ _ _ _ _ _ _ _ hC9 (fun e => absurd e (by simp [SF.off]))
end Go.Proofs.YthkpoidnhgcjhaaDoor

/- The round of 'impl.Riff': its ways joined. -/
import Derived.Test.YthkpoidnhgcjhaaDoorRfWIdle
import Derived.Test.YthkpoidnhgcjhaaDoorRfWNext
import Derived.Test.YthkpoidnhgcjhaaDoorRfWNextk
import Derived.Test.YthkpoidnhgcjhaaDoorRfWTake
import Derived.Test.YthkpoidnhgcjhaaDoorRfWLists
import Derived.Test.YthkpoidnhgcjhaaDoorRfWListk
import Derived.Test.YthkpoidnhgcjhaaDoorRfWPop
namespace Go.Proofs.YthkpoidnhgcjhaaDoor
set_option linter.unusedSimpArgs false
set_option linter.unusedVariables false
set_option linter.unnecessarySimpa false
open Go.RowKit Plain

set_option maxRecDepth 1000000 in
set_option maxHeartbeats 8000000 in
theorem round_riff {f1 f10 f16 f26 f27 f28 f29 f30 f31 f32 f33 f34 f35 f36 f37 f38 f39 f40 f41 f42 f43 f44 f157 f158 f159 u17 u18 u19 u20 u21 u22 u23 u24 u25 u48 u49 u50 u51 u52 u53 u54 u55 u56 u57 u58 u59 u60 u61 u62 u63 u64 u65 u66 u67 u68 u69 u70 u71 u72 u73 u74 u75 u76 u77 u78 u79 u80 u81 u82 u83 u84 u85 u86 u87 u88 u89 u90 u91 u92 u93 u94 u95 u96 u97 u98 u99 u100 u101 u102 u103 u104 u105 u106 u107 u108 u109 u110 u111 u112 u113 u114 u115 u116 u117 u118 u119 u120 u121 u122 u123 u124 u125 u126 u127 u128 u129 u130 u131 u132 u133 u134 u135 u136 u137 u138 u139 u140 u141 u142 u143 u144 u145 u146 u147 u148 u149 u150 u151 u152 u153 u154 u155 u156 : Value} (K : Act → World → Prop) (Q0 : Exit → Act → World → Prop) (w0 w : World) (Ab As : Option Addr) (B p T nb cb ns cs k fb rb nw : Nat) (cl : List Int) (ae au ar ad al ap ah : Addr) (form z4 : Array Value) (kv ov av : Value) (steps : List (Int × Int)) (op n : Int)
    (pls : List PL) (bs : List Nat) (out : List Ck) (kinds : List Int) (now : Nw) (hcl : ∀ c ∈ out, c.len < 4294967296) (hhand : ∀ l, now = .live l true → ∃ pre cc, out = pre ++ [cc])
    (hv : Env B cl (T + nb + 12)) (hns : (ns : Int) ≤ 1073741824) (hnb : (nb : Int) ≤ 1073741824) (hk : k < ns) (hst : steps.length = ns) (hS : RdS w0 B As steps) (hstep : steps.getD k (0, 0) = (op, n)) (hop : -9223372036854775808 ≤ op ∧ op ≤ 9223372036854775807) (hnI : -9223372036854775808 ≤ n ∧ n ≤ 9223372036854775807)
    (hkl : kinds.length = k + 1) (hol : out.length ≤ k) (hpl : pls.length ≤ k) (hbl : bs.length ≤ nb) (hO : ∀ x ∈ bs, x ≤ 255) (hdl : ∀ c ∈ out, c.data.length + bs.length ≤ nb)
    (C : RC w0 w B ae au ar ad al ap ah fb rb form z4 out kinds kv ov) (N : RN w B p cl T ae ad al ap ah now pls bs av nw)
    (hK : ∀ (v17 v18 v19 v20 v21 v22 v23 v24 v25 v48 v49 v50 v51 v52 v53 v54 v55 v56 v57 v58 v59 v60 v61 v62 v63 v64 v65 v66 v67 v68 v69 v70 v71 v72 v73 v74 v75 v76 v77 v78 v79 v80 v81 v82 v83 v84 v85 v86 v87 v88 v89 v90 v91 v92 v93 v94 v95 v96 v97 v98 v99 v100 v101 v102 v103 v104 v105 v106 v107 v108 v109 v110 v111 v112 v113 v114 v115 v116 v117 v118 v119 v120 v121 v122 v123 v124 v125 v126 v127 v128 v129 v130 v131 v132 v133 v134 v135 v136 v137 v138 v139 v140 v141 v142 v143 v144 v145 v146 v147 v148 v149 v150 v151 v152 v153 v154 v155 v156 kv' ov' av' : Value) (w' : World), RC w0 w' B ae au ar ad al ap ah fb rb form z4 (rstep (nb + 1) op n (⟨now, pls, bs, out, kinds⟩ : RS)).out (rstep (nb + 1) op n (⟨now, pls, bs, out, kinds⟩ : RS)).kinds kv' ov' → RN w' B p cl (T + nb + 12) ae ad al ap ah (rstep (nb + 1) op n (⟨now, pls, bs, out, kinds⟩ : RS)).now (rstep (nb + 1) op n (⟨now, pls, bs, out, kinds⟩ : RS)).ls (rstep (nb + 1) op n (⟨now, pls, bs, out, kinds⟩ : RS)).bs av' nw → K ⟨(.slice Ab nb cb :: f1 :: .slice As ns cs :: undef :: undef :: undef :: .pointer (some ⟨rb, 0, none⟩) :: .slice none 0 0 :: .slice none 0 0 :: .pointer (some ⟨fb, 0, none⟩) :: f10 :: .nilIface :: kv' :: ov' :: av' :: .pointer (some ⟨nw, 0, none⟩) :: f16 :: v17 :: v18 :: v19 :: v20 :: v21 :: v22 :: v23 :: v24 :: v25 :: f26 :: f27 :: f28 :: f29 :: f30 :: f31 :: f32 :: f33 :: f34 :: f35 :: f36 :: f37 :: f38 :: f39 :: f40 :: f41 :: f42 :: f43 :: f44 :: .slice As ns cs :: .int .i64 (ns : Nat) :: .int .i64 ((k + 1 : Nat) : Int) :: v48 :: v49 :: v50 :: v51 :: v52 :: v53 :: v54 :: v55 :: v56 :: v57 :: v58 :: v59 :: v60 :: v61 :: v62 :: v63 :: v64 :: v65 :: v66 :: v67 :: v68 :: v69 :: v70 :: v71 :: v72 :: v73 :: v74 :: v75 :: v76 :: v77 :: v78 :: v79 :: v80 :: v81 :: v82 :: v83 :: v84 :: v85 :: v86 :: v87 :: v88 :: v89 :: v90 :: v91 :: v92 :: v93 :: v94 :: v95 :: v96 :: v97 :: v98 :: v99 :: v100 :: v101 :: v102 :: v103 :: v104 :: v105 :: v106 :: v107 :: v108 :: v109 :: v110 :: v111 :: v112 :: v113 :: v114 :: v115 :: v116 :: v117 :: v118 :: v119 :: v120 :: v121 :: v122 :: v123 :: v124 :: v125 :: v126 :: v127 :: v128 :: v129 :: v130 :: v131 :: v132 :: v133 :: v134 :: v135 :: v136 :: v137 :: v138 :: v139 :: v140 :: v141 :: v142 :: v143 :: v144 :: v145 :: v146 :: v147 :: v148 :: v149 :: v150 :: v151 :: v152 :: v153 :: v154 :: v155 :: v156 :: f157 :: f158 :: f159 :: [] : List Value).toArray, []⟩ w') :
    Code.wp Tryd.prog bodyRiff (Exit.then K Q0) ⟨(.slice Ab nb cb :: f1 :: .slice As ns cs :: undef :: undef :: undef :: .pointer (some ⟨rb, 0, none⟩) :: .slice none 0 0 :: .slice none 0 0 :: .pointer (some ⟨fb, 0, none⟩) :: f10 :: .nilIface :: kv :: ov :: av :: .pointer (some ⟨nw, 0, none⟩) :: f16 :: u17 :: u18 :: u19 :: u20 :: u21 :: u22 :: u23 :: u24 :: u25 :: f26 :: f27 :: f28 :: f29 :: f30 :: f31 :: f32 :: f33 :: f34 :: f35 :: f36 :: f37 :: f38 :: f39 :: f40 :: f41 :: f42 :: f43 :: f44 :: .slice As ns cs :: .int .i64 (ns : Nat) :: .int .i64 (k : Int) :: u48 :: u49 :: u50 :: u51 :: u52 :: u53 :: u54 :: u55 :: u56 :: u57 :: u58 :: u59 :: u60 :: u61 :: u62 :: u63 :: u64 :: u65 :: u66 :: u67 :: u68 :: u69 :: u70 :: u71 :: u72 :: u73 :: u74 :: u75 :: u76 :: u77 :: u78 :: u79 :: u80 :: u81 :: u82 :: u83 :: u84 :: u85 :: u86 :: u87 :: u88 :: u89 :: u90 :: u91 :: u92 :: u93 :: u94 :: u95 :: u96 :: u97 :: u98 :: u99 :: u100 :: u101 :: u102 :: u103 :: u104 :: u105 :: u106 :: u107 :: u108 :: u109 :: u110 :: u111 :: u112 :: u113 :: u114 :: u115 :: u116 :: u117 :: u118 :: u119 :: u120 :: u121 :: u122 :: u123 :: u124 :: u125 :: u126 :: u127 :: u128 :: u129 :: u130 :: u131 :: u132 :: u133 :: u134 :: u135 :: u136 :: u137 :: u138 :: u139 :: u140 :: u141 :: u142 :: u143 :: u144 :: u145 :: u146 :: u147 :: u148 :: u149 :: u150 :: u151 :: u152 :: u153 :: u154 :: u155 :: u156 :: f157 :: f158 :: f159 :: [] : List Value).toArray, []⟩ w := by
  by_cases h0 : op = 0
  · have e : rstep (nb + 1) op n ⟨now, pls, bs, out, kinds⟩ = stNext ⟨now, pls, bs, out, kinds⟩ := by unfold rstep; rw [if_pos h0]
    rw [e] at hK
    cases now with
    | dead eof => exact way_nextd K Q0 w0 w Ab As B p T nb cb ns cs k fb rb nw cl ae au ar ad al ap ah form z4 kv ov av steps op n pls bs out kinds eof h0 hv hns hnb hk hst hS hstep hop hnI hkl hol hpl hbl hO hdl C N hK
    | live l hand =>
      cases hnx : nextP l.tot l.chl l.pad (pstr pls bs) with
      | err eof q =>
        have e2 : stNext ⟨.live l hand, pls, bs, out, kinds⟩ = ⟨.dead eof, padv q pls, bs.drop q, out, kinds ++ [kd eof]⟩ := by simp only [stNext, hnx]
        rw [e2] at hK
        exact way_nexte K Q0 w0 w Ab As B p T nb cb ns cs k fb rb nw cl ae au ar ad al ap ah form z4 kv ov av steps op n pls bs out kinds l hand eof q hnx h0 hv hns hnb hk hst hS hstep hop hnI hkl hol hpl hbl hO hdl C N hK
      | ok q nn tt =>
        have e2 : stNext ⟨.live l hand, pls, bs, out, kinds⟩ = ⟨.live ⟨tt, nn, decide (nn % 2 = 1)⟩ true, padv q pls, bs.drop q, out ++ [⟨((pstr pls bs).drop (q - 8)).take 4, nn, [], 2⟩], kinds ++ [0]⟩ := by simp only [stNext, hnx]
        rw [e2] at hK
        have hnn : nn < 4294967296 := nextP_lt (fun x hx => hO x (pstr_mem pls bs x hx)) hnx
        exact way_nextk K Q0 w0 w Ab As B p T nb cb ns cs k fb rb nw cl ae au ar ad al ap ah form z4 kv ov av steps op n pls bs out kinds l hand q nn tt hnx hnn h0 hv hns hnb hk hst hS hstep hop hnI hkl hol hpl hbl hO hdl C N hK
  by_cases h1 : op = 1
  · have e : rstep (nb + 1) op n ⟨now, pls, bs, out, kinds⟩ = stTake (nb + 1) n ⟨now, pls, bs, out, kinds⟩ := by unfold rstep; rw [if_neg h0, if_pos h1]
    rw [e] at hK
    by_cases hh : ∃ l, now = .live l true
    · obtain ⟨l, rfl⟩ := hh
      obtain ⟨pre, cc, rfl⟩ := hhand l rfl
      by_cases hn0 : n ≤ 0
      · have e2 : stTake (nb + 1) n ⟨.live l true, pls, bs, pre ++ [cc], kinds⟩ = ⟨.live l true, pls, bs, pre ++ [cc], kinds ++ [0]⟩ := by simp only [stTake, hn0, if_true, RS.tell]
        rw [e2] at hK
        exact way_take0 K Q0 w0 w Ab As B p T nb cb ns cs k fb rb nw cl ae au ar ad al ap ah form z4 kv ov av steps op n pls bs (pre ++ [cc]) kinds l pre cc rfl hn0 h1 hv hns hnb hk hst hS hstep hop hnI hkl hol hpl hbl hO hdl C N hK
      · have e2 : stTake (nb + 1) n ⟨.live l true, pls, bs, pre ++ [cc], kinds⟩ = (stGot (min n.toNat (nb + 1)) l ⟨.live l true, pls, bs, pre ++ [cc], kinds⟩).tell 0 := by simp only [stTake, hn0, if_false]
        rw [e2] at hK
        unfold RS.tell stGot at hK
        simp only [upL_snoc] at hK
        exact way_take1 K Q0 w0 w Ab As B p T nb cb ns cs k fb rb nw cl ae au ar ad al ap ah form z4 kv ov av steps op n pls bs (pre ++ [cc]) kinds l pre cc rfl (by omega) h1 hv hns hnb hk hst hS hstep hop hnI hkl hol hpl hbl hO hdl C N hK
    · have hh' : ∀ l, now ≠ .live l true := fun l e => hh ⟨l, e⟩
      have e2 : stTake (nb + 1) n ⟨now, pls, bs, out, kinds⟩ = ⟨now, pls, bs, out, kinds ++ [3]⟩ := by
        cases now with
        | dead eof => rfl
        | live l hand => cases hand with
          | true => exact absurd rfl (hh' l)
          | false => rfl
      rw [e2] at hK
      exact way_idle1 K Q0 w0 w Ab As B p T nb cb ns cs k fb rb nw cl ae au ar ad al ap ah form z4 kv ov av steps op n pls bs out kinds now h1 hh' hv hns hnb hk hst hS hstep hop hnI hkl hol hpl hbl hO hdl C N hK
  by_cases h2 : op = 2
  · have e : rstep (nb + 1) op n ⟨now, pls, bs, out, kinds⟩ = stList ⟨now, pls, bs, out, kinds⟩ := by unfold rstep; rw [if_neg h0, if_neg h1, if_pos h2]
    rw [e] at hK
    by_cases hh : ∃ l, now = .live l true
    · obtain ⟨l, rfl⟩ := hh
      obtain ⟨pre, cc, rfl⟩ := hhand l rfl
      have hcc := hcl cc (by simp)
      by_cases hcs : cc.len < 4
      · have e2 : stList ⟨.live l true, pls, bs, pre ++ [cc], kinds⟩ = ⟨.live l true, pls, bs, pre ++ [cc], kinds ++ [2]⟩ := by simp only [stList, lastC_snoc, hcs, if_true, RS.tell]
        rw [e2] at hK
        exact way_lists K Q0 w0 w Ab As B p T nb cb ns cs k fb rb nw cl ae au ar ad al ap ah form z4 kv ov av steps op n pls bs (pre ++ [cc]) kinds l pre cc rfl hcc h2 hcs hv hns hnb hk hst hS hstep hop hnI hkl hol hpl hbl hO hdl C N hK
      · by_cases hav : (pstr (l :: pls) bs).length < 4
        · have e2 : stList ⟨.live l true, pls, bs, pre ++ [cc], kinds⟩ = ⟨.live (l.on (pstr (l :: pls) bs).length) true, padv (pstr (l :: pls) bs).length pls, bs.drop (pstr (l :: pls) bs).length, pre ++ [cc], kinds ++ [2]⟩ := by simp only [stList, lastC_snoc, hcs, hav, if_true, if_false]
          rw [e2] at hK
          exact way_listd K Q0 w0 w Ab As B p T nb cb ns cs k fb rb nw cl ae au ar ad al ap ah form z4 kv ov av steps op n pls bs (pre ++ [cc]) kinds l pre cc rfl hcc h2 hcs hav hv hns hnb hk hst hS hstep hop hnI hkl hol hpl hbl hO hdl C N hK
        · have e2 : stList ⟨.live l true, pls, bs, pre ++ [cc], kinds⟩ = ⟨.live ⟨cc.len - 4, 0, false⟩ false, l.on 4 :: padv 4 pls, bs.drop 4, pre ++ [cc], kinds ++ [0]⟩ := by simp only [stList, lastC_snoc, hcs, hav, if_false]
          rw [e2] at hK
          exact way_listk K Q0 w0 w Ab As B p T nb cb ns cs k fb rb nw cl ae au ar ad al ap ah form z4 kv ov av steps op n pls bs (pre ++ [cc]) kinds l pre cc rfl hcc h2 hcs hav hv hns hnb hk hst hS hstep hop hnI hkl hol hpl hbl hO hdl C N hK
    · have hh' : ∀ l, now ≠ .live l true := fun l e => hh ⟨l, e⟩
      have e2 : stList ⟨now, pls, bs, out, kinds⟩ = ⟨now, pls, bs, out, kinds ++ [3]⟩ := by
        cases now with
        | dead eof => rfl
        | live l hand => cases hand with
          | true => exact absurd rfl (hh' l)
          | false => rfl
      rw [e2] at hK
      exact way_idle2 K Q0 w0 w Ab As B p T nb cb ns cs k fb rb nw cl ae au ar ad al ap ah form z4 kv ov av steps op n pls bs out kinds now h2 hh' hv hns hnb hk hst hS hstep hop hnI hkl hol hpl hbl hO hdl C N hK
  by_cases h3 : op = 3
  · have e : rstep (nb + 1) op n ⟨now, pls, bs, out, kinds⟩ = stPop ⟨now, pls, bs, out, kinds⟩ := by unfold rstep; rw [if_neg h0, if_neg h1, if_neg h2, if_pos h3]
    rw [e] at hK
    cases hls : pls with
    | nil =>
      subst hls
      exact way_idle3 K Q0 w0 w Ab As B p T nb cb ns cs k fb rb nw cl ae au ar ad al ap ah form z4 kv ov av steps op n [] bs out kinds now h3 rfl hv hns hnb hk hst hS hstep hop hnI hkl hol hpl hbl hO hdl C N hK
    | cons l0 r =>
      subst hls
      exact way_pop K Q0 w0 w Ab As B p T nb cb ns cs k fb rb nw cl ae au ar ad al ap ah form z4 kv ov av steps op n (l0 :: r) bs out kinds now l0 r rfl h3 hv hns hnb hk hst hS hstep hop hnI hkl hol hpl hbl hO hdl C N hK
  · have e : rstep (nb + 1) op n ⟨now, pls, bs, out, kinds⟩ = ⟨now, pls, bs, out, kinds ++ [3]⟩ := by unfold rstep; rw [if_neg h0, if_neg h1, if_neg h2, if_neg h3]; rfl
    rw [e] at hK
    exact way_idle K Q0 w0 w Ab As B p T nb cb ns cs k fb rb nw cl ae au ar ad al ap ah form z4 kv ov av steps op n pls bs out kinds now h0 h1 h2 h3 hv hns hnb hk hst hS hstep hop hnI hkl hol hpl hbl hO hdl C N hK
end Go.Proofs.YthkpoidnhgcjhaaDoor

/- The round of 'walked': the other ways. -/
import Derived.Test.YthkpoidnhgcjhaaDoorRsD
namespace Go.Proofs.YthkpoidnhgcjhaaDoor
set_option linter.unusedSimpArgs false
set_option linter.unusedVariables false
open Go.RowKit Plain

theorem set7 {w : World} {g : Nat} {t : TypeId} {cs : Array Value} (h : Blk w g t cs) (o : Nat) (x0 x1 x2 x3 x4 x5 x6 : Value) :
    Blk (((((((w.setCell ⟨g, o, none⟩ x0).setCell ⟨g, o + 1, none⟩ x1).setCell ⟨g, o + 2, none⟩ x2).setCell ⟨g, o + 3, none⟩ x3).setCell ⟨g, o + 4, none⟩ x4).setCell ⟨g, o + 5, none⟩ x5).setCell ⟨g, o + 6, none⟩ x6) g t (((((((cs.setIfInBounds o x0).setIfInBounds (o + 1) x1).setIfInBounds (o + 2) x2).setIfInBounds (o + 3) x3).setIfInBounds (o + 4) x4).setIfInBounds (o + 5) x5).setIfInBounds (o + 6) x6) :=
  (((((((h.set_ _ _).set_ _ _).set_ _ _).set_ _ _).set_ _ _).set_ _ _).set_ _ _)
theorem upd7 (w : World) (g o : Nat) (x0 x1 x2 x3 x4 x5 x6 : Value) :
    Upd [g] w (((((((w.setCell ⟨g, o, none⟩ x0).setCell ⟨g, o + 1, none⟩ x1).setCell ⟨g, o + 2, none⟩ x2).setCell ⟨g, o + 3, none⟩ x3).setCell ⟨g, o + 4, none⟩ x4).setCell ⟨g, o + 5, none⟩ x5).setCell ⟨g, o + 6, none⟩ x6) := by
  have hg : g ∈ [g] := by simp
  exact updg (updg (updg (updg (updg (updg (updg (Upd.refl [g] w) hg _ _) hg _ _) hg _ _) hg _ _) hg _ _) hg _ _) hg _ _
theorem took7 {cs : Array Value} {A : List Value} {c : Ck} {v : Value} {n : Nat} (h : cs.toList.take n = A ++ ckC c v) (x0 x1 x2 x3 x4 x5 x6 : Value) :
    ((((((((cs.setIfInBounds A.length x0).setIfInBounds (A.length + 1) x1).setIfInBounds (A.length + 2) x2).setIfInBounds (A.length + 3) x3).setIfInBounds (A.length + 4) x4).setIfInBounds (A.length + 5) x5).setIfInBounds (A.length + 6) x6).toList.take n) = A ++ [x0, x1, x2, x3, x4, x5, x6] := by
  simp only [Array.toList_setIfInBounds, List.take_set, h]
  rw [List.set_append_right _ _ (Nat.le_refl _), Nat.sub_self]
  rw [List.set_append_right _ _ (by omega), List.set_append_right _ _ (by omega), List.set_append_right _ _ (by omega), List.set_append_right _ _ (by omega), List.set_append_right _ _ (by omega), List.set_append_right _ _ (by omega)]
  simp [ckC]
end Go.Proofs.YthkpoidnhgcjhaaDoor

namespace Go.Proofs.YthkpoidnhgcjhaaDoor
set_option linter.unusedSimpArgs false
set_option linter.unusedVariables false
set_option linter.unnecessarySimpa false
open Go.RowKit Plain

set_option maxRecDepth 1000000 in
set_option maxHeartbeats 8000000 in
theorem wway_take {f2 f3 f4 f5 f6 f7 f9 f11 f20 f21 f22 f23 f24 f25 f26 f27 f28 f29 f30 f31 f32 f33 f34 f167 f168 f169 f170 u16 u17 u18 u19 u35 u36 u37 u38 u39 u40 u41 u42 u43 u44 u45 u46 u47 u48 u49 u50 u51 u52 u53 u54 u55 u56 u57 u58 u59 u60 u61 u62 u63 u64 u65 u66 u67 u68 u69 u70 u71 u72 u73 u74 u75 u76 u77 u78 u79 u80 u81 u82 u83 u84 u85 u86 u87 u88 u89 u90 u91 u92 u93 u94 u95 u96 u97 u98 u99 u100 u101 u102 u103 u104 u105 u106 u107 u108 u109 u110 u111 u112 u113 u114 u115 u116 u117 u118 u119 u120 u121 u122 u123 u124 u125 u126 u127 u128 u129 u130 u131 u132 u133 u134 u135 u136 u137 u138 u139 u140 u141 u142 u143 u144 u145 u146 u147 u148 u149 u150 u151 u152 u153 u154 u155 u156 u157 u158 u159 u160 u161 u162 u163 u164 u165 u166 : Value} (K : Act → World → Prop) (Q0 : Exit → Act → World → Prop) (w0 w : World) (Ab As : Option Addr) (B nb cb ns cs k fb rb gf : Nat) (gs : List Nat) (dv : Value) (V : Nat → Value) (form z4 : Array Value) (kv ov av : Value) (steps : List (Int × Int)) (op n : Int)
    (f : SF) (ar : List SF) (out : List Ck) (kinds : List Int) (opn : Bool) (pre : List Ck) (hop : op = 1) (hh : f.hand = true) (hout : out = pre ++ [f.ck]) (hpl : f.place = pre.length)
    (hns : (ns : Int) ≤ 1048576) (hnb : (nb : Int) ≤ 1073741824) (hk : k < ns) (hst : steps.length = ns) (hS : RdS w0 B As steps) (hstep : steps.getD k (0, 0) = (op, n)) (hop : -9223372036854775808 ≤ op ∧ op ≤ 9223372036854775807) (hnI : -9223372036854775808 ≤ n ∧ n ≤ 9223372036854775807)
    (J : SJ nb k ⟨f, ar, out, kinds, opn⟩) (C : SX w0 w B gf gs dv V fb rb form z4 f ar out kinds kv ov av) (hdv : f.hand = true → dv = V (out.length - 1))
    (hK : ∀ (v16 v17 v18 v19 v35 v36 v37 v38 v39 v40 v41 v42 v43 v44 v45 v46 v47 v48 v49 v50 v51 v52 v53 v54 v55 v56 v57 v58 v59 v60 v61 v62 v63 v64 v65 v66 v67 v68 v69 v70 v71 v72 v73 v74 v75 v76 v77 v78 v79 v80 v81 v82 v83 v84 v85 v86 v87 v88 v89 v90 v91 v92 v93 v94 v95 v96 v97 v98 v99 v100 v101 v102 v103 v104 v105 v106 v107 v108 v109 v110 v111 v112 v113 v114 v115 v116 v117 v118 v119 v120 v121 v122 v123 v124 v125 v126 v127 v128 v129 v130 v131 v132 v133 v134 v135 v136 v137 v138 v139 v140 v141 v142 v143 v144 v145 v146 v147 v148 v149 v150 v151 v152 v153 v154 v155 v156 v157 v158 v159 v160 v161 v162 v163 v164 v165 v166 kv' ov' av' : Value) (gf' : Nat) (gs' : List Nat) (dv' : Value) (V' : Nat → Value) (w' : World), SX w0 w' B gf' gs' dv' V' fb rb form z4 (sTake n f) (ar) (pre ++ [(sTake n f).ck]) (kinds ++ [0]) kv' ov' av' → ((sTake n f).hand = true → dv' = V' ((pre ++ [(sTake n f).ck]).length - 1)) → K ⟨(.slice Ab nb cb :: .slice As ns cs :: f2 :: f3 :: f4 :: f5 :: f6 :: f7 :: .pointer (some ⟨gf', 0, none⟩) :: f9 :: .bool opn :: f11 :: av' :: ov' :: kv' :: .int .i64 ((k + 1 : Nat) : Int) :: v16 :: v17 :: v18 :: v19 :: f20 :: f21 :: f22 :: f23 :: f24 :: f25 :: f26 :: f27 :: f28 :: f29 :: f30 :: f31 :: f32 :: f33 :: f34 :: v35 :: v36 :: v37 :: v38 :: v39 :: v40 :: v41 :: v42 :: v43 :: v44 :: v45 :: v46 :: v47 :: v48 :: v49 :: v50 :: v51 :: v52 :: v53 :: v54 :: v55 :: v56 :: v57 :: v58 :: v59 :: v60 :: v61 :: v62 :: v63 :: v64 :: v65 :: v66 :: v67 :: v68 :: v69 :: v70 :: v71 :: v72 :: v73 :: v74 :: v75 :: v76 :: v77 :: v78 :: v79 :: v80 :: v81 :: v82 :: v83 :: v84 :: v85 :: v86 :: v87 :: v88 :: v89 :: v90 :: v91 :: v92 :: v93 :: v94 :: v95 :: v96 :: v97 :: v98 :: v99 :: v100 :: v101 :: v102 :: v103 :: v104 :: v105 :: v106 :: v107 :: v108 :: v109 :: v110 :: v111 :: v112 :: v113 :: v114 :: v115 :: v116 :: v117 :: v118 :: v119 :: v120 :: v121 :: v122 :: v123 :: v124 :: v125 :: v126 :: v127 :: v128 :: v129 :: v130 :: v131 :: v132 :: v133 :: v134 :: v135 :: v136 :: v137 :: v138 :: v139 :: v140 :: v141 :: v142 :: v143 :: v144 :: v145 :: v146 :: v147 :: v148 :: v149 :: v150 :: v151 :: v152 :: v153 :: v154 :: v155 :: v156 :: v157 :: v158 :: v159 :: v160 :: v161 :: v162 :: v163 :: v164 :: v165 :: v166 :: f167 :: f168 :: f169 :: f170 :: [] : List Value).toArray, []⟩ w') :
    Code.wp Tryd.prog bodyWalked (Exit.then K Q0) ⟨(.slice Ab nb cb :: .slice As ns cs :: f2 :: f3 :: f4 :: f5 :: f6 :: f7 :: .pointer (some ⟨gf, 0, none⟩) :: f9 :: .bool opn :: f11 :: av :: ov :: kv :: .int .i64 (k : Int) :: u16 :: u17 :: u18 :: u19 :: f20 :: f21 :: f22 :: f23 :: f24 :: f25 :: f26 :: f27 :: f28 :: f29 :: f30 :: f31 :: f32 :: f33 :: f34 :: u35 :: u36 :: u37 :: u38 :: u39 :: u40 :: u41 :: u42 :: u43 :: u44 :: u45 :: u46 :: u47 :: u48 :: u49 :: u50 :: u51 :: u52 :: u53 :: u54 :: u55 :: u56 :: u57 :: u58 :: u59 :: u60 :: u61 :: u62 :: u63 :: u64 :: u65 :: u66 :: u67 :: u68 :: u69 :: u70 :: u71 :: u72 :: u73 :: u74 :: u75 :: u76 :: u77 :: u78 :: u79 :: u80 :: u81 :: u82 :: u83 :: u84 :: u85 :: u86 :: u87 :: u88 :: u89 :: u90 :: u91 :: u92 :: u93 :: u94 :: u95 :: u96 :: u97 :: u98 :: u99 :: u100 :: u101 :: u102 :: u103 :: u104 :: u105 :: u106 :: u107 :: u108 :: u109 :: u110 :: u111 :: u112 :: u113 :: u114 :: u115 :: u116 :: u117 :: u118 :: u119 :: u120 :: u121 :: u122 :: u123 :: u124 :: u125 :: u126 :: u127 :: u128 :: u129 :: u130 :: u131 :: u132 :: u133 :: u134 :: u135 :: u136 :: u137 :: u138 :: u139 :: u140 :: u141 :: u142 :: u143 :: u144 :: u145 :: u146 :: u147 :: u148 :: u149 :: u150 :: u151 :: u152 :: u153 :: u154 :: u155 :: u156 :: u157 :: u158 :: u159 :: u160 :: u161 :: u162 :: u163 :: u164 :: u165 :: u166 :: f167 :: f168 :: f169 :: f170 :: [] : List Value).toArray, []⟩ w := by
  have hI : (k : Int) < ns := by omega
  have hwB := C.bw
  have hwu := C.up.size
  have hB0 := C.hB0
  obtain ⟨sb, so, rfl, hsb, hcell⟩ := hS (by rintro rfl; simp at hst; omega)
  obtain ⟨ho1, ho2⟩ := hcell k (by omega)
  rw [hstep] at ho1 ho2
  replace ho1 := (C.up.cell (p := ⟨sb, so + k * 2, none⟩) (by show sb < _; omega) (by simp)).trans ho1
  replace ho2 := (C.up.cell (p := ⟨sb, so + k * 2 + 1, none⟩) (by show sb < _; omega) (by simp)).trans ho2
  clear hcell hS hstep
  replace hK := hide hK
  obtain ⟨Ak, ck, rfl⟩ := own_shape C.kinds
  obtain ⟨Aa, ca, rfl⟩ := own_shape C.around
  have hsbw : ¬ sb = w.heap.size := by omega
  have hol : (out.length : Int) ≤ 1048576 := by have h1 : out.length ≤ k := J.ol; omega
  have hgl : (gs.length : Int) ≤ 1048576 := by have h1 : ar.length ≤ k := J.al; rw [C.files.len]; omega
  have hkl : (kinds.length : Int) ≤ 1048577 := by have h1 : kinds.length = k + 1 := J.kl; omega
  obtain ⟨hop0, hop1⟩ := hop
  obtain ⟨hnI0, hnI1⟩ := hnI
  have hfl := C.f.lt
  have hfn : ¬ gf = w.heap.size := by omega
  have hfB := C.ge gf (by simp)
  have c3 : w.cell? ⟨gf, 3, none⟩ = some (.bool f.hand) := by obtain ⟨_, _, _, _, h1, _⟩ := C.f.h; exact h1.cell 3
  replace J := hide J
  replace hdv := hide hdv
  subst hop hout
  have hdvp : dv = V pre.length := by rw [hdv.out hh]; simp
  obtain ⟨go, co, gcs, rfl, hgoB, hgob, hgoc, hgom, hgos, hgot⟩ := SOuts.last C.outs
  have hown := C.outs.data pre.length (by simp)
  have hg0 : (pre ++ [f.ck]).getD pre.length default = f.ck := by simp
  rw [hg0, ← hdvp] at hown
  have hpl1 : pre.length + 1 ≤ k := by have h1 : (pre ++ [f.ck]).length ≤ k := J.out.ol; simpa using h1
  have hplI : (pre.length : Int) ≤ 1048576 := by omega
  have hovI : ((pre ++ [f.ck]).length : Int) = (pre.length : Int) + 1 := by simp
  have hgne := own_ne hown hgob (by decide)
  have hgf : ¬ go = gf := by
    rintro rfl
    obtain ⟨cs, h1⟩ := C.gblk
    exact absurd (h1.typ_eq hgob) (by decide)
  rw [hh] at c3
  have uB := (Upd.refl [] w).alloc (.cells #[.int .i64 1, .int .i64 n] 78)
  have cT := take_spec gf B nb f n dv _ (C.alloc (.cells #[.int .i64 1, .int .i64 n] 78)).f J.out.f hh ⟨hnI0, hnI1⟩ hnb (C.alloc _).bw hfB (uB.own hown (by simp))
  unfold TakePostS at cT
  replace cT := hide cT
  have hgobw := hide (hgob.upd uB (by simp))
  have hownw := hide (uB.own hown (by simp))
  have hA : (ckCells V 0 pre).length = pre.length * 7 := ck_len V 0 pre
  have hsz : pre.length * 7 + 7 ≤ gcs.size := by rw [hgos]; omega
  replace hgne := hide hgne
  replace hgot := hide hgot
  replace hdvp := hide hdvp
  replace hh := hide hh
  obtain ⟨T, hT⟩ : ∃ T, T = sTake n f := ⟨_, rfl⟩
  have hTp : T.place = pre.length := by rw [hT]; exact hpl
  rw [← hT] at cT hK
  replace hT := hide hT
  conv => arg 2; whnf
  go_upto_region 22 with fail
  have Cw := hide (C.alloc (.cells #[.int .i64 1, .int .i64 n] 78))
  have o1 : (w.alloc (.cells #[.int .i64 1, .int .i64 n] 78)).cell? ⟨w.heap.size, 1, none⟩ = some (.int .i64 n) := (Blk.new w 78 #[.int .i64 1, .int .i64 n]).cell 1
  clear c3 ho1 ho2 hsbw hwu C uB hown hgob
  replace hwB : B ≤ (w.alloc (.cells #[.int .i64 1, .int .i64 n] 78)).heap.size := Cw.out.bw
  generalize w.alloc (.cells #[.int .i64 1, .int .i64 n] 78) = wS at *
  generalize w.heap.size = sx at *
  go_upto_region 23 with (first
    | (go_at_call 33; (with_reducible refine (cT.out).mono ?_); rintro e w1 ⟨rfl, dv1, hu1, hF1, hown1, hn1⟩; replace hu1 := hide hu1; replace hF1 := hide hF1; replace hown1 := hide hown1; replace hn1 := hide hn1)
    | fail)
  clear cT
  have hgo1 : Blk w1 go 79 gcs := hgobw.out.upd hu1.out (by
    simp only [List.mem_cons, not_or]
    exact ⟨hgf, fun hm => hgne.out (by simpa using hm)⟩)
  have hgoz := fun i => hgo1.frozen (pre.length * 7 + i)
  have hgox : ∀ i, i < 7 → ∃ x, w1.cell? ⟨go, pre.length * 7 + i, none⟩ = some x := fun i hi => ⟨_, (hgo1.cell (pre.length * 7 + i)).trans (Array.getElem?_eq_getElem (by omega))⟩
  obtain ⟨x0, y0⟩ := hgox 0 (by omega)
  obtain ⟨x1, y1⟩ := hgox 1 (by omega)
  obtain ⟨x2, y2⟩ := hgox 2 (by omega)
  obtain ⟨x3, y3⟩ := hgox 3 (by omega)
  obtain ⟨x4, y4⟩ := hgox 4 (by omega)
  obtain ⟨x5, y5⟩ := hgox 5 (by omega)
  obtain ⟨x6, y6⟩ := hgox 6 (by omega)
  have m0 := hgoz 0
  have m1 := hgoz 1
  have m2 := hgoz 2
  have m3 := hgoz 3
  have m4 := hgoz 4
  have m5 := hgoz 5
  have m6 := hgoz 6
  rw [Nat.add_zero] at y0 m0
  obtain ⟨Af, cf, Ad, cd, hBf, _⟩ := hF1.out.h
  have c4 : w1.cell? ⟨gf, 4, none⟩ = some (.int .u8 (T.ck.id.getD 0 0 : Nat)) := hBf.cell 4
  have c5 : w1.cell? ⟨gf, 5, none⟩ = some (.int .u8 (T.ck.id.getD 1 0 : Nat)) := hBf.cell 5
  have c6 : w1.cell? ⟨gf, 6, none⟩ = some (.int .u8 (T.ck.id.getD 2 0 : Nat)) := hBf.cell 6
  have c7 : w1.cell? ⟨gf, 7, none⟩ = some (.int .u8 (T.ck.id.getD 3 0 : Nat)) := hBf.cell 7
  have c8 : w1.cell? ⟨gf, 8, none⟩ = some (.int .i64 (T.ck.len : Nat)) := hBf.cell 8
  have c9 : w1.cell? ⟨gf, 9, none⟩ = some dv1 := hBf.cell 9
  have c10 : w1.cell? ⟨gf, 10, none⟩ = some (.int .i64 (T.ck.en : Nat)) := hBf.cell 10
  have c14 : w1.cell? ⟨gf, 14, none⟩ = some (.int .i64 (T.place : Nat)) := hBf.cell 14
  rw [hTp] at c14
  clear hBf hgox hgoz
  obtain ⟨Av, cv, rfl⟩ : ∃ A c, dv1 = .slice A T.ck.data.length c := own_shape hown1.out
  have hckC : ckC T.ck (.slice Av T.ck.data.length cv) = [.int .u8 (T.ck.id.getD 0 0 : Nat), .int .u8 (T.ck.id.getD 1 0 : Nat), .int .u8 (T.ck.id.getD 2 0 : Nat), .int .u8 (T.ck.id.getD 3 0 : Nat), .int .i64 (T.ck.len : Nat), .slice Av T.ck.data.length cv, .int .i64 (T.ck.en : Nat)] := rfl
  generalize T.ck.id.getD 0 0 = i0 at *
  generalize T.ck.id.getD 1 0 = i1 at *
  generalize T.ck.id.getD 2 0 = i2 at *
  generalize T.ck.id.getD 3 0 = i3 at *
  replace hckC := hide hckC
  replace hgo1 := hide hgo1
  have hplJ : (pre.length : Int) < (pre.length : Int) + 1 := by omega
  have hplN : pre.length < (pre ++ [f.ck]).length := by simp
  go_region
  have hB2 := Blk.drew (set7 hgo1.out (pre.length * 7) (.int .u8 (i0 : Nat)) (.int .u8 (i1 : Nat)) (.int .u8 (i2 : Nat)) (.int .u8 (i3 : Nat)) (.int .i64 (T.ck.len : Nat)) (.slice Av T.ck.data.length cv) (.int .i64 (T.ck.en : Nat)))
  have hU2 := Upd.drew (upd7 w1 go (pre.length * 7) (.int .u8 (i0 : Nat)) (.int .u8 (i1 : Nat)) (.int .u8 (i2 : Nat)) (.int .u8 (i3 : Nat)) (.int .i64 (T.ck.len : Nat)) (.slice Av T.ck.data.length cv) (.int .i64 (T.ck.en : Nat)))
  have hT7 := took7 (c := f.ck) (v := V pre.length) hgot.out (.int .u8 (i0 : Nat)) (.int .u8 (i1 : Nat)) (.int .u8 (i2 : Nat)) (.int .u8 (i3 : Nat)) (.int .i64 (T.ck.len : Nat)) (.slice Av T.ck.data.length cv) (.int .i64 (T.ck.en : Nat))
  rw [hA, ← hckC.out] at hT7
  have C2 := hide (Cw.out.took (c' := T.ck) hdvp.out hu1.out hF1.out hown1.out hn1.out rfl hgoB hgoc hgom (by simp only [Array.size_setIfInBounds]; exact hgos) hT7 hgobw.out hU2 hB2)
  clear hB2 hU2 hT7 hgo1 hckC y0 y1 y2 y3 y4 y5 y6 m0 m1 m2 m3 m4 m5 m6 c4 c5 c6 c7 c8 c9 c10 c14 Cw hF1 hu1 hown1 hn1 hgobw hownw hgot hgne
  have Cq := hide (C2.out)
  go_upto_region 35 with fail
  have hwq : B ≤ ((World.drew (World.setCell (World.setCell (World.setCell (World.setCell (World.setCell (World.setCell (World.setCell w1 ⟨go, pre.length * 7, none⟩ (.int .u8 (i0 : Nat))) ⟨go, pre.length * 7 + 1, none⟩ (.int .u8 (i1 : Nat))) ⟨go, pre.length * 7 + 2, none⟩ (.int .u8 (i2 : Nat))) ⟨go, pre.length * 7 + 3, none⟩ (.int .u8 (i3 : Nat))) ⟨go, pre.length * 7 + 4, none⟩ (.int .i64 (T.ck.len : Nat))) ⟨go, pre.length * 7 + 5, none⟩ (.slice Av T.ck.data.length cv)) ⟨go, pre.length * 7 + 6, none⟩ (.int .i64 (T.ck.en : Nat))))).heap.size := Cq.out.bw
  generalize (World.drew (World.setCell (World.setCell (World.setCell (World.setCell (World.setCell (World.setCell (World.setCell w1 ⟨go, pre.length * 7, none⟩ (.int .u8 (i0 : Nat))) ⟨go, pre.length * 7 + 1, none⟩ (.int .u8 (i1 : Nat))) ⟨go, pre.length * 7 + 2, none⟩ (.int .u8 (i2 : Nat))) ⟨go, pre.length * 7 + 3, none⟩ (.int .u8 (i3 : Nat))) ⟨go, pre.length * 7 + 4, none⟩ (.int .i64 (T.ck.len : Nat))) ⟨go, pre.length * 7 + 5, none⟩ (.slice Av T.ck.data.length cv)) ⟨go, pre.length * 7 + 6, none⟩ (.int .i64 (T.ck.en : Nat)))) = wq at *
  go_wp2_with (refine wpList_push rfl (.tmp 163) (.tmp 165) 36 rfl B 3 (.int .i64 0) 8 Tryd.underlying36 info_intr rfl (.slice Ak kinds.length ck) kinds.length (kinds.map (Value.int .i64)) rfl Cq.out.kinds (.int .i64 0) rfl rfl (by simp only [maxLen]; omega) (by omega) hwq ?_; intro kv' w9 hk9 hg9; obtain ⟨Ak9, ck9, rfl⟩ := own_shape hk9; replace hk9 := hide hk9; replace hg9 := hide hg9)
  have hC9 := Cq.out.tell hk9.out hg9.out
  exact hK.out _ _ _ _ _ _ _ _ _ _ _ _ _ _ _ _ _ _ _ _ _ _ _ _ _ _ _ _ _ _ _ _ _ _ _ _ _ _ _ _ _ _ _ _ _ _ _ _ _ _ _ _ _ _ _ _ _ _ _ _ _ _ _ _ _ _ _ _ _ _ _ _ _ _ _ _ _ _ _ _ _ _ _ _ _ _ _ _ _ _ _ _ _ _ _ _ _ _ _ _ _ _ _ _ _ _ _ _ _ _ _ _ _ _ _ _ _ _ _ _ _ _ _ _ _ _ _ _ _ _ _ _ _ _ _ _ _ _ _ _ _ _ _ _ hC9 (fun _ => by simp)
end Go.Proofs.YthkpoidnhgcjhaaDoor

namespace Go.Proofs.YthkpoidnhgcjhaaDoor
set_option linter.unusedSimpArgs false
set_option linter.unusedVariables false
set_option linter.unnecessarySimpa false
open Go.RowKit Plain

set_option maxRecDepth 1000000 in
set_option maxHeartbeats 8000000 in
theorem wway_lists {f2 f3 f4 f5 f6 f7 f9 f11 f20 f21 f22 f23 f24 f25 f26 f27 f28 f29 f30 f31 f32 f33 f34 f167 f168 f169 f170 u16 u17 u18 u19 u35 u36 u37 u38 u39 u40 u41 u42 u43 u44 u45 u46 u47 u48 u49 u50 u51 u52 u53 u54 u55 u56 u57 u58 u59 u60 u61 u62 u63 u64 u65 u66 u67 u68 u69 u70 u71 u72 u73 u74 u75 u76 u77 u78 u79 u80 u81 u82 u83 u84 u85 u86 u87 u88 u89 u90 u91 u92 u93 u94 u95 u96 u97 u98 u99 u100 u101 u102 u103 u104 u105 u106 u107 u108 u109 u110 u111 u112 u113 u114 u115 u116 u117 u118 u119 u120 u121 u122 u123 u124 u125 u126 u127 u128 u129 u130 u131 u132 u133 u134 u135 u136 u137 u138 u139 u140 u141 u142 u143 u144 u145 u146 u147 u148 u149 u150 u151 u152 u153 u154 u155 u156 u157 u158 u159 u160 u161 u162 u163 u164 u165 u166 : Value} (K : Act → World → Prop) (Q0 : Exit → Act → World → Prop) (w0 w : World) (Ab As : Option Addr) (B nb cb ns cs k fb rb gf : Nat) (gs : List Nat) (dv : Value) (V : Nat → Value) (form z4 : Array Value) (kv ov av : Value) (steps : List (Int × Int)) (op n : Int)
    (f : SF) (ar : List SF) (out : List Ck) (kinds : List Int) (opn : Bool) (hop : op = 2) (hh : f.hand = true) (hl : f.ck.len < 4 ∨ f.left.length < 4)
    (hns : (ns : Int) ≤ 1048576) (hnb : (nb : Int) ≤ 1073741824) (hk : k < ns) (hst : steps.length = ns) (hS : RdS w0 B As steps) (hstep : steps.getD k (0, 0) = (op, n)) (hop : -9223372036854775808 ≤ op ∧ op ≤ 9223372036854775807) (hnI : -9223372036854775808 ≤ n ∧ n ≤ 9223372036854775807)
    (J : SJ nb k ⟨f, ar, out, kinds, opn⟩) (C : SX w0 w B gf gs dv V fb rb form z4 f ar out kinds kv ov av) (hdv : f.hand = true → dv = V (out.length - 1))
    (hK : ∀ (v16 v17 v18 v19 v35 v36 v37 v38 v39 v40 v41 v42 v43 v44 v45 v46 v47 v48 v49 v50 v51 v52 v53 v54 v55 v56 v57 v58 v59 v60 v61 v62 v63 v64 v65 v66 v67 v68 v69 v70 v71 v72 v73 v74 v75 v76 v77 v78 v79 v80 v81 v82 v83 v84 v85 v86 v87 v88 v89 v90 v91 v92 v93 v94 v95 v96 v97 v98 v99 v100 v101 v102 v103 v104 v105 v106 v107 v108 v109 v110 v111 v112 v113 v114 v115 v116 v117 v118 v119 v120 v121 v122 v123 v124 v125 v126 v127 v128 v129 v130 v131 v132 v133 v134 v135 v136 v137 v138 v139 v140 v141 v142 v143 v144 v145 v146 v147 v148 v149 v150 v151 v152 v153 v154 v155 v156 v157 v158 v159 v160 v161 v162 v163 v164 v165 v166 kv' ov' av' : Value) (gf' : Nat) (gs' : List Nat) (dv' : Value) (V' : Nat → Value) (w' : World), SX w0 w' B gf' gs' dv' V' fb rb form z4 (f) (ar) (out) (kinds ++ [2]) kv' ov' av' → ((f).hand = true → dv' = V' ((out).length - 1)) → K ⟨(.slice Ab nb cb :: .slice As ns cs :: f2 :: f3 :: f4 :: f5 :: f6 :: f7 :: .pointer (some ⟨gf', 0, none⟩) :: f9 :: .bool (opn || decide (4 ≤ f.ck.len)) :: f11 :: av' :: ov' :: kv' :: .int .i64 ((k + 1 : Nat) : Int) :: v16 :: v17 :: v18 :: v19 :: f20 :: f21 :: f22 :: f23 :: f24 :: f25 :: f26 :: f27 :: f28 :: f29 :: f30 :: f31 :: f32 :: f33 :: f34 :: v35 :: v36 :: v37 :: v38 :: v39 :: v40 :: v41 :: v42 :: v43 :: v44 :: v45 :: v46 :: v47 :: v48 :: v49 :: v50 :: v51 :: v52 :: v53 :: v54 :: v55 :: v56 :: v57 :: v58 :: v59 :: v60 :: v61 :: v62 :: v63 :: v64 :: v65 :: v66 :: v67 :: v68 :: v69 :: v70 :: v71 :: v72 :: v73 :: v74 :: v75 :: v76 :: v77 :: v78 :: v79 :: v80 :: v81 :: v82 :: v83 :: v84 :: v85 :: v86 :: v87 :: v88 :: v89 :: v90 :: v91 :: v92 :: v93 :: v94 :: v95 :: v96 :: v97 :: v98 :: v99 :: v100 :: v101 :: v102 :: v103 :: v104 :: v105 :: v106 :: v107 :: v108 :: v109 :: v110 :: v111 :: v112 :: v113 :: v114 :: v115 :: v116 :: v117 :: v118 :: v119 :: v120 :: v121 :: v122 :: v123 :: v124 :: v125 :: v126 :: v127 :: v128 :: v129 :: v130 :: v131 :: v132 :: v133 :: v134 :: v135 :: v136 :: v137 :: v138 :: v139 :: v140 :: v141 :: v142 :: v143 :: v144 :: v145 :: v146 :: v147 :: v148 :: v149 :: v150 :: v151 :: v152 :: v153 :: v154 :: v155 :: v156 :: v157 :: v158 :: v159 :: v160 :: v161 :: v162 :: v163 :: v164 :: v165 :: v166 :: f167 :: f168 :: f169 :: f170 :: [] : List Value).toArray, []⟩ w') :
    Code.wp Tryd.prog bodyWalked (Exit.then K Q0) ⟨(.slice Ab nb cb :: .slice As ns cs :: f2 :: f3 :: f4 :: f5 :: f6 :: f7 :: .pointer (some ⟨gf, 0, none⟩) :: f9 :: .bool opn :: f11 :: av :: ov :: kv :: .int .i64 (k : Int) :: u16 :: u17 :: u18 :: u19 :: f20 :: f21 :: f22 :: f23 :: f24 :: f25 :: f26 :: f27 :: f28 :: f29 :: f30 :: f31 :: f32 :: f33 :: f34 :: u35 :: u36 :: u37 :: u38 :: u39 :: u40 :: u41 :: u42 :: u43 :: u44 :: u45 :: u46 :: u47 :: u48 :: u49 :: u50 :: u51 :: u52 :: u53 :: u54 :: u55 :: u56 :: u57 :: u58 :: u59 :: u60 :: u61 :: u62 :: u63 :: u64 :: u65 :: u66 :: u67 :: u68 :: u69 :: u70 :: u71 :: u72 :: u73 :: u74 :: u75 :: u76 :: u77 :: u78 :: u79 :: u80 :: u81 :: u82 :: u83 :: u84 :: u85 :: u86 :: u87 :: u88 :: u89 :: u90 :: u91 :: u92 :: u93 :: u94 :: u95 :: u96 :: u97 :: u98 :: u99 :: u100 :: u101 :: u102 :: u103 :: u104 :: u105 :: u106 :: u107 :: u108 :: u109 :: u110 :: u111 :: u112 :: u113 :: u114 :: u115 :: u116 :: u117 :: u118 :: u119 :: u120 :: u121 :: u122 :: u123 :: u124 :: u125 :: u126 :: u127 :: u128 :: u129 :: u130 :: u131 :: u132 :: u133 :: u134 :: u135 :: u136 :: u137 :: u138 :: u139 :: u140 :: u141 :: u142 :: u143 :: u144 :: u145 :: u146 :: u147 :: u148 :: u149 :: u150 :: u151 :: u152 :: u153 :: u154 :: u155 :: u156 :: u157 :: u158 :: u159 :: u160 :: u161 :: u162 :: u163 :: u164 :: u165 :: u166 :: f167 :: f168 :: f169 :: f170 :: [] : List Value).toArray, []⟩ w := by
  have hI : (k : Int) < ns := by omega
  have hwB := C.bw
  have hwu := C.up.size
  have hB0 := C.hB0
  obtain ⟨sb, so, rfl, hsb, hcell⟩ := hS (by rintro rfl; simp at hst; omega)
  obtain ⟨ho1, ho2⟩ := hcell k (by omega)
  rw [hstep] at ho1 ho2
  replace ho1 := (C.up.cell (p := ⟨sb, so + k * 2, none⟩) (by show sb < _; omega) (by simp)).trans ho1
  replace ho2 := (C.up.cell (p := ⟨sb, so + k * 2 + 1, none⟩) (by show sb < _; omega) (by simp)).trans ho2
  clear hcell hS hstep
  replace hK := hide hK
  obtain ⟨Ak, ck, rfl⟩ := own_shape C.kinds
  obtain ⟨Aa, ca, rfl⟩ := own_shape C.around
  obtain ⟨Ao, co, rfl⟩ := own_shape C.outs.row
  have hsbw : ¬ sb = w.heap.size := by omega
  have hol : (out.length : Int) ≤ 1048576 := by have h1 : out.length ≤ k := J.ol; omega
  have hgl : (gs.length : Int) ≤ 1048576 := by have h1 : ar.length ≤ k := J.al; rw [C.files.len]; omega
  have hkl : (kinds.length : Int) ≤ 1048577 := by have h1 : kinds.length = k + 1 := J.kl; omega
  obtain ⟨hop0, hop1⟩ := hop
  obtain ⟨hnI0, hnI1⟩ := hnI
  have hfl := C.f.lt
  have hfn : ¬ gf = w.heap.size := by omega
  have hfB := C.ge gf (by simp)
  have c3 : w.cell? ⟨gf, 3, none⟩ = some (.bool f.hand) := by obtain ⟨_, _, _, _, h1, _⟩ := C.f.h; exact h1.cell 3
  replace J := hide J
  replace hdv := hide hdv
  subst hop
  obtain ⟨Af, cf, Ad, cd, hBf, q2, q3, q4, q5, q6, q7⟩ := C.f.h
  obtain ⟨q, o, rfl⟩ := q7 hh
  have hFI := J.out.f
  have hrd : f.rd ≤ f.data.length := hFI.rd
  have hdl : f.data.length ≤ nb := hFI.dl
  have hlen : f.ck.len < 4294967296 := hFI.len
  have hll : f.left.length = f.data.length - f.rd := List.length_drop
  obtain ⟨ad, had, hadm⟩ : ∃ ad : Addr, (if cd = f.rd then some (⟨q, o, none⟩ : Addr) else some ⟨q, o + f.rd, none⟩) = some ad ∧ (f.rd < f.data.length → some ad = some (⟨q, o + f.rd, none⟩ : Addr)) := by
    by_cases hrc : cd = f.rd
    · exact ⟨⟨q, o, none⟩, by rw [if_pos hrc], fun h => by omega⟩
    · exact ⟨⟨q, o + f.rd, none⟩, by rw [if_neg hrc], fun _ => rfl⟩
  have hRl : Rd .u8 w B (some ad) (ofNr f.left) := rd_drop q5 hadm
  have cL := fun (W : World) (u : Upd [] w W) => listed_any (some ad) (cd - f.rd) B f.ck.len f.left W (hRl.upd u hwB (by simp)) (by omega) (by omega) (by omega) (Nat.le_trans hwB u.size)
  rw [hll] at cL
  have d8 : w.cell? ⟨gf, 8, none⟩ = some (.int .i64 (f.ck.len : Nat)) := hBf.cell 8
  have d11 : w.cell? ⟨gf, 11, none⟩ = some (.slice (some ⟨q, o, none⟩) f.data.length cd) := hBf.cell 11
  have d12 : w.cell? ⟨gf, 12, none⟩ = some (.int .i64 (f.rd : Nat)) := hBf.cell 12
  have s1 : (0 : Int) ≤ (f.rd : Int) := by omega
  have s2 : (f.rd : Int) ≤ (f.data.length : Int) := by omega
  have s3 : (f.data.length : Int) ≤ (cd : Int) := by omega
  have hlenI : (f.ck.len : Int) ≤ 4294967295 := by omega
  rw [hh] at c3
  replace cL := hide cL
  replace hll := hide hll
  replace hh := hide hh
  replace hFI := hide hFI
  clear hBf q2 q3 q4 q5 q6 q7 hRl hadm hrd hdl hlen
  conv => arg 2; whnf
  go_upto_region 25 with fail
  have uW := hide ((Upd.refl [] w).alloc (.cells #[.int .i64 2, .int .i64 n] 78))
  have e8 : (w.alloc (.cells #[.int .i64 2, .int .i64 n] 78)).cell? ⟨gf, 8, none⟩ = some (.int .i64 (f.ck.len : Nat)) := (uW.out.cell (p := ⟨gf, 8, none⟩) hfl (by simp)).trans d8
  have e11 : (w.alloc (.cells #[.int .i64 2, .int .i64 n] 78)).cell? ⟨gf, 11, none⟩ = some (.slice (some ⟨q, o, none⟩) f.data.length cd) := (uW.out.cell (p := ⟨gf, 11, none⟩) hfl (by simp)).trans d11
  have e12 : (w.alloc (.cells #[.int .i64 2, .int .i64 n] 78)).cell? ⟨gf, 12, none⟩ = some (.int .i64 (f.rd : Nat)) := (uW.out.cell (p := ⟨gf, 12, none⟩) hfl (by simp)).trans d12
  have Cw := hide (C.alloc (.cells #[.int .i64 2, .int .i64 n] 78))
  clear c3 ho1 ho2 hsbw hwu C
  have hwzS : w.heap.size < (w.alloc (.cells #[.int .i64 2, .int .i64 n] 78)).heap.size := by simp
  generalize w.alloc (.cells #[.int .i64 2, .int .i64 n] 78) = wS at *
  have kS : wS.drew.cell? ⟨gf, 8, none⟩ = some (.int .i64 (f.ck.len : Nat)) ∧ wS.drew.cell? ⟨gf, 11, none⟩ = some (.slice (some ⟨q, o, none⟩) f.data.length cd) ∧ wS.drew.cell? ⟨gf, 12, none⟩ = some (.int .i64 (f.rd : Nat)) := ⟨e8, e11, e12⟩
  go_region_held3 (fun W => W.cell? ⟨gf, 8, none⟩ = some (.int .i64 (f.ck.len : Nat)) ∧ W.cell? ⟨gf, 11, none⟩ = some (.slice (some ⟨q, o, none⟩) f.data.length cd) ∧ W.cell? ⟨gf, 12, none⟩ = some (.int .i64 (f.rd : Nat))) (first | with_reducible exact kT | with_reducible exact kS) (first
    | (go_at_call 34; (with_reducible refine (cL.out _ uW.out.drew).mono ?_); rintro e w1 ⟨hu1, hN1⟩; have kT : w1.cell? ⟨gf, 8, none⟩ = some (.int .i64 (f.ck.len : Nat)) ∧ w1.cell? ⟨gf, 11, none⟩ = some (.slice (some ⟨q, o, none⟩) f.data.length cd) ∧ w1.cell? ⟨gf, 12, none⟩ = some (.int .i64 (f.rd : Nat)) := ⟨(hu1.cell (p := ⟨gf, 8, none⟩) (Nat.lt_trans hfl hwzS) (by simp)).trans e8, (hu1.cell (p := ⟨gf, 11, none⟩) (Nat.lt_trans hfl hwzS) (by simp)).trans e11, (hu1.cell (p := ⟨gf, 12, none⟩) (Nat.lt_trans hfl hwzS) (by simp)).trans e12⟩; replace hu1 := hide hu1; rcases hN1 with ⟨_, rfl⟩ | ⟨hno, _⟩; rotate_left; exact absurd hl hno))
  have g8 := kT.1
  have C1 := hide (Cw.out.quiet ((Upd.refl [] wS).drew.trans hu1.out))
  clear kT kS e8 e11 e12 d8 d11 d12 Cw
  by_cases h4 : 4 ≤ f.ck.len
  · have h4I : (4 : Int) ≤ (f.ck.len : Int) := by omega
    have hd : decide (4 ≤ f.ck.len) = true := decide_eq_true h4
    rw [hd] at hK
    cases opn with
    | false =>
      have Cq := hide (C1.out)
      go_upto_region 35 with fail
      have hwq : B ≤ (w1).heap.size := Cq.out.bw
      generalize w1 = wq at *
      go_wp2_with (refine wpList_push rfl (.tmp 163) (.tmp 165) 36 rfl B 3 (.int .i64 0) 8 Tryd.underlying36 info_intr rfl (.slice Ak kinds.length ck) kinds.length (kinds.map (Value.int .i64)) rfl Cq.out.kinds (.int .i64 2) rfl rfl (by simp only [maxLen]; omega) (by omega) hwq ?_; intro kv' w9 hk9 hg9; obtain ⟨Ak9, ck9, rfl⟩ := own_shape hk9; replace hk9 := hide hk9; replace hg9 := hide hg9)
      have hC9 := Cq.out.tell hk9.out hg9.out
      exact hK.out _ _ _ _ _ _ _ _ _ _ _ _ _ _ _ _ _ _ _ _ _ _ _ _ _ _ _ _ _ _ _ _ _ _ _ _ _ _ _ _ _ _ _ _ _ _ _ _ _ _ _ _ _ _ _ _ _ _ _ _ _ _ _ _ _ _ _ _ _ _ _ _ _ _ _ _ _ _ _ _ _ _ _ _ _ _ _ _ _ _ _ _ _ _ _ _ _ _ _ _ _ _ _ _ _ _ _ _ _ _ _ _ _ _ _ _ _ _ _ _ _ _ _ _ _ _ _ _ _ _ _ _ _ _ _ _ _ _ _ _ _ _ _ _ hC9 (hdv.out)
    | true =>
      have Cq := hide (C1.out)
      go_upto_region 35 with fail
      have hwq : B ≤ (w1).heap.size := Cq.out.bw
      generalize w1 = wq at *
      go_wp2_with (refine wpList_push rfl (.tmp 163) (.tmp 165) 36 rfl B 3 (.int .i64 0) 8 Tryd.underlying36 info_intr rfl (.slice Ak kinds.length ck) kinds.length (kinds.map (Value.int .i64)) rfl Cq.out.kinds (.int .i64 2) rfl rfl (by simp only [maxLen]; omega) (by omega) hwq ?_; intro kv' w9 hk9 hg9; obtain ⟨Ak9, ck9, rfl⟩ := own_shape hk9; replace hk9 := hide hk9; replace hg9 := hide hg9)
      have hC9 := Cq.out.tell hk9.out hg9.out
      exact hK.out _ _ _ _ _ _ _ _ _ _ _ _ _ _ _ _ _ _ _ _ _ _ _ _ _ _ _ _ _ _ _ _ _ _ _ _ _ _ _ _ _ _ _ _ _ _ _ _ _ _ _ _ _ _ _ _ _ _ _ _ _ _ _ _ _ _ _ _ _ _ _ _ _ _ _ _ _ _ _ _ _ _ _ _ _ _ _ _ _ _ _ _ _ _ _ _ _ _ _ _ _ _ _ _ _ _ _ _ _ _ _ _ _ _ _ _ _ _ _ _ _ _ _ _ _ _ _ _ _ _ _ _ _ _ _ _ _ _ _ _ _ _ _ _ hC9 (hdv.out)
  · have h4I : ¬ (4 : Int) ≤ (f.ck.len : Int) := by omega
    have hd : decide (4 ≤ f.ck.len) = false := decide_eq_false h4
    rw [hd] at hK
    cases opn with
    | false =>
      have Cq := hide (C1.out)
      go_upto_region 35 with fail
      have hwq : B ≤ (w1).heap.size := Cq.out.bw
      generalize w1 = wq at *
      go_wp2_with (refine wpList_push rfl (.tmp 163) (.tmp 165) 36 rfl B 3 (.int .i64 0) 8 Tryd.underlying36 info_intr rfl (.slice Ak kinds.length ck) kinds.length (kinds.map (Value.int .i64)) rfl Cq.out.kinds (.int .i64 2) rfl rfl (by simp only [maxLen]; omega) (by omega) hwq ?_; intro kv' w9 hk9 hg9; obtain ⟨Ak9, ck9, rfl⟩ := own_shape hk9; replace hk9 := hide hk9; replace hg9 := hide hg9)
      have hC9 := Cq.out.tell hk9.out hg9.out
      exact hK.out _ _ _ _ _ _ _ _ _ _ _ _ _ _ _ _ _ _ _ _ _ _ _ _ _ _ _ _ _ _ _ _ _ _ _ _ _ _ _ _ _ _ _ _ _ _ _ _ _ _ _ _ _ _ _ _ _ _ _ _ _ _ _ _ _ _ _ _ _ _ _ _ _ _ _ _ _ _ _ _ _ _ _ _ _ _ _ _ _ _ _ _ _ _ _ _ _ _ _ _ _ _ _ _ _ _ _ _ _ _ _ _ _ _ _ _ _ _ _ _ _ _ _ _ _ _ _ _ _ _ _ _ _ _ _ _ _ _ _ _ _ _ _ _ hC9 (hdv.out)
    | true =>
      have Cq := hide (C1.out)
      go_upto_region 35 with fail
      have hwq : B ≤ (w1).heap.size := Cq.out.bw
      generalize w1 = wq at *
      go_wp2_with (refine wpList_push rfl (.tmp 163) (.tmp 165) 36 rfl B 3 (.int .i64 0) 8 Tryd.underlying36 info_intr rfl (.slice Ak kinds.length ck) kinds.length (kinds.map (Value.int .i64)) rfl Cq.out.kinds (.int .i64 2) rfl rfl (by simp only [maxLen]; omega) (by omega) hwq ?_; intro kv' w9 hk9 hg9; obtain ⟨Ak9, ck9, rfl⟩ := own_shape hk9; replace hk9 := hide hk9; replace hg9 := hide hg9)
      have hC9 := Cq.out.tell hk9.out hg9.out
      exact hK.out _ _ _ _ _ _ _ _ _ _ _ _ _ _ _ _ _ _ _ _ _ _ _ _ _ _ _ _ _ _ _ _ _ _ _ _ _ _ _ _ _ _ _ _ _ _ _ _ _ _ _ _ _ _ _ _ _ _ _ _ _ _ _ _ _ _ _ _ _ _ _ _ _ _ _ _ _ _ _ _ _ _ _ _ _ _ _ _ _ _ _ _ _ _ _ _ _ _ _ _ _ _ _ _ _ _ _ _ _ _ _ _ _ _ _ _ _ _ _ _ _ _ _ _ _ _ _ _ _ _ _ _ _ _ _ _ _ _ _ _ _ _ _ _ hC9 (hdv.out)
end Go.Proofs.YthkpoidnhgcjhaaDoor

namespace Go.Proofs.YthkpoidnhgcjhaaDoor
set_option linter.unusedSimpArgs false
set_option linter.unusedVariables false
set_option linter.unnecessarySimpa false
open Go.RowKit Plain

set_option maxRecDepth 1000000 in
set_option maxHeartbeats 8000000 in
theorem wway_listk {f2 f3 f4 f5 f6 f7 f9 f11 f20 f21 f22 f23 f24 f25 f26 f27 f28 f29 f30 f31 f32 f33 f34 f167 f168 f169 f170 u16 u17 u18 u19 u35 u36 u37 u38 u39 u40 u41 u42 u43 u44 u45 u46 u47 u48 u49 u50 u51 u52 u53 u54 u55 u56 u57 u58 u59 u60 u61 u62 u63 u64 u65 u66 u67 u68 u69 u70 u71 u72 u73 u74 u75 u76 u77 u78 u79 u80 u81 u82 u83 u84 u85 u86 u87 u88 u89 u90 u91 u92 u93 u94 u95 u96 u97 u98 u99 u100 u101 u102 u103 u104 u105 u106 u107 u108 u109 u110 u111 u112 u113 u114 u115 u116 u117 u118 u119 u120 u121 u122 u123 u124 u125 u126 u127 u128 u129 u130 u131 u132 u133 u134 u135 u136 u137 u138 u139 u140 u141 u142 u143 u144 u145 u146 u147 u148 u149 u150 u151 u152 u153 u154 u155 u156 u157 u158 u159 u160 u161 u162 u163 u164 u165 u166 : Value} (K : Act → World → Prop) (Q0 : Exit → Act → World → Prop) (w0 w : World) (Ab As : Option Addr) (B nb cb ns cs k fb rb gf : Nat) (gs : List Nat) (dv : Value) (V : Nat → Value) (form z4 : Array Value) (kv ov av : Value) (steps : List (Int × Int)) (op n : Int)
    (f : SF) (ar : List SF) (out : List Ck) (kinds : List Int) (opn : Bool) (hop : op = 2) (hh : f.hand = true) (hl : ¬ (f.ck.len < 4 ∨ f.left.length < 4))
    (hns : (ns : Int) ≤ 1048576) (hnb : (nb : Int) ≤ 1073741824) (hk : k < ns) (hst : steps.length = ns) (hS : RdS w0 B As steps) (hstep : steps.getD k (0, 0) = (op, n)) (hop : -9223372036854775808 ≤ op ∧ op ≤ 9223372036854775807) (hnI : -9223372036854775808 ≤ n ∧ n ≤ 9223372036854775807)
    (J : SJ nb k ⟨f, ar, out, kinds, opn⟩) (C : SX w0 w B gf gs dv V fb rb form z4 f ar out kinds kv ov av) (hdv : f.hand = true → dv = V (out.length - 1))
    (hK : ∀ (v16 v17 v18 v19 v35 v36 v37 v38 v39 v40 v41 v42 v43 v44 v45 v46 v47 v48 v49 v50 v51 v52 v53 v54 v55 v56 v57 v58 v59 v60 v61 v62 v63 v64 v65 v66 v67 v68 v69 v70 v71 v72 v73 v74 v75 v76 v77 v78 v79 v80 v81 v82 v83 v84 v85 v86 v87 v88 v89 v90 v91 v92 v93 v94 v95 v96 v97 v98 v99 v100 v101 v102 v103 v104 v105 v106 v107 v108 v109 v110 v111 v112 v113 v114 v115 v116 v117 v118 v119 v120 v121 v122 v123 v124 v125 v126 v127 v128 v129 v130 v131 v132 v133 v134 v135 v136 v137 v138 v139 v140 v141 v142 v143 v144 v145 v146 v147 v148 v149 v150 v151 v152 v153 v154 v155 v156 v157 v158 v159 v160 v161 v162 v163 v164 v165 v166 kv' ov' av' : Value) (gf' : Nat) (gs' : List Nat) (dv' : Value) (V' : Nat → Value) (w' : World), SX w0 w' B gf' gs' dv' V' fb rb form z4 (sSub f.ck.len f.left) (f :: ar) (out) (kinds ++ [0]) kv' ov' av' → ((sSub f.ck.len f.left).hand = true → dv' = V' ((out).length - 1)) → K ⟨(.slice Ab nb cb :: .slice As ns cs :: f2 :: f3 :: f4 :: f5 :: f6 :: f7 :: .pointer (some ⟨gf', 0, none⟩) :: f9 :: .bool opn :: f11 :: av' :: ov' :: kv' :: .int .i64 ((k + 1 : Nat) : Int) :: v16 :: v17 :: v18 :: v19 :: f20 :: f21 :: f22 :: f23 :: f24 :: f25 :: f26 :: f27 :: f28 :: f29 :: f30 :: f31 :: f32 :: f33 :: f34 :: v35 :: v36 :: v37 :: v38 :: v39 :: v40 :: v41 :: v42 :: v43 :: v44 :: v45 :: v46 :: v47 :: v48 :: v49 :: v50 :: v51 :: v52 :: v53 :: v54 :: v55 :: v56 :: v57 :: v58 :: v59 :: v60 :: v61 :: v62 :: v63 :: v64 :: v65 :: v66 :: v67 :: v68 :: v69 :: v70 :: v71 :: v72 :: v73 :: v74 :: v75 :: v76 :: v77 :: v78 :: v79 :: v80 :: v81 :: v82 :: v83 :: v84 :: v85 :: v86 :: v87 :: v88 :: v89 :: v90 :: v91 :: v92 :: v93 :: v94 :: v95 :: v96 :: v97 :: v98 :: v99 :: v100 :: v101 :: v102 :: v103 :: v104 :: v105 :: v106 :: v107 :: v108 :: v109 :: v110 :: v111 :: v112 :: v113 :: v114 :: v115 :: v116 :: v117 :: v118 :: v119 :: v120 :: v121 :: v122 :: v123 :: v124 :: v125 :: v126 :: v127 :: v128 :: v129 :: v130 :: v131 :: v132 :: v133 :: v134 :: v135 :: v136 :: v137 :: v138 :: v139 :: v140 :: v141 :: v142 :: v143 :: v144 :: v145 :: v146 :: v147 :: v148 :: v149 :: v150 :: v151 :: v152 :: v153 :: v154 :: v155 :: v156 :: v157 :: v158 :: v159 :: v160 :: v161 :: v162 :: v163 :: v164 :: v165 :: v166 :: f167 :: f168 :: f169 :: f170 :: [] : List Value).toArray, []⟩ w') :
    Code.wp Tryd.prog bodyWalked (Exit.then K Q0) ⟨(.slice Ab nb cb :: .slice As ns cs :: f2 :: f3 :: f4 :: f5 :: f6 :: f7 :: .pointer (some ⟨gf, 0, none⟩) :: f9 :: .bool opn :: f11 :: av :: ov :: kv :: .int .i64 (k : Int) :: u16 :: u17 :: u18 :: u19 :: f20 :: f21 :: f22 :: f23 :: f24 :: f25 :: f26 :: f27 :: f28 :: f29 :: f30 :: f31 :: f32 :: f33 :: f34 :: u35 :: u36 :: u37 :: u38 :: u39 :: u40 :: u41 :: u42 :: u43 :: u44 :: u45 :: u46 :: u47 :: u48 :: u49 :: u50 :: u51 :: u52 :: u53 :: u54 :: u55 :: u56 :: u57 :: u58 :: u59 :: u60 :: u61 :: u62 :: u63 :: u64 :: u65 :: u66 :: u67 :: u68 :: u69 :: u70 :: u71 :: u72 :: u73 :: u74 :: u75 :: u76 :: u77 :: u78 :: u79 :: u80 :: u81 :: u82 :: u83 :: u84 :: u85 :: u86 :: u87 :: u88 :: u89 :: u90 :: u91 :: u92 :: u93 :: u94 :: u95 :: u96 :: u97 :: u98 :: u99 :: u100 :: u101 :: u102 :: u103 :: u104 :: u105 :: u106 :: u107 :: u108 :: u109 :: u110 :: u111 :: u112 :: u113 :: u114 :: u115 :: u116 :: u117 :: u118 :: u119 :: u120 :: u121 :: u122 :: u123 :: u124 :: u125 :: u126 :: u127 :: u128 :: u129 :: u130 :: u131 :: u132 :: u133 :: u134 :: u135 :: u136 :: u137 :: u138 :: u139 :: u140 :: u141 :: u142 :: u143 :: u144 :: u145 :: u146 :: u147 :: u148 :: u149 :: u150 :: u151 :: u152 :: u153 :: u154 :: u155 :: u156 :: u157 :: u158 :: u159 :: u160 :: u161 :: u162 :: u163 :: u164 :: u165 :: u166 :: f167 :: f168 :: f169 :: f170 :: [] : List Value).toArray, []⟩ w := by
  have hI : (k : Int) < ns := by omega
  have hwB := C.bw
  have hwu := C.up.size
  have hB0 := C.hB0
  obtain ⟨sb, so, rfl, hsb, hcell⟩ := hS (by rintro rfl; simp at hst; omega)
  obtain ⟨ho1, ho2⟩ := hcell k (by omega)
  rw [hstep] at ho1 ho2
  replace ho1 := (C.up.cell (p := ⟨sb, so + k * 2, none⟩) (by show sb < _; omega) (by simp)).trans ho1
  replace ho2 := (C.up.cell (p := ⟨sb, so + k * 2 + 1, none⟩) (by show sb < _; omega) (by simp)).trans ho2
  clear hcell hS hstep
  replace hK := hide hK
  obtain ⟨Ak, ck, rfl⟩ := own_shape C.kinds
  obtain ⟨Aa, ca, rfl⟩ := own_shape C.around
  obtain ⟨Ao, co, rfl⟩ := own_shape C.outs.row
  have hsbw : ¬ sb = w.heap.size := by omega
  have hol : (out.length : Int) ≤ 1048576 := by have h1 : out.length ≤ k := J.ol; omega
  have hgl : (gs.length : Int) ≤ 1048576 := by have h1 : ar.length ≤ k := J.al; rw [C.files.len]; omega
  have hkl : (kinds.length : Int) ≤ 1048577 := by have h1 : kinds.length = k + 1 := J.kl; omega
  obtain ⟨hop0, hop1⟩ := hop
  obtain ⟨hnI0, hnI1⟩ := hnI
  have hfl := C.f.lt
  have hfn : ¬ gf = w.heap.size := by omega
  have hfB := C.ge gf (by simp)
  have c3 : w.cell? ⟨gf, 3, none⟩ = some (.bool f.hand) := by obtain ⟨_, _, _, _, h1, _⟩ := C.f.h; exact h1.cell 3
  replace J := hide J
  replace hdv := hide hdv
  subst hop
  obtain ⟨Af, cf, Ad, cd, hBf, q2, q3, q4, q5, q6, q7⟩ := C.f.h
  obtain ⟨q, o, rfl⟩ := q7 hh
  have hFI := J.out.f
  have hrd : f.rd ≤ f.data.length := hFI.rd
  have hdl : f.data.length ≤ nb := hFI.dl
  have hlen : f.ck.len < 4294967296 := hFI.len
  have hll : f.left.length = f.data.length - f.rd := List.length_drop
  obtain ⟨ad, had, hadm⟩ : ∃ ad : Addr, (if cd = f.rd then some (⟨q, o, none⟩ : Addr) else some ⟨q, o + f.rd, none⟩) = some ad ∧ (f.rd < f.data.length → some ad = some (⟨q, o + f.rd, none⟩ : Addr)) := by
    by_cases hrc : cd = f.rd
    · exact ⟨⟨q, o, none⟩, by rw [if_pos hrc], fun h => by omega⟩
    · exact ⟨⟨q, o + f.rd, none⟩, by rw [if_neg hrc], fun _ => rfl⟩
  have hRl : Rd .u8 w B (some ad) (ofNr f.left) := rd_drop q5 hadm
  have cL := fun (W : World) (u : Upd [] w W) => listed_any (some ad) (cd - f.rd) B f.ck.len f.left W (hRl.upd u hwB (by simp)) (by omega) (by omega) (by omega) (Nat.le_trans hwB u.size)
  rw [hll] at cL
  have d8 : w.cell? ⟨gf, 8, none⟩ = some (.int .i64 (f.ck.len : Nat)) := hBf.cell 8
  have d11 : w.cell? ⟨gf, 11, none⟩ = some (.slice (some ⟨q, o, none⟩) f.data.length cd) := hBf.cell 11
  have d12 : w.cell? ⟨gf, 12, none⟩ = some (.int .i64 (f.rd : Nat)) := hBf.cell 12
  have s1 : (0 : Int) ≤ (f.rd : Int) := by omega
  have s2 : (f.rd : Int) ≤ (f.data.length : Int) := by omega
  have s3 : (f.data.length : Int) ≤ (cd : Int) := by omega
  have hlenI : (f.ck.len : Int) ≤ 4294967295 := by omega
  rw [hh] at c3
  replace cL := hide cL
  replace hll := hide hll
  replace hh := hide hh
  replace hFI := hide hFI
  clear hBf q2 q3 q4 q5 q6 q7 hRl hadm hrd hdl hlen
  conv => arg 2; whnf
  go_upto_region 25 with fail
  have uW := hide ((Upd.refl [] w).alloc (.cells #[.int .i64 2, .int .i64 n] 78))
  have e8 : (w.alloc (.cells #[.int .i64 2, .int .i64 n] 78)).cell? ⟨gf, 8, none⟩ = some (.int .i64 (f.ck.len : Nat)) := (uW.out.cell (p := ⟨gf, 8, none⟩) hfl (by simp)).trans d8
  have e11 : (w.alloc (.cells #[.int .i64 2, .int .i64 n] 78)).cell? ⟨gf, 11, none⟩ = some (.slice (some ⟨q, o, none⟩) f.data.length cd) := (uW.out.cell (p := ⟨gf, 11, none⟩) hfl (by simp)).trans d11
  have e12 : (w.alloc (.cells #[.int .i64 2, .int .i64 n] 78)).cell? ⟨gf, 12, none⟩ = some (.int .i64 (f.rd : Nat)) := (uW.out.cell (p := ⟨gf, 12, none⟩) hfl (by simp)).trans d12
  have Cw := hide (C.alloc (.cells #[.int .i64 2, .int .i64 n] 78))
  clear c3 ho1 ho2 hsbw hwu C
  have hwzS : w.heap.size < (w.alloc (.cells #[.int .i64 2, .int .i64 n] 78)).heap.size := by simp
  generalize w.alloc (.cells #[.int .i64 2, .int .i64 n] 78) = wS at *
  have kS : wS.drew.cell? ⟨gf, 8, none⟩ = some (.int .i64 (f.ck.len : Nat)) ∧ wS.drew.cell? ⟨gf, 11, none⟩ = some (.slice (some ⟨q, o, none⟩) f.data.length cd) ∧ wS.drew.cell? ⟨gf, 12, none⟩ = some (.int .i64 (f.rd : Nat)) := ⟨e8, e11, e12⟩
  go_region_held3 (fun W => W.cell? ⟨gf, 8, none⟩ = some (.int .i64 (f.ck.len : Nat)) ∧ W.cell? ⟨gf, 11, none⟩ = some (.slice (some ⟨q, o, none⟩) f.data.length cd) ∧ W.cell? ⟨gf, 12, none⟩ = some (.int .i64 (f.rd : Nat))) (first | with_reducible exact kT | with_reducible exact kS) (first
    | (go_at_call 34; (with_reducible refine (cL.out _ uW.out.drew).mono ?_); rintro e w1 ⟨hu1, hN1⟩; have kT : w1.cell? ⟨gf, 8, none⟩ = some (.int .i64 (f.ck.len : Nat)) ∧ w1.cell? ⟨gf, 11, none⟩ = some (.slice (some ⟨q, o, none⟩) f.data.length cd) ∧ w1.cell? ⟨gf, 12, none⟩ = some (.int .i64 (f.rd : Nat)) := ⟨(hu1.cell (p := ⟨gf, 8, none⟩) (Nat.lt_trans hfl hwzS) (by simp)).trans e8, (hu1.cell (p := ⟨gf, 11, none⟩) (Nat.lt_trans hfl hwzS) (by simp)).trans e11, (hu1.cell (p := ⟨gf, 12, none⟩) (Nat.lt_trans hfl hwzS) (by simp)).trans e12⟩; replace hu1 := hide hu1; rcases hN1 with ⟨hyes, _⟩ | ⟨_, gn, hgn, rfl, hFn⟩; exact absurd hyes hl))
  clear kT kS e8 e11 e12 d8 d11 d12
  have hgn' : wS.heap.size ≤ gn := hgn
  have C1 := hide (Cw.out.quiet ((Upd.refl [] wS).drew.trans hu1.out))
  have hw1 : B ≤ w1.heap.size := C1.out.bw
  have hcap := own_cap C1.out.around
  go_upto_region 35 with (first
    | (refine wpList_push rfl (.tmp 135) (.tmp 137) 98 rfl B 93 (.pointer none) 8 Tryd.underlying98 info_fp rfl (.slice Aa gs.length ca) gs.length (pCs gs) rfl C1.out.around (.pointer (some ⟨gf, 0, none⟩)) rfl rfl (by simp only [maxLen]; omega) (by omega) hw1 ?_; intro av3 w3 ho3 hg3; obtain ⟨Aa3, ca3, rfl⟩ := own_shape ho3; replace ho3 := hide ho3; replace hg3 := hide hg3)
    | fail)
  have C3 := hide (Cw.out.sub ((Upd.refl [] wS).drew.trans hu1.out) hgn' hFn hg3.out ho3.out)
  clear C1 Cw ho3 hg3 hFn hu1
  have Cq := hide (C3.out)
  have hwq : B ≤ (w3).heap.size := Cq.out.bw
  generalize w3 = wq at *
  go_wp2_with (refine wpList_push rfl (.tmp 163) (.tmp 165) 36 rfl B 3 (.int .i64 0) 8 Tryd.underlying36 info_intr rfl (.slice Ak kinds.length ck) kinds.length (kinds.map (Value.int .i64)) rfl Cq.out.kinds (.int .i64 0) rfl rfl (by simp only [maxLen]; omega) (by omega) hwq ?_; intro kv' w9 hk9 hg9; obtain ⟨Ak9, ck9, rfl⟩ := own_shape hk9; replace hk9 := hide hk9; replace hg9 := hide hg9)
  have hC9 := Cq.out.tell hk9.out hg9.out
  exact hK.out _ _ _ _ _ _ _ _ _ _ _ _ _ _ _ _ _ _ _ _ _ _ _ _ _ _ _ _ _ _ _ _ _ _ _ _ _ _ _ _ _ _ _ _ _ _ _ _ _ _ _ _ _ _ _ _ _ _ _ _ _ _ _ _ _ _ _ _ _ _ _ _ _ _ _ _ _ _ _ _ _ _ _ _ _ _ _ _ _ _ _ _ _ _ _ _ _ _ _ _ _ _ _ _ _ _ _ _ _ _ _ _ _ _ _ _ _ _ _ _ _ _ _ _ _ _ _ _ _ _ _ _ _ _ _ _ _ _ _ _ _ _ _ _ hC9 (fun e => absurd e (by simp [sSub]))
end Go.Proofs.YthkpoidnhgcjhaaDoor

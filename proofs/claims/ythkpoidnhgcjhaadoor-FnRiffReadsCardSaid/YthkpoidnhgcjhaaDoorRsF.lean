/- 'walked', 'Riff', 'RiffTold' of the reference; 'asked', 'likened' of the law. -/
import Derived.Test.YthkpoidnhgcjhaaDoorRsD
import Derived.Test.YthkpoidnhgcjhaaDoorRsE
namespace Go.Proofs.YthkpoidnhgcjhaaDoor
set_option linter.unusedSimpArgs false
set_option linter.unusedVariables false
set_option linter.unnecessarySimpa false
open Go.RowKit Plain

set_option maxRecDepth 1000000 in
set_option maxHeartbeats 8000000 in
theorem wround {f2 f3 f4 f5 f6 f7 f9 f11 f20 f21 f22 f23 f24 f25 f26 f27 f28 f29 f30 f31 f32 f33 f34 f167 f168 f169 f170 u16 u17 u18 u19 u35 u36 u37 u38 u39 u40 u41 u42 u43 u44 u45 u46 u47 u48 u49 u50 u51 u52 u53 u54 u55 u56 u57 u58 u59 u60 u61 u62 u63 u64 u65 u66 u67 u68 u69 u70 u71 u72 u73 u74 u75 u76 u77 u78 u79 u80 u81 u82 u83 u84 u85 u86 u87 u88 u89 u90 u91 u92 u93 u94 u95 u96 u97 u98 u99 u100 u101 u102 u103 u104 u105 u106 u107 u108 u109 u110 u111 u112 u113 u114 u115 u116 u117 u118 u119 u120 u121 u122 u123 u124 u125 u126 u127 u128 u129 u130 u131 u132 u133 u134 u135 u136 u137 u138 u139 u140 u141 u142 u143 u144 u145 u146 u147 u148 u149 u150 u151 u152 u153 u154 u155 u156 u157 u158 u159 u160 u161 u162 u163 u164 u165 u166 : Value} (K : Act → World → Prop) (Q0 : Exit → Act → World → Prop) (w0 w : World) (Ab As : Option Addr) (B nb cb ns cs k fb rb gf : Nat) (gs : List Nat) (dv : Value) (V : Nat → Value) (form z4 : Array Value) (kv ov av : Value) (steps : List (Int × Int)) (op n : Int)
    (f : SF) (ar : List SF) (out : List Ck) (kinds : List Int) (opn : Bool)
    (hns : (ns : Int) ≤ 1048576) (hnb : (nb : Int) ≤ 1073741824) (hk : k < ns) (hst : steps.length = ns) (hS : RdS w0 B As steps) (hstep : steps.getD k (0, 0) = (op, n)) (hop : -9223372036854775808 ≤ op ∧ op ≤ 9223372036854775807) (hnI : -9223372036854775808 ≤ n ∧ n ≤ 9223372036854775807)
    (J : SJ nb k ⟨f, ar, out, kinds, opn⟩) (C : SX w0 w B gf gs dv V fb rb form z4 f ar out kinds kv ov av) (hdv : f.hand = true → dv = V (out.length - 1))
    (hK : ∀ (v16 v17 v18 v19 v35 v36 v37 v38 v39 v40 v41 v42 v43 v44 v45 v46 v47 v48 v49 v50 v51 v52 v53 v54 v55 v56 v57 v58 v59 v60 v61 v62 v63 v64 v65 v66 v67 v68 v69 v70 v71 v72 v73 v74 v75 v76 v77 v78 v79 v80 v81 v82 v83 v84 v85 v86 v87 v88 v89 v90 v91 v92 v93 v94 v95 v96 v97 v98 v99 v100 v101 v102 v103 v104 v105 v106 v107 v108 v109 v110 v111 v112 v113 v114 v115 v116 v117 v118 v119 v120 v121 v122 v123 v124 v125 v126 v127 v128 v129 v130 v131 v132 v133 v134 v135 v136 v137 v138 v139 v140 v141 v142 v143 v144 v145 v146 v147 v148 v149 v150 v151 v152 v153 v154 v155 v156 v157 v158 v159 v160 v161 v162 v163 v164 v165 v166 kv' ov' av' : Value) (gf' : Nat) (gs' : List Nat) (dv' : Value) (V' : Nat → Value) (w' : World), SX w0 w' B gf' gs' dv' V' fb rb form z4 ((sStep op n ⟨f, ar, out, kinds, opn⟩).f) ((sStep op n ⟨f, ar, out, kinds, opn⟩).ar) ((sStep op n ⟨f, ar, out, kinds, opn⟩).out) ((sStep op n ⟨f, ar, out, kinds, opn⟩).kinds) kv' ov' av' → (((sStep op n ⟨f, ar, out, kinds, opn⟩).f).hand = true → dv' = V' (((sStep op n ⟨f, ar, out, kinds, opn⟩).out).length - 1)) → K ⟨(.slice Ab nb cb :: .slice As ns cs :: f2 :: f3 :: f4 :: f5 :: f6 :: f7 :: .pointer (some ⟨gf', 0, none⟩) :: f9 :: .bool (sStep op n ⟨f, ar, out, kinds, opn⟩).opn :: f11 :: av' :: ov' :: kv' :: .int .i64 ((k + 1 : Nat) : Int) :: v16 :: v17 :: v18 :: v19 :: f20 :: f21 :: f22 :: f23 :: f24 :: f25 :: f26 :: f27 :: f28 :: f29 :: f30 :: f31 :: f32 :: f33 :: f34 :: v35 :: v36 :: v37 :: v38 :: v39 :: v40 :: v41 :: v42 :: v43 :: v44 :: v45 :: v46 :: v47 :: v48 :: v49 :: v50 :: v51 :: v52 :: v53 :: v54 :: v55 :: v56 :: v57 :: v58 :: v59 :: v60 :: v61 :: v62 :: v63 :: v64 :: v65 :: v66 :: v67 :: v68 :: v69 :: v70 :: v71 :: v72 :: v73 :: v74 :: v75 :: v76 :: v77 :: v78 :: v79 :: v80 :: v81 :: v82 :: v83 :: v84 :: v85 :: v86 :: v87 :: v88 :: v89 :: v90 :: v91 :: v92 :: v93 :: v94 :: v95 :: v96 :: v97 :: v98 :: v99 :: v100 :: v101 :: v102 :: v103 :: v104 :: v105 :: v106 :: v107 :: v108 :: v109 :: v110 :: v111 :: v112 :: v113 :: v114 :: v115 :: v116 :: v117 :: v118 :: v119 :: v120 :: v121 :: v122 :: v123 :: v124 :: v125 :: v126 :: v127 :: v128 :: v129 :: v130 :: v131 :: v132 :: v133 :: v134 :: v135 :: v136 :: v137 :: v138 :: v139 :: v140 :: v141 :: v142 :: v143 :: v144 :: v145 :: v146 :: v147 :: v148 :: v149 :: v150 :: v151 :: v152 :: v153 :: v154 :: v155 :: v156 :: v157 :: v158 :: v159 :: v160 :: v161 :: v162 :: v163 :: v164 :: v165 :: v166 :: f167 :: f168 :: f169 :: f170 :: [] : List Value).toArray, []⟩ w') :
    Code.wp Tryd.prog bodyWalked (Exit.then K Q0) ⟨(.slice Ab nb cb :: .slice As ns cs :: f2 :: f3 :: f4 :: f5 :: f6 :: f7 :: .pointer (some ⟨gf, 0, none⟩) :: f9 :: .bool opn :: f11 :: av :: ov :: kv :: .int .i64 (k : Int) :: u16 :: u17 :: u18 :: u19 :: f20 :: f21 :: f22 :: f23 :: f24 :: f25 :: f26 :: f27 :: f28 :: f29 :: f30 :: f31 :: f32 :: f33 :: f34 :: u35 :: u36 :: u37 :: u38 :: u39 :: u40 :: u41 :: u42 :: u43 :: u44 :: u45 :: u46 :: u47 :: u48 :: u49 :: u50 :: u51 :: u52 :: u53 :: u54 :: u55 :: u56 :: u57 :: u58 :: u59 :: u60 :: u61 :: u62 :: u63 :: u64 :: u65 :: u66 :: u67 :: u68 :: u69 :: u70 :: u71 :: u72 :: u73 :: u74 :: u75 :: u76 :: u77 :: u78 :: u79 :: u80 :: u81 :: u82 :: u83 :: u84 :: u85 :: u86 :: u87 :: u88 :: u89 :: u90 :: u91 :: u92 :: u93 :: u94 :: u95 :: u96 :: u97 :: u98 :: u99 :: u100 :: u101 :: u102 :: u103 :: u104 :: u105 :: u106 :: u107 :: u108 :: u109 :: u110 :: u111 :: u112 :: u113 :: u114 :: u115 :: u116 :: u117 :: u118 :: u119 :: u120 :: u121 :: u122 :: u123 :: u124 :: u125 :: u126 :: u127 :: u128 :: u129 :: u130 :: u131 :: u132 :: u133 :: u134 :: u135 :: u136 :: u137 :: u138 :: u139 :: u140 :: u141 :: u142 :: u143 :: u144 :: u145 :: u146 :: u147 :: u148 :: u149 :: u150 :: u151 :: u152 :: u153 :: u154 :: u155 :: u156 :: u157 :: u158 :: u159 :: u160 :: u161 :: u162 :: u163 :: u164 :: u165 :: u166 :: f167 :: f168 :: f169 :: f170 :: [] : List Value).toArray, []⟩ w := by
  by_cases a0 : op = 0
  · by_cases hz : (sNext f).1 = 0
    · have e : sStep op n ⟨f, ar, out, kinds, opn⟩ = ⟨(sNext f).2.at_ out.length, ar, out ++ [(sNext f).2.ck], kinds ++ [0], opn || (sNext f).2.odd⟩ := by unfold sStep; rw [if_pos a0, if_pos hz]
      rw [e] at hK
      exact wway_nextk K Q0 w0 w Ab As B nb cb ns cs k fb rb gf gs dv V form z4 kv ov av steps op n f ar out kinds opn a0 hz hns hnb hk hst hS hstep hop hnI J C hdv hK
    · have e : sStep op n ⟨f, ar, out, kinds, opn⟩ = ⟨(sNext f).2, ar, out, kinds ++ [((sNext f).1 : Int)], opn || (sNext f).2.odd⟩ := by unfold sStep; rw [if_pos a0, if_neg hz]
      rw [e] at hK
      exact wway_nexte K Q0 w0 w Ab As B nb cb ns cs k fb rb gf gs dv V form z4 kv ov av steps op n f ar out kinds opn a0 hz hns hnb hk hst hS hstep hop hnI J C hdv hK
  · by_cases a1 : op = 1 ∧ f.hand = true
    · obtain ⟨_, _, pre, hout, hpl⟩ := J.hand a1.2
      have hout' : out = pre ++ [f.ck] := hout
      have hpl' : f.place = pre.length := hpl
      have e : sStep op n ⟨f, ar, out, kinds, opn⟩ = ⟨sTake n f, ar, pre ++ [(sTake n f).ck], kinds ++ [0], opn⟩ := by
        unfold sStep
        rw [if_neg a0, if_pos a1]
        show (⟨sTake n f, ar, out.set f.place (sTake n f).ck, kinds ++ [0], opn⟩ : SS) = _
        rw [hout', hpl', List.set_append_right _ _ (Nat.le_refl _), Nat.sub_self]
        rfl
      rw [e] at hK
      exact wway_take K Q0 w0 w Ab As B nb cb ns cs k fb rb gf gs dv V form z4 kv ov av steps op n f ar out kinds opn pre a1.1 a1.2 hout' hpl' hns hnb hk hst hS hstep hop hnI J C hdv hK
    · by_cases a2 : op = 2 ∧ f.hand = true
      · by_cases hc : f.ck.len < 4 ∨ f.left.length < 4
        · have e : sStep op n ⟨f, ar, out, kinds, opn⟩ = ⟨f, ar, out, kinds ++ [2], opn || decide (4 ≤ f.ck.len)⟩ := by unfold sStep; rw [if_neg a0, if_neg a1, if_pos a2, if_pos hc]
          rw [e] at hK
          exact wway_lists K Q0 w0 w Ab As B nb cb ns cs k fb rb gf gs dv V form z4 kv ov av steps op n f ar out kinds opn a2.1 a2.2 hc hns hnb hk hst hS hstep hop hnI J C hdv hK
        · have e : sStep op n ⟨f, ar, out, kinds, opn⟩ = ⟨sSub f.ck.len f.left, f :: ar, out, kinds ++ [0], opn⟩ := by unfold sStep; rw [if_neg a0, if_neg a1, if_pos a2, if_neg hc]
          rw [e] at hK
          exact wway_listk K Q0 w0 w Ab As B nb cb ns cs k fb rb gf gs dv V form z4 kv ov av steps op n f ar out kinds opn a2.1 a2.2 hc hns hnb hk hst hS hstep hop hnI J C hdv hK
      · by_cases a3 : op = 3 ∧ ar ≠ []
        · obtain ⟨f1, ar1, har⟩ : ∃ g r, ar = g :: r := by
            cases hx : ar with
            | nil => exact absurd hx a3.2
            | cons g r => exact ⟨g, r, rfl⟩
          obtain ⟨g, gs1, hgs⟩ : ∃ g r, gs = g :: r := by
            have h1 := C.files.len
            cases hx : gs with
            | nil => rw [hx, har] at h1; simp at h1
            | cons g r => exact ⟨g, r, rfl⟩
          have e : sStep op n ⟨f, ar, out, kinds, opn⟩ = ⟨f1.off, ar1, out, kinds ++ [0], opn⟩ := by unfold sStep; rw [if_neg a0, if_neg a1, if_neg a2, if_pos a3, har]; rfl
          rw [e] at hK
          exact wway_pop K Q0 w0 w Ab As B nb cb ns cs k fb rb gf gs dv V form z4 kv ov av steps op n f ar out kinds opn g gs1 f1 ar1 a3.1 hgs har hns hnb hk hst hS hstep hop hnI J C hdv hK
        · have e : sStep op n ⟨f, ar, out, kinds, opn⟩ = ⟨f, ar, out, kinds ++ [3], opn⟩ := by unfold sStep; rw [if_neg a0, if_neg a1, if_neg a2, if_neg a3]
          rw [e] at hK
          refine wway_idle K Q0 w0 w Ab As B nb cb ns cs k fb rb gf gs dv V form z4 kv ov av steps op n f ar out kinds opn ?_ hns hnb hk hst hS hstep hop hnI J C hdv hK
          by_cases o1 : op = 1
          · exact .inr (.inl ⟨o1, by cases hh : f.hand with
              | false => rfl
              | true => exact absurd ⟨o1, hh⟩ a1⟩)
          · by_cases o2 : op = 2
            · exact .inr (.inr (.inl ⟨o2, by cases hh : f.hand with
                | false => rfl
                | true => exact absurd ⟨o2, hh⟩ a2⟩))
            · by_cases o3 : op = 3
              · exact .inr (.inr (.inr ⟨o3, by cases hh : ar with
                  | nil => rfl
                  | cons _ _ => exact absurd ⟨o3, by rw [hh]; simp⟩ a3⟩))
              · exact .inl ⟨a0, o1, o2, o3⟩
end Go.Proofs.YthkpoidnhgcjhaaDoor

namespace Go.Proofs.YthkpoidnhgcjhaaDoor
set_option linter.unusedSimpArgs false
set_option linter.unusedVariables false
set_option linter.unnecessarySimpa false
open Go.RowKit Plain

def WalkPost (w : World) (r : (List Nat × List Ck × List Int) × Bool) (e : Ending) (w' : World) : Prop :=
  ∃ ov kv, e = .returned (.tuple #[four r.1.1, ov, kv, .bool r.2]) ∧ Upd [] w w' ∧ (∃ V, SOuts w' w.heap.size ov r.1.2.1 V) ∧ w'.ownsRow w.heap.size 3 1 kv r.1.2.2.length (r.1.2.2.map (Value.int .i64))
theorem own_empty {w : World} {B q : Nat} {e : TypeId} {size : Nat} (h : Blk w q e #[]) (hB : B ≤ q) : w.ownsRow B e size (.slice (some ⟨q, 0, none⟩) 0 0) 0 [] :=
  ⟨by simp, .inr ⟨q, 0, #[], rfl, hB, h, Nat.le_refl _, by simp [maxLen], by simp, by simp⟩⟩
set_option maxRecDepth 1000000 in
set_option maxHeartbeats 8000000 in
theorem walked_any (w : World) (Ab As : Option Addr) (cb cs : Nat) (bl : List Nat) (steps : List (Int × Int)) (hb : Rd .u8 w w.heap.size Ab (ofNr bl)) (hbc : bl.length ≤ cb) (hbl : (bl.length : Int) ≤ 1073741824) (hO : ∀ x ∈ bl, x ≤ 255)
    (hs : RdS w w.heap.size As steps) (hsl : (steps.length : Int) ≤ 1048576) (hsw : ∀ x ∈ steps, (-9223372036854775808 ≤ x.1 ∧ x.1 ≤ 9223372036854775807) ∧ -9223372036854775808 ≤ x.2 ∧ x.2 ≤ 9223372036854775807) :
    Calls Tryd.prog 27 #[.slice Ab bl.length cb, .slice As steps.length cs] w (WalkPost w (specP bl steps)) := by
  have u1 := (Upd.refl [] w).alloc (.cells #[.int .u8 0, .int .u8 0, .int .u8 0, .int .u8 0] 22)
  have hz4 := Blk.new w 22 #[.int .u8 0, .int .u8 0, .int .u8 0, .int .u8 0]
  have cO := opened_any Ab cb w.heap.size bl _ (hb.upd u1 (Nat.le_refl _) (by simp)) hbc hbl hO u1.size
  have hsz1 : (w.alloc (.cells #[.int .u8 0, .int .u8 0, .int .u8 0, .int .u8 0] 22)).heap.size = w.heap.size + 1 := by simp
  have hOi := hide hO
  clear hO
  replace hz4 := hide hz4
  replace u1 := hide u1
  replace cO := hide cO
  replace hs := hide hs
  replace hsw := hide hsw
  replace hsz1 := hide hsz1
  clear hb
  by_cases hok : OkHead bl
  · have hr : specP bl steps = (((bl.drop 8).take 4, (sRun steps (sStart bl)).out, (sRun steps (sStart bl)).kinds), (sRun steps (sStart bl)).opn) := by unfold specP; rw [if_pos hok]
    rw [hr]
    clear hr
    have h12 := hok.1
    replace hok := hide hok
    go_enter Tryd.func27, Tryd.ntmps27
    go_wp2_with (first
      | (go_at_call 31; (with_reducible refine (cO.out).mono ?_); rintro e w2 ⟨hu2, hN2⟩; rcases hN2 with ⟨hbad, _⟩ | ⟨_, gf, hgf, rfl, hF2⟩; exact absurd hok.out hbad; obtain ⟨Af, cf, Af2, cf2, hBf, hrest⟩ := hF2.h; have c15 : w2.cell? ⟨gf, 15, none⟩ = some (.int .u8 (((bl.drop 8).take 4).getD 0 0 : Nat)) := hBf.cell 15; have c16 : w2.cell? ⟨gf, 16, none⟩ = some (.int .u8 (((bl.drop 8).take 4).getD 1 0 : Nat)) := hBf.cell 16; have c17 : w2.cell? ⟨gf, 17, none⟩ = some (.int .u8 (((bl.drop 8).take 4).getD 2 0 : Nat)) := hBf.cell 17; have c18 : w2.cell? ⟨gf, 18, none⟩ = some (.int .u8 (((bl.drop 8).take 4).getD 3 0 : Nat)) := hBf.cell 18; have hgfl := hBf.lt; have hgfn : ¬ gf = w2.heap.size := (by omega); clear hBf hrest; generalize ha0 : ((bl.drop 8).take 4).getD 0 0 = a0 at *; generalize ha1 : ((bl.drop 8).take 4).getD 1 0 = a1 at *; generalize ha2 : ((bl.drop 8).take 4).getD 2 0 = a2 at *; generalize ha3 : ((bl.drop 8).take 4).getD 3 0 = a3 at *; replace ha0 := hide ha0; replace ha1 := hide ha1; replace ha2 := hide ha2; replace ha3 := hide ha3; replace hF2 := hide hF2; replace hu2 := hide hu2)
      | fail)
    go_upto_region 9 with fail
    have uA := ((Upd.refl [] w2).alloc (.cells #[.int .u8 (a0 : Nat), .int .u8 (a1 : Nat), .int .u8 (a2 : Nat), .int .u8 (a3 : Nat)] 22)).alloc (.cells #[] 93) |>.alloc (.cells #[.int .i64 0] 3)
    have u02 := u1.out.trans hu2.out
    have hbw2 := u02.size
    have hz0 := hsz1.out
    have hgfB : w.heap.size ≤ gf := by omega
    have hfb := ((Blk.new w2 22 #[.int .u8 (a0 : Nat), .int .u8 (a1 : Nat), .int .u8 (a2 : Nat), .int .u8 (a3 : Nat)]).alloc (.cells #[] 93)).alloc (.cells #[.int .i64 0] 3)
    have hra := (Blk.new (w2.alloc (.cells #[.int .u8 (a0 : Nat), .int .u8 (a1 : Nat), .int .u8 (a2 : Nat), .int .u8 (a3 : Nat)] 22)) 93 #[]).alloc (.cells #[.int .i64 0] 3)
    have hka := Blk.new ((w2.alloc (.cells #[.int .u8 (a0 : Nat), .int .u8 (a1 : Nat), .int .u8 (a2 : Nat), .int .u8 (a3 : Nat)] 22)).alloc (.cells #[] 93)) 3 #[.int .i64 0]
    rw [show (w2.alloc (.cells #[.int .u8 (a0 : Nat), .int .u8 (a1 : Nat), .int .u8 (a2 : Nat), .int .u8 (a3 : Nat)] 22)).heap.size = w2.heap.size + 1 from by simp] at hra
    rw [show ((w2.alloc (.cells #[.int .u8 (a0 : Nat), .int .u8 (a1 : Nat), .int .u8 (a2 : Nat), .int .u8 (a3 : Nat)] 22)).alloc (.cells #[] 93)).heap.size = w2.heap.size + 1 + 1 from by simp] at hka
    have hle4 := le4_lt (bl.drop 4) (fun x hx => hOi.out x (List.mem_of_mem_drop hx))
    have hst0 : sRun (steps.take 0) (sStart bl) = sStart bl := by simp [sRun]
    have hb12 : (bl.drop 12).length ≤ bl.length := by rw [List.length_drop]; omega
    have hinv0 : SJ bl.length 0 (sStart bl) := ⟨rfl, Nat.le_refl _, Nat.le_refl _, ⟨hb12, fun x hx => hOi.out x (List.mem_of_mem_drop hx), Nat.zero_le _, fun x hx => by simp [sStart] at hx, Nat.lt_of_le_of_lt (Nat.sub_le _ _) hle4, by show 0 < _; decide, fun e => absurd e (by simp [sStart]), by show 0 ≤ 2; decide, Nat.le_refl _, fun e => absurd e (by simp [sStart])⟩, fun g hg => by simp [sStart] at hg, fun e => absurd e (by simp [sStart])⟩
    have hC0 : SX w (((w2.alloc (.cells #[.int .u8 (a0 : Nat), .int .u8 (a1 : Nat), .int .u8 (a2 : Nat), .int .u8 (a3 : Nat)] 22)).alloc (.cells #[] 93)).alloc (.cells #[.int .i64 0] 3)) w.heap.size gf [] (.slice none 0 0) (fun _ => .nilIface) w2.heap.size w.heap.size #[.int .u8 (a0 : Nat), .int .u8 (a1 : Nat), .int .u8 (a2 : Nat), .int .u8 (a3 : Nat)] #[.int .u8 0, .int .u8 0, .int .u8 0, .int .u8 0] (sRun (steps.take 0) (sStart bl)).f (sRun (steps.take 0) (sStart bl)).ar (sRun (steps.take 0) (sStart bl)).out (sRun (steps.take 0) (sStart bl)).kinds (.slice (some ⟨w2.heap.size + 1 + 1, 0, none⟩) 1 1) (.slice none 0 0) (.slice (some ⟨w2.heap.size + 1, 0, none⟩) 0 0) := by
      rw [hst0]
      exact ⟨u02.trans uA, rfl, own_box hka (by omega), own_empty hra (by omega), trivial, by simp, by simp; exact hgfB, hF2.out.upd uA (by simp) hbw2 (by simp), SOuts.nil _ _ _, hfb, hz4.out.upd (hu2.out.trans uA) (by simp)⟩
    have hopn0 : (sRun (steps.take 0) (sStart bl)).opn = false := by rw [hst0]; rfl
    have hinv := sRun_inv bl.length steps (sStart bl) hinv0
    replace hC0 := hide hC0
    replace hinv := hide hinv
    replace hopn0 := hide hopn0
    clear hst0 hinv0 hle4 hra hka hfb uA u02 hF2 hz4 hu2 u1 cO c15 c16 c17 c18 hb12
    generalize ((w2.alloc (.cells #[.int .u8 (a0 : Nat), .int .u8 (a1 : Nat), .int .u8 (a2 : Nat), .int .u8 (a3 : Nat)] 22)).alloc (.cells #[] 93)).alloc (.cells #[.int .i64 0] 3) = wL at *
    go_wp2_with fail
    go_loopg [8, 10, 12, 13, 14, 15] steps.length (fun k v8 v10 v12 v13 v14 v15 wr => ∃ (j gj : Nat) (gs : List Nat) (dv : Value) (V : Nat → Value), k + j = steps.length ∧ v15 = .int .i64 (j : Nat) ∧ v8 = .pointer (some ⟨gj, 0, none⟩) ∧ v10 = .bool (sRun (steps.take j) (sStart bl)).opn ∧
      SX w wr w.heap.size gj gs dv V w2.heap.size w.heap.size #[.int .u8 (a0 : Nat), .int .u8 (a1 : Nat), .int .u8 (a2 : Nat), .int .u8 (a3 : Nat)] #[.int .u8 0, .int .u8 0, .int .u8 0, .int .u8 0] (sRun (steps.take j) (sStart bl)).f (sRun (steps.take j) (sStart bl)).ar (sRun (steps.take j) (sStart bl)).out (sRun (steps.take j) (sStart bl)).kinds v14 v13 v12 ∧ ((sRun (steps.take j) (sStart bl)).f.hand = true → dv = V ((sRun (steps.take j) (sStart bl)).out.length - 1)))
    case atStart => exact ⟨0, gf, [], .slice none 0 0, fun _ => .nilIface, by simp, rfl, rfl, by rw [hopn0.out], hC0.out, fun e => absurd e (by simp [sRun, sStart])⟩
    case round =>
      obtain ⟨j, gj, gs, dv, V, hj, rfl, rfl, rfl, hC, hdv⟩ := hrel
      cases gk with
      | zero =>
        have hj' : j = steps.length := by omega
        subst hj'
        rw [List.take_length] at hC hdv ⊢
        have hul := hC.up.size
        have hnwl : w.heap.size < wr.heap.size := hC.res.lt
        obtain ⟨Ak, ck, rfl⟩ := own_shape hC.kinds
        obtain ⟨Ao, co, rfl⟩ := own_shape hC.outs.row
        have c0 := hC.form.cell 0
        have c1 := hC.form.cell 1
        have c2 := hC.form.cell 2
        have c3 := hC.form.cell 3
        have d0 := hC.res.cell 0
        have d1 := hC.res.cell 1
        have d2 := hC.res.cell 2
        have d3 := hC.res.cell 3
        have e0 := hC.res.frozen 0
        have e1 := hC.res.frozen 1
        have e2 := hC.res.frozen 2
        have e3 := hC.res.frozen 3
        simp at c0 c1 c2 c3 d0 d1 d2 d3
        replace hC := hide hC
        clear hC0 hinv hdv
        have hfne : ¬ w2.heap.size = w.heap.size := by omega
        have hfne' : ¬ w.heap.size = w2.heap.size := by omega
        go_wp2_with fail
        have uT : UpdT w.heap.size [22] wr _ := Upd.typed (upd_four (Upd.refl [w.heap.size] wr) (g := w.heap.size) (.inl (by simp)) (.int .u8 (a0 : Nat)) (.int .u8 (a1 : Nat)) (.int .u8 (a2 : Nat)) (.int .u8 (a3 : Nat))) (by simp) (fun k hk _ => by simp at hk; subst hk; exact ⟨_, _, hC.out.res, by simp⟩)
        have hX := blk_four hC.out.res (.int .u8 (a0 : Nat)) (.int .u8 (a1 : Nat)) (.int .u8 (a2 : Nat)) (.int .u8 (a3 : Nat))
        have hfo : four ((bl.drop 8).take 4) = .agg #[.int .u8 (a0 : Nat), .int .u8 (a1 : Nat), .int .u8 (a2 : Nat), .int .u8 (a3 : Nat)] := by rw [four, ha0.out, ha1.out, ha2.out, ha3.out]
        have hfin : WalkPost w (((bl.drop 8).take 4, (sRun steps (sStart bl)).out, (sRun steps (sStart bl)).kinds), (sRun steps (sStart bl)).opn) (.returned (.tuple #[.agg #[.int .u8 (a0 : Nat), .int .u8 (a1 : Nat), .int .u8 (a2 : Nat), .int .u8 (a3 : Nat)], .slice Ao (sRun steps (sStart bl)).out.length co, .slice Ak (sRun steps (sStart bl)).kinds.length ck, .bool (sRun steps (sStart bl)).opn])) _ :=
          ⟨_, _, by rw [hfo], uT.upd0 hC.out.up rfl, ⟨V, hC.out.outs.typed uT (by decide) (by decide)⟩, uT.own hC.out.kinds (by decide)⟩
        replace hfin := hide hfin
        exact bodyPost_ret (ret_cell_tmp3 rfl rfl (load_arr4 hX rfl) rfl rfl rfl) rfl (by exact hfin.out)
      | succ k =>
        rename_i hJK
        obtain ⟨op, n, hst⟩ : ∃ op n, steps.getD j (0, 0) = (op, n) := ⟨_, _, rfl⟩
        have hjl : j < steps.length := by omega
        have hmem : (op, n) ∈ steps := by
          have e : steps[j] = (op, n) := by simpa [hjl] using hst
          rw [← e]
          exact List.getElem_mem hjl
        have hsucc := sRun_succ steps (sStart bl) j op n hjl hst
        have hi := hinv.out j (by omega)
        generalize sRun (steps.take j) (sStart bl) = S at *
        obtain ⟨f, ar, out, kinds, opn⟩ := S
        refine wround _ _ w wr Ab As w.heap.size bl.length cb steps.length cs j w2.heap.size w.heap.size gj gs dv V #[.int .u8 (a0 : Nat), .int .u8 (a1 : Nat), .int .u8 (a2 : Nat), .int .u8 (a3 : Nat)] #[.int .u8 0, .int .u8 0, .int .u8 0, .int .u8 0] _ _ _ steps op n f ar out kinds opn hsl hbl hjl rfl hs.out hst (hsw.out _ hmem).1 (hsw.out _ hmem).2 hi hC hdv ?_
        clear hC hC0 hinv hi
        intro v16 v17 v18 v19 v35 v36 v37 v38 v39 v40 v41 v42 v43 v44 v45 v46 v47 v48 v49 v50 v51 v52 v53 v54 v55 v56 v57 v58 v59 v60 v61 v62 v63 v64 v65 v66 v67 v68 v69 v70 v71 v72 v73 v74 v75 v76 v77 v78 v79 v80 v81 v82 v83 v84 v85 v86 v87 v88 v89 v90 v91 v92 v93 v94 v95 v96 v97 v98 v99 v100 v101 v102 v103 v104 v105 v106 v107 v108 v109 v110 v111 v112 v113 v114 v115 v116 v117 v118 v119 v120 v121 v122 v123 v124 v125 v126 v127 v128 v129 v130 v131 v132 v133 v134 v135 v136 v137 v138 v139 v140 v141 v142 v143 v144 v145 v146 v147 v148 v149 v150 v151 v152 v153 v154 v155 v156 v157 v158 v159 v160 v161 v162 v163 v164 v165 v166 kv' ov' av' gf' gs' dv' V' w' hC' hdv'
        refine hJK _ _ ?_
        go_roundg k
        case measure => omega
        case rel =>
          exact ⟨j + 1, gf', gs', dv', V', by omega, rfl, rfl, by rw [hsucc], by rw [hsucc]; exact hC', by rw [hsucc]; exact hdv'⟩
  · have hr : specP bl steps = (([0, 0, 0, 0], [], [2]), false) := by unfold specP; rw [if_neg hok]
    rw [hr]
    clear hr
    replace hok := hide hok
    go_enter Tryd.func27, Tryd.ntmps27
    go_wp2_with (first
      | (go_at_call 31; (with_reducible refine (cO.out).mono ?_); rintro e w2 ⟨hu2, hN2⟩; rcases hN2 with ⟨_, rfl⟩ | ⟨hbad, _⟩; rotate_left; exact absurd hbad hok.out; have hz42 := hz4.out.upd hu2 (by simp); have hz0 := hz42.cell 0; have hz1 := hz42.cell 1; have hz2 := hz42.cell 2; have hz3 := hz42.cell 3; have y0 := hz42.frozen 0; have y1 := hz42.frozen 1; have y2 := hz42.frozen 2; have y3 := hz42.frozen 3; have hlw2 := hz42.lt; have hnw2 : ¬ w.heap.size = w2.heap.size := (by omega); simp at hz0 hz1 hz2 hz3; replace hz42 := hide hz42; replace hu2 := hide hu2)
      | fail)
    have hX := (blk_four hz42.out (.int .u8 0) (.int .u8 0) (.int .u8 0) (.int .u8 0)).alloc (.cells #[.int .i64 2] 3)
    have uX := (upd_four (u1.out.trans hu2.out) (g := w.heap.size) (.inr (Nat.le_refl _)) (.int .u8 0) (.int .u8 0) (.int .u8 0) (.int .u8 0)).alloc (.cells #[.int .i64 2] 3)
    have hk := Blk.new ((((w2.setCell ⟨w.heap.size, 0, none⟩ (.int .u8 0)).setCell ⟨w.heap.size, 1, none⟩ (.int .u8 0)).setCell ⟨w.heap.size, 2, none⟩ (.int .u8 0)).setCell ⟨w.heap.size, 3, none⟩ (.int .u8 0)) 3 #[.int .i64 2]
    rw [show ((((w2.setCell ⟨w.heap.size, 0, none⟩ (.int .u8 0)).setCell ⟨w.heap.size, 1, none⟩ (.int .u8 0)).setCell ⟨w.heap.size, 2, none⟩ (.int .u8 0)).setCell ⟨w.heap.size, 3, none⟩ (.int .u8 0)).heap.size = w2.heap.size from by simp] at hk
    exact bodyPost_ret (ret_cell_tmp3 rfl rfl (load_arr4 hX rfl) rfl rfl rfl) rfl (by exact ⟨.slice none 0 0, .slice (some ⟨w2.heap.size, 0, none⟩) 1 1, rfl, uX, ⟨fun _ => .nilIface, SOuts.nil _ _ _⟩, own_box hk (by omega)⟩)
end Go.Proofs.YthkpoidnhgcjhaaDoor

namespace Go.Proofs.YthkpoidnhgcjhaaDoor
set_option linter.unusedSimpArgs false
set_option linter.unusedVariables false
set_option linter.unnecessarySimpa false
open Go.RowKit Plain

theorem step_pushCs {P : Program} {w : World} {ops : Array Oper} {o : Oper} {a : Act} {K : Act → World → Prop} {Q : Exit → Act → World → Prop} {E : Prop} (s x : Operand) (t : TypeId)
    (base : Nat) (e : TypeId) (z : Value) (size bytes : Nat) (ht : P.underlying t = some (.slice e)) (hi : (P.info? e).map (fun i => (i.zero, i.size, i.bytes)) = some (some z, size, bytes)) (hzs : z.cells.size = size) (hsz : 0 < size)
    (v : Value) (n : Nat) (xs cs : List Value) (hcs : cs.length = size) (hu : ∀ u ∈ cs, u.oneCell' = true) (b : Nat) (h63 : n + 1 ≤ maxLen) (hbytes : (n + 1) * bytes ≤ 140737488355328)
    (h : (o.guard = none ∧ o.op = .call { callee := .builtin .append, args := #[s, x], argTypes := #[t, t] } ∧ a.eval s = v ∧ w.ownsRow base e size v n xs ∧ a.eval x = .slice (some ⟨b, 0, none⟩) 1 1 ∧ (∀ j u, cs[j]? = some u → w.cell? ⟨b, j, none⟩ = some u) ∧ base ≤ w.heap.size) ∧
      ∀ v' w', w'.ownsRow base e size v' (n + 1) (xs ++ cs) → w.grownBy w' v.ownBlock → K (a.put o.dst v') w') :
    if Region.wanted o (yielded ops a.tmps) = true then Oper.wp P o a w K Q else E := by
  obtain ⟨⟨hgd, ho, hs, hown, hx, hb, hbase⟩, h⟩ := h
  obtain ⟨i, hi, hz, h1, h2⟩ := info_parts hi
  have hw : Region.wanted o (yielded ops a.tmps) = true := by simp [Region.wanted, hgd]
  rw [if_pos hw]
  refine wp_append_own w s x t ho base e i z size bytes ht hi hz h1 h2 hzs hsz v n xs hs hown ⟨b, 0, none⟩ 1 1 cs hx (by simp [hcs]) ?_ hu h63 hbytes hbase ?_
  · intro j y hy
    rw [Addr.add_lit, Nat.zero_add]
    exact hb j y hy
  · intro v' w' h1 h2 _
    exact h v' w' h1 h2
theorem info_sstep : (Tryd.prog.info? 78).map (fun i => (i.zero, i.size, i.bytes)) = some (some (Value.agg #[.int .i64 0, .int .i64 0]), 2, 16) := by kernel_rfl
theorem stepC_snoc (l : List (Int × Int)) (x : Int × Int) : stepC (l ++ [x]) = stepC l ++ [.int .i64 x.1, .int .i64 x.2] := by simp [stepC]
theorem RdS.ofOwnS {w : World} {base c : Nat} {A : Option Addr} {l : List (Int × Int)} {e : TypeId} (h : w.ownsRow base e 2 (.slice A l.length c) l.length (stepC l)) : RdS w w.heap.size A l := fun hl => by
  have hpos : 0 < l.length := by cases l <;> simp_all
  obtain ⟨g, cap, hv, _, hlt⟩ := h.form hpos
  have hA : A = some ⟨g, 0, none⟩ := by injection hv
  subst hA
  refine ⟨g, 0, rfl, hlt, fun j hj => ?_⟩
  obtain ⟨h1, h2⟩ := step_at l j hj
  rw [Nat.zero_add, h.cellAt (j * 2) (by omega), h.cellAt (j * 2 + 1) (by omega)]
  exact ⟨h1, h2⟩
theorem RdS.updS {S : List Nat} {w w' : World} {B : Nat} {A : Option Addr} {l : List (Int × Int)} (h : RdS w B A l) (u : Upd S w w') (hB : B ≤ w.heap.size) (hS : ∀ s, s ∈ S → B ≤ s) : RdS w' B A l :=
  h.keep fun p hp => u.cell (by omega) (fun m => by have := hS _ m; omega)
theorem RdS.moreS {w : World} {B B' : Nat} {A : Option Addr} {l : List (Int × Int)} (h : RdS w B A l) (hB : B ≤ B') : RdS w B' A l := fun hl => by
  obtain ⟨b, off, h1, h2, h3⟩ := h hl
  exact ⟨b, off, h1, by omega, h3⟩
theorem SOuts.reads {w : World} {base : Nat} {ov : Value} {l : List Ck} {V : Nat → Value} (h : SOuts w base ov l V) : ∃ A c, ov = .slice A l.length c ∧ RdC w w.heap.size A l := by
  obtain ⟨h1, h2, _⟩ := h
  obtain ⟨A, c, rfl⟩ := own_shape h1
  refine ⟨A, c, rfl, ?_⟩
  have hf : ∀ j, ∃ p : Option Addr × Nat, j < l.length → V j = .slice p.1 (l.getD j default).data.length p.2 := fun j => by
    by_cases hj : j < l.length
    · obtain ⟨a, c, e⟩ := own_shape (h2 j hj)
      exact ⟨(a, c), fun _ => e⟩
    · exact ⟨(none, 0), fun h => absurd h hj⟩
  intro hl
  have hpos : 0 < l.length := by cases l <;> simp_all
  obtain ⟨g, cap, hv, _, hlt⟩ := h1.form hpos
  have hA : A = some ⟨g, 0, none⟩ := by injection hv
  subst hA
  refine ⟨g, 0, fun j => (hf j).choose.1, fun j => (hf j).choose.2, rfl, hlt, fun j hj => ⟨fun i hi => ?_, ?_⟩⟩
  · rw [Nat.zero_add, h1.cellAt (j * 7 + i) (by omega), ck_at V l 0 j i hj hi, Nat.zero_add, (hf j).choose_spec hj]
  · have h3 := h2 j hj
    rw [(hf j).choose_spec hj] at h3
    exact Rd.ofOwn h3
set_option maxRecDepth 100000 in
set_option maxHeartbeats 4000000 in
theorem asked_any (A : Option Addr) (c B : Nat) (l : List (Int × Int)) (w : World) (hr : RdS w B A l) (hB : B ≤ w.heap.size) (hl : (l.length : Int) ≤ 1048576) :
    Calls Tryd.prog 17 #[.slice A l.length c] w fun e w' => ∃ v, e = .returned v ∧ w'.ownsRow w.heap.size 78 2 v l.length (stepC l) ∧ Upd [] w w' := by
  go_enter Tryd.func17, Tryd.ntmps17
  go_wp2
  go_loopg [3, 4] l.length (fun k v3 v4 wr => ∃ j : Nat, k + j = l.length ∧ v4 = .int .i64 (j : Nat) ∧ wr.ownsRow w.heap.size 78 2 v3 j (stepC (l.take j)) ∧ Upd [] w wr)
  case atStart => exact ⟨0, by simp, rfl, ⟨rfl, .inl ⟨rfl, rfl⟩⟩, Upd.refl _ _⟩
  case round =>
    obtain ⟨j, hj, rfl, hs, hu⟩ := hrel
    obtain ⟨As, ks, rfl⟩ := own_shape hs
    cases gk with
    | zero =>
      have hj' : j = l.length := by omega
      subst hj'
      rw [List.take_length] at hs
      replace hs := hide hs
      replace hu := hide hu
      go_wp2
      go_ret
      exact ⟨_, rfl, hs.out, hu.out⟩
    | succ k =>
      have hjl : j < l.length := by omega
      have hjI : (j : Int) < (l.length : Int) := by omega
      obtain ⟨b, o, rfl, hb, hc⟩ := hr (by rintro rfl; simp at hjl)
      obtain ⟨q0, q1⟩ := hc j hjl
      have hsucc : stepC (l.take (j + 1)) = stepC (l.take j) ++ [.int .i64 (l.getD j (0, 0)).1, .int .i64 (l.getD j (0, 0)).2] := by
        rw [List.take_succ_eq_append_getElem hjl, stepC_snoc]
        simp [hjl]
      generalize (l.getD j (0, 0)).1 = x at *
      generalize (l.getD j (0, 0)).2 = y at *
      have hSW : ∀ W, Upd [] w W → (W.cell? ⟨b, o + j * 2, none⟩ = some (.int .i64 x) ∧ W.cell? ⟨b, o + j * 2 + 1, none⟩ = some (.int .i64 y)) := fun W u => ⟨(u.cell (p := ⟨b, o + j * 2, none⟩) (by show b < _; omega) (by simp)).trans q0, (u.cell (p := ⟨b, o + j * 2 + 1, none⟩) (by show b < _; omega) (by simp)).trans q1⟩
      have hsz := hu.size
      have hbw : b < wr.heap.size := by omega
      have uB := hu.drew.alloc (.cells #[.int .i64 x, .int .i64 y] 78)
      have hS0 := hide (hSW _ hu)
      have hS1 := hide (hSW _ hu.drew)
      have hS2 := hide (hSW _ (hu.alloc (.cells #[.int .i64 x, .int .i64 y] 78)))
      have hS3 := hide (hSW _ (hu.alloc (.cells #[.int .i64 x, .int .i64 y] 78)).drew)
      have hS4 := hide (hSW _ uB)
      have hHC : ∀ i u, ([.int .i64 x, .int .i64 y] : List Value)[i]? = some u → (wr.alloc (.cells #[.int .i64 x, .int .i64 y] 78)).drew.cell? ⟨wr.heap.size, i, none⟩ = some u := by
        intro i u hi
        have := World.cell?_alloc_new wr (#[.int .i64 x, .int .i64 y] : Array Value) 78 i
        refine Eq.trans (show _ = (wr.alloc (.cells #[.int .i64 x, .int .i64 y] 78)).cell? ⟨wr.heap.size, i, none⟩ from rfl) (this.trans ?_)
        simpa using hi
      obtain ⟨t0, t1⟩ := hS0.out
      replace hSW := hide hSW
      replace hs := hide hs
      replace hu := hide hu
      replace uB := hide uB
      replace hHC := hide hHC
      replace hsucc := hide hsucc
      clear hc hr q0 q1
      go_wp2
      go_region_held3 (fun W => W.cell? ⟨b, o + j * 2, none⟩ = some (.int .i64 x) ∧ W.cell? ⟨b, o + j * 2 + 1, none⟩ = some (.int .i64 y)) (first | with_reducible exact hS0.out | with_reducible exact hS1.out | with_reducible exact hS2.out | with_reducible exact hS3.out | with_reducible exact hS4.out | with_reducible exact hS7.out | go_keep) (first
        | (refine step_pushCs (.tmp 11) (.tmp 23) 46 w.heap.size 78 (.agg #[.int .i64 0, .int .i64 0]) 2 16 Tryd.underlying46 info_sstep rfl (by decide) (.slice As j ks) j (stepC (l.take j)) [.int .i64 x, .int .i64 y] rfl (by simp [Value.oneCell']) wr.heap.size (by simp only [maxLen]; omega) (by omega) ?_; refine ⟨⟨rfl, rfl, rfl, hs.out.alloc _, rfl, hHC.out, by simp <;> omega⟩, ?_⟩; intro v7 w3 hk3 hg3; have u7 := hide (upd_own uB.out (hs.out.alloc (.cells #[.int .i64 x, .int .i64 y] 78)) (Nat.le_refl _) ⟨hg3.os, hg3.tape, hg3.output, hg3.size, hg3.block⟩); have hS7 := hide (hSW.out _ u7.out); obtain ⟨A3, c3, rfl⟩ := own_shape hk3; replace hk3 := hide hk3; clear hg3))
      go_wp2
      go_roundg k
      case measure => omega
      case rel => exact ⟨j + 1, by omega, by go_num, by rw [hsucc.out]; exact hk3.out, u7.out⟩
set_option maxRecDepth 100000 in
set_option maxHeartbeats 8000000 in
theorem likened_any (A : Option Addr) (c B : Nat) (l : List Ck) (w : World) (hr : RdC w B A l) (hB : B ≤ w.heap.size) (hl : (l.length : Int) ≤ 1048576) :
    Calls Tryd.prog 19 #[.slice A l.length c] w fun e w' => ∃ A' c', e = .returned (.slice A' l.length c') ∧ RdC w' w'.heap.size A' l ∧ Upd [] w w' := by
  obtain ⟨Vf, hVf⟩ : ∃ Vf : Nat → Option Addr × Nat, l ≠ [] → ∃ b o, A = some ⟨b, o, none⟩ ∧ b < B ∧ ∀ j, j < l.length → (∀ i, i < 7 → w.cell? ⟨b, o + j * 7 + i, none⟩ = (ckC (l.getD j default) (.slice (Vf j).1 (l.getD j default).data.length (Vf j).2))[i]?) ∧ Rd .u8 w B (Vf j).1 (ofNr (l.getD j default).data) := by
    by_cases h : l = []
    · exact ⟨fun _ => (none, 0), fun h2 => absurd h h2⟩
    · obtain ⟨b, off, Af, Cf, h1, h2, h3⟩ := hr h
      exact ⟨fun j => (Af j, Cf j), fun _ => ⟨b, off, h1, h2, h3⟩⟩
  clear hr
  replace hVf := hide hVf
  go_enter Tryd.func19, Tryd.ntmps19
  go_wp2
  go_loopg [3, 4] l.length (fun k v3 v4 wr => ∃ j : Nat, k + j = l.length ∧ v4 = .int .i64 (j : Nat) ∧ wr.ownsRow w.heap.size 43 7 v3 j (ckCells (fun i => .slice (Vf i).1 (l.getD i default).data.length (Vf i).2) 0 (l.take j)) ∧ Upd [] w wr)
  case atStart => exact ⟨0, by simp, rfl, ⟨rfl, .inl ⟨rfl, rfl⟩⟩, Upd.refl _ _⟩
  case round =>
    obtain ⟨j, hj, rfl, hs, hu⟩ := hrel
    obtain ⟨As, ks, rfl⟩ := own_shape hs
    cases gk with
    | zero =>
      have hj' : j = l.length := by omega
      subst hj'
      rw [List.take_length] at hs
      have hfin : RdC wr wr.heap.size As l := RdC.ofOwn (V := fun i => .slice (Vf i).1 (l.getD i default).data.length (Vf i).2) hs (Nat.le_refl _) (fun i => (Vf i).1) (fun i => (Vf i).2) (fun i hi => ⟨rfl, by
        obtain ⟨b, o, _, _, h3⟩ := hVf.out (by rintro rfl; simp at hi)
        exact ((h3 i hi).2.upd hu hB (by simp)).more (Nat.le_trans hB hu.size)⟩)
      replace hfin := hide hfin
      replace hu := hide hu
      clear hs
      go_wp2
      go_ret
      exact ⟨_, _, rfl, hfin.out, hu.out⟩
    | succ k =>
      have hjl : j < l.length := by omega
      have hjI : (j : Int) < (l.length : Int) := by omega
      obtain ⟨b, o, rfl, hb, hc⟩ := hVf.out (by rintro rfl; simp at hjl)
      obtain ⟨hq, _⟩ := hc j hjl
      have q0 := hq 0 (by omega)
      have q1 := hq 1 (by omega)
      have q2 := hq 2 (by omega)
      have q3 := hq 3 (by omega)
      have q4 := hq 4 (by omega)
      have q5 := hq 5 (by omega)
      have q6 := hq 6 (by omega)
      rw [Nat.add_zero] at q0
      have hckC : ckC (l.getD j default) (.slice (Vf j).1 (l.getD j default).data.length (Vf j).2) = [.int .u8 ((l.getD j default).id.getD 0 0 : Nat), .int .u8 ((l.getD j default).id.getD 1 0 : Nat), .int .u8 ((l.getD j default).id.getD 2 0 : Nat), .int .u8 ((l.getD j default).id.getD 3 0 : Nat), .int .i64 ((l.getD j default).len : Nat), .slice (Vf j).1 (l.getD j default).data.length (Vf j).2, .int .i64 ((l.getD j default).en : Nat)] := rfl
      have hsucc : ckCells (fun i => .slice (Vf i).1 (l.getD i default).data.length (Vf i).2) 0 (l.take (j + 1)) = ckCells (fun i => .slice (Vf i).1 (l.getD i default).data.length (Vf i).2) 0 (l.take j) ++ ckC (l.getD j default) (.slice (Vf j).1 (l.getD j default).data.length (Vf j).2) := by
        rw [List.take_succ_eq_append_getElem hjl, ck_snoc, List.length_take, Nat.min_eq_left (by omega), Nat.zero_add]
        simp [hjl]
      rw [hckC] at q0 q1 q2 q3 q4 q5 q6 hsucc
      replace hsucc := hide hsucc
      generalize hgx : l.getD j default = x at q0 q1 q2 q3 q4 q5 q6 hsucc
      generalize (Vf j).1 = Aj at *
      generalize (Vf j).2 = Cj at *
      generalize x.id.getD 0 0 = a0 at *
      generalize x.id.getD 1 0 = a1 at *
      generalize x.id.getD 2 0 = a2 at *
      generalize x.id.getD 3 0 = a3 at *
      generalize x.len = ln at *
      generalize x.en = en at *
      generalize x.data.length = dl at *
      clear hgx hckC hq hc
      replace q0 : w.cell? _ = some _ := q0
      replace q1 : w.cell? _ = some _ := q1
      replace q2 : w.cell? _ = some _ := q2
      replace q3 : w.cell? _ = some _ := q3
      replace q4 : w.cell? _ = some _ := q4
      replace q5 : w.cell? _ = some _ := q5
      replace q6 : w.cell? _ = some _ := q6
      have hSW : ∀ W, Upd [] w W → (W.cell? ⟨b, o + j * 7, none⟩ = some (.int .u8 (a0 : Nat)) ∧ W.cell? ⟨b, o + j * 7 + 1, none⟩ = some (.int .u8 (a1 : Nat)) ∧ W.cell? ⟨b, o + j * 7 + 2, none⟩ = some (.int .u8 (a2 : Nat)) ∧ W.cell? ⟨b, o + j * 7 + 3, none⟩ = some (.int .u8 (a3 : Nat)) ∧ W.cell? ⟨b, o + j * 7 + 4, none⟩ = some (.int .i64 (ln : Nat)) ∧ W.cell? ⟨b, o + j * 7 + 5, none⟩ = some (.slice Aj dl Cj) ∧ W.cell? ⟨b, o + j * 7 + 6, none⟩ = some (.int .i64 (en : Nat))) := fun W u => ⟨(u.cell (p := ⟨b, o + j * 7, none⟩) (by show b < _; omega) (by simp)).trans q0, (u.cell (p := ⟨b, o + j * 7 + 1, none⟩) (by show b < _; omega) (by simp)).trans q1, (u.cell (p := ⟨b, o + j * 7 + 2, none⟩) (by show b < _; omega) (by simp)).trans q2, (u.cell (p := ⟨b, o + j * 7 + 3, none⟩) (by show b < _; omega) (by simp)).trans q3, (u.cell (p := ⟨b, o + j * 7 + 4, none⟩) (by show b < _; omega) (by simp)).trans q4, (u.cell (p := ⟨b, o + j * 7 + 5, none⟩) (by show b < _; omega) (by simp)).trans q5, (u.cell (p := ⟨b, o + j * 7 + 6, none⟩) (by show b < _; omega) (by simp)).trans q6⟩
      have hsz := hu.size
      have hbw : b < wr.heap.size := by omega
      have uB := hu.drew.alloc (.cells #[.int .u8 (a0 : Nat), .int .u8 (a1 : Nat), .int .u8 (a2 : Nat), .int .u8 (a3 : Nat), .int .i64 (ln : Nat), .slice Aj dl Cj, .int .i64 (en : Nat)] 43)
      have hS0 := hide (hSW _ hu)
      have hS1 := hide (hSW _ hu.drew)
      have hS2 := hide (hSW _ (hu.alloc (.cells #[.int .u8 (a0 : Nat), .int .u8 (a1 : Nat), .int .u8 (a2 : Nat), .int .u8 (a3 : Nat), .int .i64 (ln : Nat), .slice Aj dl Cj, .int .i64 (en : Nat)] 43)))
      have hS3 := hide (hSW _ (hu.alloc (.cells #[.int .u8 (a0 : Nat), .int .u8 (a1 : Nat), .int .u8 (a2 : Nat), .int .u8 (a3 : Nat), .int .i64 (ln : Nat), .slice Aj dl Cj, .int .i64 (en : Nat)] 43)).drew)
      have hS4 := hide (hSW _ uB)
      have hHC : ∀ i u, ([.int .u8 (a0 : Nat), .int .u8 (a1 : Nat), .int .u8 (a2 : Nat), .int .u8 (a3 : Nat), .int .i64 (ln : Nat), .slice Aj dl Cj, .int .i64 (en : Nat)] : List Value)[i]? = some u → (wr.alloc (.cells #[.int .u8 (a0 : Nat), .int .u8 (a1 : Nat), .int .u8 (a2 : Nat), .int .u8 (a3 : Nat), .int .i64 (ln : Nat), .slice Aj dl Cj, .int .i64 (en : Nat)] 43)).drew.cell? ⟨wr.heap.size, i, none⟩ = some u := by
        intro i u hi
        have := World.cell?_alloc_new wr (#[.int .u8 (a0 : Nat), .int .u8 (a1 : Nat), .int .u8 (a2 : Nat), .int .u8 (a3 : Nat), .int .i64 (ln : Nat), .slice Aj dl Cj, .int .i64 (en : Nat)] : Array Value) 43 i
        refine Eq.trans (show _ = (wr.alloc (.cells #[.int .u8 (a0 : Nat), .int .u8 (a1 : Nat), .int .u8 (a2 : Nat), .int .u8 (a3 : Nat), .int .i64 (ln : Nat), .slice Aj dl Cj, .int .i64 (en : Nat)] 43)).cell? ⟨wr.heap.size, i, none⟩ from rfl) (this.trans ?_)
        simpa using hi
      obtain ⟨t0, t1, t2, t3, t4, t5, t6⟩ := hS0.out
      replace hSW := hide hSW
      replace hs := hide hs
      replace hu := hide hu
      replace uB := hide uB
      replace hHC := hide hHC
      clear q0 q1 q2 q3 q4 q5 q6 hVf
      go_wp2
      go_region_held3 (fun W => W.cell? ⟨b, o + j * 7, none⟩ = some (.int .u8 (a0 : Nat)) ∧ W.cell? ⟨b, o + j * 7 + 1, none⟩ = some (.int .u8 (a1 : Nat)) ∧ W.cell? ⟨b, o + j * 7 + 2, none⟩ = some (.int .u8 (a2 : Nat)) ∧ W.cell? ⟨b, o + j * 7 + 3, none⟩ = some (.int .u8 (a3 : Nat)) ∧ W.cell? ⟨b, o + j * 7 + 4, none⟩ = some (.int .i64 (ln : Nat)) ∧ W.cell? ⟨b, o + j * 7 + 5, none⟩ = some (.slice Aj dl Cj) ∧ W.cell? ⟨b, o + j * 7 + 6, none⟩ = some (.int .i64 (en : Nat))) (first | with_reducible exact hS0.out | with_reducible exact hS1.out | with_reducible exact hS2.out | with_reducible exact hS3.out | with_reducible exact hS4.out | with_reducible exact hS7.out | go_keep) (first
        | (refine step_pushCs (.tmp 11) (.tmp 33) 29 w.heap.size 43 (.agg #[.int .u8 0, .int .u8 0, .int .u8 0, .int .u8 0, .int .i64 0, .slice none 0 0, .int .i64 0]) 7 48 Tryd.underlying29 info_ck rfl (by decide) (.slice As j ks) j (ckCells (fun i => .slice (Vf i).1 (l.getD i default).data.length (Vf i).2) 0 (l.take j)) [.int .u8 (a0 : Nat), .int .u8 (a1 : Nat), .int .u8 (a2 : Nat), .int .u8 (a3 : Nat), .int .i64 (ln : Nat), .slice Aj dl Cj, .int .i64 (en : Nat)] rfl (by simp [Value.oneCell']) wr.heap.size (by simp only [maxLen]; omega) (by omega) ?_; refine ⟨⟨rfl, rfl, rfl, hs.out.alloc _, rfl, hHC.out, by simp <;> omega⟩, ?_⟩; intro v7 w3 hk3 hg3; have u7 := hide (upd_own uB.out (hs.out.alloc (.cells #[.int .u8 (a0 : Nat), .int .u8 (a1 : Nat), .int .u8 (a2 : Nat), .int .u8 (a3 : Nat), .int .i64 (ln : Nat), .slice Aj dl Cj, .int .i64 (en : Nat)] 43)) (Nat.le_refl _) ⟨hg3.os, hg3.tape, hg3.output, hg3.size, hg3.block⟩); have hS7 := hide (hSW.out _ u7.out); obtain ⟨A3, c3, rfl⟩ := own_shape hk3; replace hk3 := hide hk3; clear hg3))
      go_wp2
      go_roundg k
      case measure => omega
      case rel => exact ⟨j + 1, by omega, by go_num, by rw [hsucc.out]; exact hk3.out, u7.out⟩
def SRiffPost (w : World) (r : List Nat × List Ck × List Int) (e : Ending) (w' : World) : Prop :=
  ∃ ov kv, e = .returned (.tuple #[four r.1, ov, kv]) ∧ Upd [] w w' ∧ (∃ V, SOuts w' w.heap.size ov r.2.1 V) ∧ w'.ownsRow w.heap.size 3 1 kv r.2.2.length (r.2.2.map (Value.int .i64))
set_option maxRecDepth 100000 in
set_option maxHeartbeats 8000000 in
theorem told_any (w : World) (Ab As : Option Addr) (cb cs : Nat) (bl : List Nat) (steps : List (Int × Int)) (hb : Rd .u8 w w.heap.size Ab (ofNr bl)) (hbc : bl.length ≤ cb) (hbl : (bl.length : Int) ≤ 1073741824) (hO : ∀ x ∈ bl, x ≤ 255)
    (hs : RdS w w.heap.size As steps) (hsl : (steps.length : Int) ≤ 1048576) (hsw : ∀ x ∈ steps, (-9223372036854775808 ≤ x.1 ∧ x.1 ≤ 9223372036854775807) ∧ -9223372036854775808 ≤ x.2 ∧ x.2 ≤ 9223372036854775807) :
    Calls Tryd.prog 16 #[.slice Ab bl.length cb, .slice As steps.length cs] w fun e w' => e = .returned (.bool (!(specP bl steps).2)) ∧ Upd [] w w' := by
  have cW := walked_any w Ab As cb cs bl steps hb hbc hbl hO hs hsl hsw
  replace cW := hide cW
  clear hb hO hs hsw
  generalize specP bl steps = r at *
  go_enter Tryd.func16, Tryd.ntmps16
  go_wp2_with (first
    | (go_at_call 27; (with_reducible refine (cW.out).mono ?_); rintro e w1 ⟨ov, kv, rfl, hu1, _, _⟩; unfold four; generalize r.1.1.getD 0 0 = a0 at *; generalize r.1.1.getD 1 0 = a1 at *; generalize r.1.1.getD 2 0 = a2 at *; generalize r.1.1.getD 3 0 = a3 at *; replace hu1 := hide hu1)
    | fail)
  go_ret
  exact ⟨rfl, hu1.out.alloc _⟩
set_option maxRecDepth 100000 in
set_option maxHeartbeats 8000000 in
theorem sriff_any (w : World) (Ab Ac As : Option Addr) (cb nc cc cs : Nat) (bl : List Nat) (steps : List (Int × Int)) (hb : Rd .u8 w w.heap.size Ab (ofNr bl)) (hbc : bl.length ≤ cb) (hbl : (bl.length : Int) ≤ 1073741824) (hO : ∀ x ∈ bl, x ≤ 255)
    (hs : RdS w w.heap.size As steps) (hsl : (steps.length : Int) ≤ 1048576) (hsw : ∀ x ∈ steps, (-9223372036854775808 ≤ x.1 ∧ x.1 ≤ 9223372036854775807) ∧ -9223372036854775808 ≤ x.2 ∧ x.2 ≤ 9223372036854775807) :
    Calls Tryd.prog 18 #[.slice Ab bl.length cb, .slice Ac nc cc, .slice As steps.length cs] w (SRiffPost w (specP bl steps).1) := by
  have u1 := (Upd.refl [] w).alloc (.cells #[.int .u8 0, .int .u8 0, .int .u8 0, .int .u8 0] 22)
  have hz4 := Blk.new w 22 #[.int .u8 0, .int .u8 0, .int .u8 0, .int .u8 0]
  have cW := walked_any (w.alloc (.cells #[.int .u8 0, .int .u8 0, .int .u8 0, .int .u8 0] 22)) Ab As cb cs bl steps ((hb.upd u1 (Nat.le_refl _) (by simp)).more u1.size) hbc hbl hO ((hs.updS u1 (Nat.le_refl _) (by simp)).moreS u1.size) hsl hsw
  have hsz1 : (w.alloc (.cells #[.int .u8 0, .int .u8 0, .int .u8 0, .int .u8 0] 22)).heap.size = w.heap.size + 1 := by simp
  replace cW := hide cW
  replace u1 := hide u1
  replace hz4 := hide hz4
  clear hb hO hs hsw
  replace hsz1 := hide hsz1
  generalize specP bl steps = r at *
  go_enter Tryd.func18, Tryd.ntmps18
  go_upto_region 2 with (first
    | (go_at_call 27; (with_reducible refine (cW.out).mono ?_); rintro e w1 ⟨ov, kv, rfl, hu1, hS1, hk1⟩; unfold four; generalize hg0 : r.1.1.getD 0 0 = a0; generalize hg1 : r.1.1.getD 1 0 = a1; generalize hg2 : r.1.1.getD 2 0 = a2; generalize hg3 : r.1.1.getD 3 0 = a3; replace hg0 := hide hg0; replace hg1 := hide hg1; replace hg2 := hide hg2; replace hg3 := hide hg3; replace hu1 := hide hu1; replace hS1 := hide hS1; replace hk1 := hide hk1)
    | fail)
  have hfb := hide (Blk.new w1 22 #[.int .u8 (a0 : Nat), .int .u8 (a1 : Nat), .int .u8 (a2 : Nat), .int .u8 (a3 : Nat)])
  have hres := hide ((hz4.out.upd hu1.out (by simp)).alloc (.cells #[.int .u8 (a0 : Nat), .int .u8 (a1 : Nat), .int .u8 (a2 : Nat), .int .u8 (a3 : Nat)] 22))
  have u02 := hide ((u1.out.trans hu1.out).alloc (.cells #[.int .u8 (a0 : Nat), .int .u8 (a1 : Nat), .int .u8 (a2 : Nat), .int .u8 (a3 : Nat)] 22))
  have uF := (Upd.refl [] w1).alloc (.cells #[.int .u8 (a0 : Nat), .int .u8 (a1 : Nat), .int .u8 (a2 : Nat), .int .u8 (a3 : Nat)] 22)
  have hS2 : ∃ V, SOuts (w1.alloc (.cells #[.int .u8 (a0 : Nat), .int .u8 (a1 : Nat), .int .u8 (a2 : Nat), .int .u8 (a3 : Nat)] 22)) w.heap.size ov r.1.2.1 V := by
    obtain ⟨V, h⟩ := hS1.out
    obtain ⟨g1, g2, g3⟩ := h.typed (B := 0) (ts := []) uF.typed0 (by simp) (by simp)
    exact ⟨V, own_down g1 (by have := hsz1.out; omega), fun i hi => own_down (g2 i hi) (by have := hsz1.out; omega), g3⟩
  have hk2 := own_down (uF.own hk1.out (by simp)) (show w.heap.size ≤ _ by have := hsz1.out; omega)
  have hlt := (hz4.out.upd hu1.out (by simp)).lt
  replace hS2 := hide hS2
  replace hk2 := hide hk2
  clear uF hS1 hk1 hu1 hz4 u1 cW
  generalize w1.alloc (.cells #[.int .u8 (a0 : Nat), .int .u8 (a1 : Nat), .int .u8 (a2 : Nat), .int .u8 (a3 : Nat)] 22) = w2 at *
  have hfne : ¬ w1.heap.size = w.heap.size := by omega
  have hfne' : ¬ w.heap.size = w1.heap.size := by omega
  have c0 := hfb.out.cell 0
  have c1 := hfb.out.cell 1
  have c2 := hfb.out.cell 2
  have c3 := hfb.out.cell 3
  have d0 := hres.out.cell 0
  have d1 := hres.out.cell 1
  have d2 := hres.out.cell 2
  have d3 := hres.out.cell 3
  have e0 := hres.out.frozen 0
  have e1 := hres.out.frozen 1
  have e2 := hres.out.frozen 2
  have e3 := hres.out.frozen 3
  simp at c0 c1 c2 c3 d0 d1 d2 d3
  go_wp2_with fail
  have uT : UpdT w.heap.size [22] w2 _ := Upd.typed (upd_four (Upd.refl [w.heap.size] w2) (g := w.heap.size) (.inl (by simp)) (.int .u8 (a0 : Nat)) (.int .u8 (a1 : Nat)) (.int .u8 (a2 : Nat)) (.int .u8 (a3 : Nat))) (by simp) (fun k hk _ => by simp at hk; subst hk; exact ⟨_, _, hres.out, by simp⟩)
  have hX := blk_four hres.out (.int .u8 (a0 : Nat)) (.int .u8 (a1 : Nat)) (.int .u8 (a2 : Nat)) (.int .u8 (a3 : Nat))
  have hfo : four r.1.1 = .agg #[.int .u8 (a0 : Nat), .int .u8 (a1 : Nat), .int .u8 (a2 : Nat), .int .u8 (a3 : Nat)] := by rw [four, hg0.out, hg1.out, hg2.out, hg3.out]
  have hfin : SRiffPost w r.1 (.returned (.tuple #[.agg #[.int .u8 (a0 : Nat), .int .u8 (a1 : Nat), .int .u8 (a2 : Nat), .int .u8 (a3 : Nat)], ov, kv])) _ :=
    ⟨ov, kv, by rw [hfo], uT.upd0 u02.out rfl, by obtain ⟨V, h⟩ := hS2.out; exact ⟨V, h.typed uT (by decide) (by decide)⟩, uT.own hk2.out (by decide)⟩
  replace hfin := hide hfin
  exact bodyPost_ret (ret_cell_tmp2 rfl rfl (load_arr4 hX rfl) rfl rfl) rfl (by exact hfin.out)
end Go.Proofs.YthkpoidnhgcjhaaDoor

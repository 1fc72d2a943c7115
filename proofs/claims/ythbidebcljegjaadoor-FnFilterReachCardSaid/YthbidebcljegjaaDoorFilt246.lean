/- The normal filter: only some places next to the edge turn. -/
import Derived.Test.YthbidebcljegjaaDoorF246Round
namespace Go.Proofs.YthbidebcljegjaaDoor
set_option linter.unusedSimpArgs false
set_option linter.unusedVariables false
open Go.RowKit

set_option maxHeartbeats 16000000 in
set_option maxRecDepth 1000000 in
theorem filter246_any (base g n cap : Nat) (P : List Int) (lev il hl c s st : Int) (four : Bool) (S : Nat → Prop) (w : World) (hn : P.length = n) (hB : Bytes P) (hF : Fits8 n c s st 16) (hlev : 0 ≤ lev ∧ lev ≤ 255) (hil : 0 ≤ il ∧ il ≤ 255) (hhl : 0 ≤ hl ∧ hl ≤ 255)
    (hbd : -16384 ≤ c ∧ c ≤ 16384 ∧ -16384 ≤ s ∧ s ≤ 16384 ∧ -16384 ≤ st ∧ st ≤ 16384) (hnn : n ≤ 16384)
    (hS : ∀ m : Nat, m < 16 → ∀ j : Int, (if four then -2 else -3) ≤ j → j ≤ (if four then 1 else 2) → S (c + m * st + j * s).toNat)
    (hown : w.ownsRow base 5 1 (.slice (some ⟨g, 0, none⟩) n cap) n (P.map (Value.int .u8))) :
    Calls Tryd.prog 70 #[.slice (some ⟨g, 0, none⟩) n cap, .int .i64 16, .int .i64 lev, .int .i64 il, .int .i64 hl, .int .i64 c, .int .i64 st, .int .i64 s, .bool four] w fun e w' => e = .returned (.tuple #[]) ∧
      (∃ Q, Tch S P Q ∧ w'.ownsRow base 5 1 (.slice (some ⟨g, 0, none⟩) n cap) n (Q.map (Value.int .u8))) ∧ Upd [g] w w' := by
  go_enter Tryd.func70, Tryd.ntmps70
  go_wp2
  go_loopg [1, 5] 16 (fun k u1 u5 wr => ∃ m : Nat, k + m = 16 ∧ u5 = .int .i64 (c + m * st) ∧ u1 = .int .i64 k ∧ (∃ Q, Tch S P Q ∧ wr.ownsRow base 5 1 (.slice (some ⟨g, 0, none⟩) n cap) n (Q.map (Value.int .u8))) ∧ Upd [g] w wr)
  case atStart => exact ⟨0, rfl, by simp, rfl, ⟨P, Tch.refl hB, hown⟩, Upd.refl _ _⟩
  case round =>
    obtain ⟨m, hm, rfl, rfl, ⟨Q, hT, ho⟩, hU⟩ := hrel
    cases gk with
    | zero =>
      have hm' : m = 16 := by omega
      subst hm'
      replace hT := hide hT
      replace ho := hide ho
      replace hU := hide hU
      clear hF hB hS hown
      go_wp2
      go_end0
      exact ⟨rfl, ⟨Q, hT.out, ho.out⟩, hU.out⟩
    | succ k =>
      rename_i hJK
      refine round246 _ _ base g n cap k P Q lev il hl (c + (m : Int) * st) s st four S w wr hnn (by omega) hlev hil hhl (by omega) (by omega) (hF m (by omega)) (hS m (by omega)) hn hT ho hU ?_
      clear hT ho hU hF hS hown hB
      intro v18 v19 v20 v21 v22 v23 v24 v25 v26 v27 v28 v29 v30 v31 v32 v33 v34 v35 v36 v37 v38 v39 v40 v41 v42 v43 v44 v45 v46 v47 v48 v49 v50 v51 v52 v53 v54 v55 v56 v57 v58 v59 v60 v61 v62 v63 v64 v65 v66 v67 v68 v69 v70 v71 v72 v73 v74 v75 v76 v77 v78 v79 v80 v81 v82 v83 v84 v85 v86 v87 v88 v89 v90 v91 v92 v93 v94 v95 v96 v97 v98 v99 v100 v101 v102 v103 v104 v105 v106 v107 v108 v109 v110 v111 v112 v113 v114 v115 v116 v117 v118 v119 v120 v121 v122 v123 v124 v125 v126 v127 v128 v129 v130 v131 v132 v133 v134 v135 v136 v137 v138 v139 v140 v141 v142 v143 v144 v145 v146 v147 v148 v149 v150 v151 v152 v153 v154 v155 v156 v157 v158 v159 v160 v161 v162 v163 v164 v165 v166 v167 v168 v169 v170 v171 v172 v173 v174 v175 v176 v177 v178 v179 v180 v181 v182 v183 v184 v185 v186 v187 v188 v189 v190 v191 v192 v193 v194 v195 v196 v197 v198 v199 v200 v201 v202 v203 v204 v205 v206 v207 v208 v209 v210 v211 v212 v213 v214 v215 v216 v217 v218 v219 v220 v221 v222 v223 v224 v225 v226 v227 v228 v229 v230 v231 v232 v233 v234 v235 v236 v237 v238 v239 v240 v241 v242 v243 v244 v245 v246 v247 v248 v249 v250 v251 v252 v253 v254 v255 v256 v257 v258 v259 v260 v261 v262 v263 v264 v265 v266 v267 v268 v269 v270 v271 v272 v273 v274 v275 v276 v277 v278 v279 v280 v281 v282 v283 v284 v285 v286 v287 v288 v289 v290 v291 v292 v293 v294 v295 v296 v297 v298 v299 v300 v301 v302 v303 v304 v305 v306 v307 v308 v309 v310 v311 v312 v313 v314 v315 v316 v317 v318 v319 v320 v321 v322 v323 v324 v325 v326 v327 v328 v329 v330 v331 v332 v333 v334 v335 v336 v337 v338 v339 v340 v341 v342 v343 v344 v345 v346 v347 v348 v349 v350 v351 v352 v353 v354 v355 wn hQ hU
      refine hJK _ _ ?_
      go_roundg k
      case measure => omega
      case rel =>
        refine ⟨m + 1, by omega, ?_, rfl, hQ, hU⟩
        have e : c + (m : Int) * st + st = c + ((m + 1 : Nat) : Int) * st := by
          rw [Int.natCast_add, Int.add_mul]
          simp
          omega
        rw [e]
end Go.Proofs.YthbidebcljegjaaDoor

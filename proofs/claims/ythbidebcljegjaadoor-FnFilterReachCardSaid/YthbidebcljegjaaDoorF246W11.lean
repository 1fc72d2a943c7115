/- One way through the round of the normal filter. -/
import Derived.Test.YthbidebcljegjaaDoorF246Def
namespace Go.Proofs.YthbidebcljegjaaDoor
set_option linter.unusedSimpArgs false
set_option linter.unusedVariables false
open Go.RowKit

set_option maxRecDepth 1000000 in
set_option maxHeartbeats 16000000 in
theorem way246_11 {u18 u19 u20 u21 u22 u23 u24 u25 u26 u27 u28 u29 u30 u31 u32 u33 u34 u35 u36 u37 u38 u39 u40 u41 u42 u43 u44 u45 u46 u47 u48 u49 u50 u51 u52 u53 u54 u55 u56 u57 u58 u59 u60 u61 u62 u63 u64 u65 u66 u67 u68 u69 u70 u71 u72 u73 u74 u75 u76 u77 u78 u79 u80 u81 u82 u83 u84 u85 u86 u87 u88 u89 u90 u91 u92 u93 u94 u95 u96 u97 u98 u99 u100 u101 u102 u103 u104 u105 u106 u107 u108 u109 u110 u111 u112 u113 u114 u115 u116 u117 u118 u119 u120 u121 u122 u123 u124 u125 u126 u127 u128 u129 u130 u131 u132 u133 u134 u135 u136 u137 u138 u139 u140 u141 u142 u143 u144 u145 u146 u147 u148 u149 u150 u151 u152 u153 u154 u155 u156 u157 u158 u159 u160 u161 u162 u163 u164 u165 u166 u167 u168 u169 u170 u171 u172 u173 u174 u175 u176 u177 u178 u179 u180 u181 u182 u183 u184 u185 u186 u187 u188 u189 u190 u191 u192 u193 u194 u195 u196 u197 u198 u199 u200 u201 u202 u203 u204 u205 u206 u207 u208 u209 u210 u211 u212 u213 u214 u215 u216 u217 u218 u219 u220 u221 u222 u223 u224 u225 u226 u227 u228 u229 u230 u231 u232 u233 u234 u235 u236 u237 u238 u239 u240 u241 u242 u243 u244 u245 u246 u247 u248 u249 u250 u251 u252 u253 u254 u255 u256 u257 u258 u259 u260 u261 u262 u263 u264 u265 u266 u267 u268 u269 u270 u271 u272 u273 u274 u275 u276 u277 u278 u279 u280 u281 u282 u283 u284 u285 u286 u287 u288 u289 u290 u291 u292 u293 u294 u295 u296 u297 u298 u299 u300 u301 u302 u303 u304 u305 u306 u307 u308 u309 u310 u311 u312 u313 u314 u315 u316 u317 u318 u319 u320 u321 u322 u323 u324 u325 u326 u327 u328 u329 u330 u331 u332 u333 u334 u335 u336 u337 u338 u339 u340 u341 u342 u343 u344 u345 u346 u347 u348 u349 u350 u351 u352 u353 u354 u355 : Value} (K : Act → World → Prop) (Q0 : Exit → Act → World → Prop) (base g n cap k : Nat) (P Q : List Int) (lev il hl d s st : Int) (S : Nat → Prop) (w wr : World) (hnn : n ≤ 16384) (hk16 : (k : Int) ≤ 16)
    (hlev : 0 ≤ lev ∧ lev ≤ 255) (hil : 0 ≤ il ∧ il ≤ 255) (hhl : 0 ≤ hl ∧ hl ≤ 255) (hbs : -16384 ≤ s ∧ s ≤ 16384) (hbt : -16384 ≤ st ∧ st ≤ 16384)
    (hf : ∀ j : Int, -4 ≤ j → j < 4 → 0 ≤ d + j * s ∧ d + j * s < n)
    (hSm : ∀ j : Int, (if true then (-2 : Int) else -3) ≤ j → j ≤ (if true then (1 : Int) else 2) → S (d + j * s).toNat)
    (hQl : P.length = n) (hT : Tch S P Q) (ho : wr.ownsRow base 5 1 (.slice (some ⟨g, 0, none⟩) n cap) n (Q.map (Value.int .u8))) (hU : Upd [g] w wr) (g1 : ¬ lev < dist (Q.getD (d - s).toNat 0) (Q.getD (d).toNat 0) * 2 + dist (Q.getD (d - 2 * s).toNat 0) (Q.getD (d + s).toNat 0) / 2) (g2 : ¬ il < dist (Q.getD (d - 4 * s).toNat 0) (Q.getD (d - 3 * s).toNat 0)) (g3 : ¬ il < dist (Q.getD (d - 3 * s).toNat 0) (Q.getD (d - 2 * s).toNat 0)) (g4 : ¬ il < dist (Q.getD (d - 2 * s).toNat 0) (Q.getD (d - s).toNat 0)) (g5 : ¬ il < dist (Q.getD (d + s).toNat 0) (Q.getD (d).toNat 0)) (g6 : ¬ il < dist (Q.getD (d + 2 * s).toNat 0) (Q.getD (d + s).toNat 0)) (g7 : ¬ il < dist (Q.getD (d + 3 * s).toNat 0) (Q.getD (d + 2 * s).toNat 0)) (g8 : ¬ hl < dist (Q.getD (d - 2 * s).toNat 0) (Q.getD (d - s).toNat 0)) (g9 : ¬ hl < dist (Q.getD (d + s).toNat 0) (Q.getD (d).toNat 0))
    (hK : ∀ (v18 v19 v20 v21 v22 v23 v24 v25 v26 v27 v28 v29 v30 v31 v32 v33 v34 v35 v36 v37 v38 v39 v40 v41 v42 v43 v44 v45 v46 v47 v48 v49 v50 v51 v52 v53 v54 v55 v56 v57 v58 v59 v60 v61 v62 v63 v64 v65 v66 v67 v68 v69 v70 v71 v72 v73 v74 v75 v76 v77 v78 v79 v80 v81 v82 v83 v84 v85 v86 v87 v88 v89 v90 v91 v92 v93 v94 v95 v96 v97 v98 v99 v100 v101 v102 v103 v104 v105 v106 v107 v108 v109 v110 v111 v112 v113 v114 v115 v116 v117 v118 v119 v120 v121 v122 v123 v124 v125 v126 v127 v128 v129 v130 v131 v132 v133 v134 v135 v136 v137 v138 v139 v140 v141 v142 v143 v144 v145 v146 v147 v148 v149 v150 v151 v152 v153 v154 v155 v156 v157 v158 v159 v160 v161 v162 v163 v164 v165 v166 v167 v168 v169 v170 v171 v172 v173 v174 v175 v176 v177 v178 v179 v180 v181 v182 v183 v184 v185 v186 v187 v188 v189 v190 v191 v192 v193 v194 v195 v196 v197 v198 v199 v200 v201 v202 v203 v204 v205 v206 v207 v208 v209 v210 v211 v212 v213 v214 v215 v216 v217 v218 v219 v220 v221 v222 v223 v224 v225 v226 v227 v228 v229 v230 v231 v232 v233 v234 v235 v236 v237 v238 v239 v240 v241 v242 v243 v244 v245 v246 v247 v248 v249 v250 v251 v252 v253 v254 v255 v256 v257 v258 v259 v260 v261 v262 v263 v264 v265 v266 v267 v268 v269 v270 v271 v272 v273 v274 v275 v276 v277 v278 v279 v280 v281 v282 v283 v284 v285 v286 v287 v288 v289 v290 v291 v292 v293 v294 v295 v296 v297 v298 v299 v300 v301 v302 v303 v304 v305 v306 v307 v308 v309 v310 v311 v312 v313 v314 v315 v316 v317 v318 v319 v320 v321 v322 v323 v324 v325 v326 v327 v328 v329 v330 v331 v332 v333 v334 v335 v336 v337 v338 v339 v340 v341 v342 v343 v344 v345 v346 v347 v348 v349 v350 v351 v352 v353 v354 v355 : Value) (wn : World), (∃ Q', Tch S P Q' ∧ wn.ownsRow base 5 1 (.slice (some ⟨g, 0, none⟩) n cap) n (Q'.map (Value.int .u8))) → Upd [g] w wn → K ⟨(.slice (some ⟨g, 0, none⟩) n cap :: .int .i64 (k : Int) :: .int .i64 lev :: .int .i64 il :: .int .i64 hl :: .int .i64 (d + st) :: .int .i64 st :: .int .i64 s :: .bool true :: undef :: undef :: undef :: undef :: undef :: undef :: undef :: undef :: undef :: v18 :: v19 :: v20 :: v21 :: v22 :: v23 :: v24 :: v25 :: v26 :: v27 :: v28 :: v29 :: v30 :: v31 :: v32 :: v33 :: v34 :: v35 :: v36 :: v37 :: v38 :: v39 :: v40 :: v41 :: v42 :: v43 :: v44 :: v45 :: v46 :: v47 :: v48 :: v49 :: v50 :: v51 :: v52 :: v53 :: v54 :: v55 :: v56 :: v57 :: v58 :: v59 :: v60 :: v61 :: v62 :: v63 :: v64 :: v65 :: v66 :: v67 :: v68 :: v69 :: v70 :: v71 :: v72 :: v73 :: v74 :: v75 :: v76 :: v77 :: v78 :: v79 :: v80 :: v81 :: v82 :: v83 :: v84 :: v85 :: v86 :: v87 :: v88 :: v89 :: v90 :: v91 :: v92 :: v93 :: v94 :: v95 :: v96 :: v97 :: v98 :: v99 :: v100 :: v101 :: v102 :: v103 :: v104 :: v105 :: v106 :: v107 :: v108 :: v109 :: v110 :: v111 :: v112 :: v113 :: v114 :: v115 :: v116 :: v117 :: v118 :: v119 :: v120 :: v121 :: v122 :: v123 :: v124 :: v125 :: v126 :: v127 :: v128 :: v129 :: v130 :: v131 :: v132 :: v133 :: v134 :: v135 :: v136 :: v137 :: v138 :: v139 :: v140 :: v141 :: v142 :: v143 :: v144 :: v145 :: v146 :: v147 :: v148 :: v149 :: v150 :: v151 :: v152 :: v153 :: v154 :: v155 :: v156 :: v157 :: v158 :: v159 :: v160 :: v161 :: v162 :: v163 :: v164 :: v165 :: v166 :: v167 :: v168 :: v169 :: v170 :: v171 :: v172 :: v173 :: v174 :: v175 :: v176 :: v177 :: v178 :: v179 :: v180 :: v181 :: v182 :: v183 :: v184 :: v185 :: v186 :: v187 :: v188 :: v189 :: v190 :: v191 :: v192 :: v193 :: v194 :: v195 :: v196 :: v197 :: v198 :: v199 :: v200 :: v201 :: v202 :: v203 :: v204 :: v205 :: v206 :: v207 :: v208 :: v209 :: v210 :: v211 :: v212 :: v213 :: v214 :: v215 :: v216 :: v217 :: v218 :: v219 :: v220 :: v221 :: v222 :: v223 :: v224 :: v225 :: v226 :: v227 :: v228 :: v229 :: v230 :: v231 :: v232 :: v233 :: v234 :: v235 :: v236 :: v237 :: v238 :: v239 :: v240 :: v241 :: v242 :: v243 :: v244 :: v245 :: v246 :: v247 :: v248 :: v249 :: v250 :: v251 :: v252 :: v253 :: v254 :: v255 :: v256 :: v257 :: v258 :: v259 :: v260 :: v261 :: v262 :: v263 :: v264 :: v265 :: v266 :: v267 :: v268 :: v269 :: v270 :: v271 :: v272 :: v273 :: v274 :: v275 :: v276 :: v277 :: v278 :: v279 :: v280 :: v281 :: v282 :: v283 :: v284 :: v285 :: v286 :: v287 :: v288 :: v289 :: v290 :: v291 :: v292 :: v293 :: v294 :: v295 :: v296 :: v297 :: v298 :: v299 :: v300 :: v301 :: v302 :: v303 :: v304 :: v305 :: v306 :: v307 :: v308 :: v309 :: v310 :: v311 :: v312 :: v313 :: v314 :: v315 :: v316 :: v317 :: v318 :: v319 :: v320 :: v321 :: v322 :: v323 :: v324 :: v325 :: v326 :: v327 :: v328 :: v329 :: v330 :: v331 :: v332 :: v333 :: v334 :: v335 :: v336 :: v337 :: v338 :: v339 :: v340 :: v341 :: v342 :: v343 :: v344 :: v345 :: v346 :: v347 :: v348 :: v349 :: v350 :: v351 :: v352 :: v353 :: v354 :: v355 :: [] : List Value).toArray, []⟩ wn) :
    Code.wp Tryd.prog body246 (Exit.then K Q0) ⟨(.slice (some ⟨g, 0, none⟩) n cap :: .int .i64 ((k + 1 : Nat) : Int) :: .int .i64 lev :: .int .i64 il :: .int .i64 hl :: .int .i64 d :: .int .i64 st :: .int .i64 s :: .bool true :: undef :: undef :: undef :: undef :: undef :: undef :: undef :: undef :: undef :: u18 :: u19 :: u20 :: u21 :: u22 :: u23 :: u24 :: u25 :: u26 :: u27 :: u28 :: u29 :: u30 :: u31 :: u32 :: u33 :: u34 :: u35 :: u36 :: u37 :: u38 :: u39 :: u40 :: u41 :: u42 :: u43 :: u44 :: u45 :: u46 :: u47 :: u48 :: u49 :: u50 :: u51 :: u52 :: u53 :: u54 :: u55 :: u56 :: u57 :: u58 :: u59 :: u60 :: u61 :: u62 :: u63 :: u64 :: u65 :: u66 :: u67 :: u68 :: u69 :: u70 :: u71 :: u72 :: u73 :: u74 :: u75 :: u76 :: u77 :: u78 :: u79 :: u80 :: u81 :: u82 :: u83 :: u84 :: u85 :: u86 :: u87 :: u88 :: u89 :: u90 :: u91 :: u92 :: u93 :: u94 :: u95 :: u96 :: u97 :: u98 :: u99 :: u100 :: u101 :: u102 :: u103 :: u104 :: u105 :: u106 :: u107 :: u108 :: u109 :: u110 :: u111 :: u112 :: u113 :: u114 :: u115 :: u116 :: u117 :: u118 :: u119 :: u120 :: u121 :: u122 :: u123 :: u124 :: u125 :: u126 :: u127 :: u128 :: u129 :: u130 :: u131 :: u132 :: u133 :: u134 :: u135 :: u136 :: u137 :: u138 :: u139 :: u140 :: u141 :: u142 :: u143 :: u144 :: u145 :: u146 :: u147 :: u148 :: u149 :: u150 :: u151 :: u152 :: u153 :: u154 :: u155 :: u156 :: u157 :: u158 :: u159 :: u160 :: u161 :: u162 :: u163 :: u164 :: u165 :: u166 :: u167 :: u168 :: u169 :: u170 :: u171 :: u172 :: u173 :: u174 :: u175 :: u176 :: u177 :: u178 :: u179 :: u180 :: u181 :: u182 :: u183 :: u184 :: u185 :: u186 :: u187 :: u188 :: u189 :: u190 :: u191 :: u192 :: u193 :: u194 :: u195 :: u196 :: u197 :: u198 :: u199 :: u200 :: u201 :: u202 :: u203 :: u204 :: u205 :: u206 :: u207 :: u208 :: u209 :: u210 :: u211 :: u212 :: u213 :: u214 :: u215 :: u216 :: u217 :: u218 :: u219 :: u220 :: u221 :: u222 :: u223 :: u224 :: u225 :: u226 :: u227 :: u228 :: u229 :: u230 :: u231 :: u232 :: u233 :: u234 :: u235 :: u236 :: u237 :: u238 :: u239 :: u240 :: u241 :: u242 :: u243 :: u244 :: u245 :: u246 :: u247 :: u248 :: u249 :: u250 :: u251 :: u252 :: u253 :: u254 :: u255 :: u256 :: u257 :: u258 :: u259 :: u260 :: u261 :: u262 :: u263 :: u264 :: u265 :: u266 :: u267 :: u268 :: u269 :: u270 :: u271 :: u272 :: u273 :: u274 :: u275 :: u276 :: u277 :: u278 :: u279 :: u280 :: u281 :: u282 :: u283 :: u284 :: u285 :: u286 :: u287 :: u288 :: u289 :: u290 :: u291 :: u292 :: u293 :: u294 :: u295 :: u296 :: u297 :: u298 :: u299 :: u300 :: u301 :: u302 :: u303 :: u304 :: u305 :: u306 :: u307 :: u308 :: u309 :: u310 :: u311 :: u312 :: u313 :: u314 :: u315 :: u316 :: u317 :: u318 :: u319 :: u320 :: u321 :: u322 :: u323 :: u324 :: u325 :: u326 :: u327 :: u328 :: u329 :: u330 :: u331 :: u332 :: u333 :: u334 :: u335 :: u336 :: u337 :: u338 :: u339 :: u340 :: u341 :: u342 :: u343 :: u344 :: u345 :: u346 :: u347 :: u348 :: u349 :: u350 :: u351 :: u352 :: u353 :: u354 :: u355 :: [] : List Value).toArray, []⟩ wr := by
  have hQ := hT.by_
  obtain ⟨bp3, ep3⟩ : 0 ≤ d - 4 * s ∧ d - 4 * s < n := by have := hf (-4) (by decide) (by decide); omega
  obtain ⟨bp2, ep2⟩ : 0 ≤ d - 3 * s ∧ d - 3 * s < n := by have := hf (-3) (by decide) (by decide); omega
  obtain ⟨bp1, ep1⟩ : 0 ≤ d - 2 * s ∧ d - 2 * s < n := by have := hf (-2) (by decide) (by decide); omega
  obtain ⟨bp0, ep0⟩ : 0 ≤ d - s ∧ d - s < n := by have := hf (-1) (by decide) (by decide); omega
  obtain ⟨bq0, eq0⟩ : 0 ≤ d ∧ d < n := by have := hf (0) (by decide) (by decide); omega
  obtain ⟨bq1, eq1⟩ : 0 ≤ d + s ∧ d + s < n := by have := hf (1) (by decide) (by decide); omega
  obtain ⟨bq2, eq2⟩ : 0 ≤ d + 2 * s ∧ d + 2 * s < n := by have := hf (2) (by decide) (by decide); omega
  obtain ⟨bq3, eq3⟩ : 0 ≤ d + 3 * s ∧ d + 3 * s < n := by have := hf (3) (by decide) (by decide); omega
  have sp2 : (if true then (-2 : Int) else -3) ≤ -3 → -3 ≤ (if true then (1 : Int) else 2) → S (d - 3 * s).toNat := fun h1 h2 => by have := hSm (-3) h1 h2; rwa [show d + -3 * s = d - 3 * s by omega] at this
  have sp1 : (if true then (-2 : Int) else -3) ≤ -2 → -2 ≤ (if true then (1 : Int) else 2) → S (d - 2 * s).toNat := fun h1 h2 => by have := hSm (-2) h1 h2; rwa [show d + -2 * s = d - 2 * s by omega] at this
  have sp0 : (if true then (-2 : Int) else -3) ≤ -1 → -1 ≤ (if true then (1 : Int) else 2) → S (d - s).toNat := fun h1 h2 => by have := hSm (-1) h1 h2; rwa [show d + -1 * s = d - s by omega] at this
  have sq0 : (if true then (-2 : Int) else -3) ≤ 0 → 0 ≤ (if true then (1 : Int) else 2) → S (d).toNat := fun h1 h2 => by have := hSm (0) h1 h2; rwa [show d + 0 * s = d by omega] at this
  have sq1 : (if true then (-2 : Int) else -3) ≤ 1 → 1 ≤ (if true then (1 : Int) else 2) → S (d + s).toNat := fun h1 h2 => by have := hSm (1) h1 h2; rwa [show d + 1 * s = d + s by omega] at this
  have sq2 : (if true then (-2 : Int) else -3) ≤ 2 → 2 ≤ (if true then (1 : Int) else 2) → S (d + 2 * s).toNat := fun h1 h2 => by have := hSm (2) h1 h2; rwa [show d + 2 * s = d + 2 * s by omega] at this
  clear hf hSm
  have vp3 := own_cell ho (d - 4 * s).toNat (by omega)
  have wp3 := hQ (d - 4 * s).toNat
  have vp2 := own_cell ho (d - 3 * s).toNat (by omega)
  have wp2 := hQ (d - 3 * s).toNat
  have vp1 := own_cell ho (d - 2 * s).toNat (by omega)
  have wp1 := hQ (d - 2 * s).toNat
  have vp0 := own_cell ho (d - s).toNat (by omega)
  have wp0 := hQ (d - s).toNat
  have vq0 := own_cell ho (d).toNat (by omega)
  have wq0 := hQ (d).toNat
  have vq1 := own_cell ho (d + s).toNat (by omega)
  have wq1 := hQ (d + s).toNat
  have vq2 := own_cell ho (d + 2 * s).toNat (by omega)
  have wq2 := hQ (d + 2 * s).toNat
  have vq3 := own_cell ho (d + 3 * s).toNat (by omega)
  have wq3 := hQ (d + 3 * s).toNat
  have zp2 := ho.frozenAt (d - 3 * s).toNat
  have zp1 := ho.frozenAt (d - 2 * s).toNat
  have zp0 := ho.frozenAt (d - s).toNat
  have zq0 := ho.frozenAt (d).toNat
  have zq1 := ho.frozenAt (d + s).toNat
  have zq2 := ho.frozenAt (d + 2 * s).toNat
  generalize Q.getD (d - 4 * s).toNat 0 = p3 at *
  generalize Q.getD (d - 3 * s).toNat 0 = p2 at *
  generalize Q.getD (d - 2 * s).toNat 0 = p1 at *
  generalize Q.getD (d - s).toNat 0 = p0 at *
  generalize Q.getD (d).toNat 0 = q0 at *
  generalize Q.getD (d + s).toNat 0 = q1 at *
  generalize Q.getD (d + 2 * s).toNat 0 = q2 at *
  generalize Q.getD (d + 3 * s).toNat 0 = q3 at *
  have k0 := fun w => abs_dist p0 q0 w wp0 wq0
  have y0 := dist_bd p0 q0 wp0 wq0
  generalize dist p0 q0 = d0 at *
  replace k0 := hide k0
  have k1 := fun w => abs_dist p1 q1 w wp1 wq1
  have y1 := dist_bd p1 q1 wp1 wq1
  generalize dist p1 q1 = d1 at *
  replace k1 := hide k1
  have k2 := fun w => abs_dist p3 p2 w wp3 wp2
  have y2 := dist_bd p3 p2 wp3 wp2
  generalize dist p3 p2 = d2 at *
  replace k2 := hide k2
  have k3 := fun w => abs_dist p2 p1 w wp2 wp1
  have y3 := dist_bd p2 p1 wp2 wp1
  generalize dist p2 p1 = d3 at *
  replace k3 := hide k3
  have k4 := fun w => abs_dist p1 p0 w wp1 wp0
  have y4 := dist_bd p1 p0 wp1 wp0
  generalize dist p1 p0 = d4 at *
  replace k4 := hide k4
  have k5 := fun w => abs_dist q1 q0 w wq1 wq0
  have y5 := dist_bd q1 q0 wq1 wq0
  generalize dist q1 q0 = d5 at *
  replace k5 := hide k5
  have k6 := fun w => abs_dist q2 q1 w wq2 wq1
  have y6 := dist_bd q2 q1 wq2 wq1
  generalize dist q2 q1 = d6 at *
  replace k6 := hide k6
  have k7 := fun w => abs_dist q3 q2 w wq3 wq2
  have y7 := dist_bd q3 q2 wq3 wq2
  generalize dist q3 q2 = d7 at *
  replace k7 := hide k7
  have hdb : -1000000000 ≤ d ∧ d ≤ 1000000000 := by omega
  obtain ⟨hdb1, hdb2⟩ := hdb
  have hk0 : (0 : Int) < (k : Int) + 1 := by omega
  replace hT := hide hT
  replace ho := hide ho
  replace hU := hide hU
  replace hQl := hide hQl
  replace hK := hide hK
  clear hQ
  conv => arg 2; whnf
  go_wp2_with (first
    | (go_at_call 72; (with_reducible refine (k0.out _).mono ?_); rintro e w' ⟨rfl, rfl⟩)
    | (go_at_call 72; (with_reducible refine (k1.out _).mono ?_); rintro e w' ⟨rfl, rfl⟩)
    | (go_at_call 72; (with_reducible refine (k2.out _).mono ?_); rintro e w' ⟨rfl, rfl⟩)
    | (go_at_call 72; (with_reducible refine (k3.out _).mono ?_); rintro e w' ⟨rfl, rfl⟩)
    | (go_at_call 72; (with_reducible refine (k4.out _).mono ?_); rintro e w' ⟨rfl, rfl⟩)
    | (go_at_call 72; (with_reducible refine (k5.out _).mono ?_); rintro e w' ⟨rfl, rfl⟩)
    | (go_at_call 72; (with_reducible refine (k6.out _).mono ?_); rintro e w' ⟨rfl, rfl⟩)
    | (go_at_call 72; (with_reducible refine (k7.out _).mono ?_); rintro e w' ⟨rfl, rfl⟩)
    | (go_at_call 73; (with_reducible refine (clamp127_ex _ _).mono ?_); rintro e w' ⟨y, rfl, hy1, hy2, rfl⟩)
    | (go_at_call 74; (with_reducible refine (clamp15_ex _ _).mono ?_); rintro e w' ⟨y, rfl, hy1, hy2, rfl⟩)
    | fail)
  (with_reducible refine (clamp255_ex _ _).mono ?_)
  rintro e w' ⟨x0, rfl, hx0, rfl⟩
  have o0 := hide (own_set ho.out (d - 2 * s).toNat x0)
  have T0 := hide (hT.out.set (d - 2 * s).toNat x0 (sp1 (by decide) (by decide)) hx0)
  have U0 := hide (hU.out.setCell (p := ⟨g, (d - 2 * s).toNat, none⟩) (.inl (by simp)) (.int .u8 x0))
  have c0 := own_cell o0.out (d - s).toNat (by omega)
  go_wp2_with (first
    | (go_at_call 72; (with_reducible refine (k0.out _).mono ?_); rintro e w' ⟨rfl, rfl⟩)
    | (go_at_call 72; (with_reducible refine (k1.out _).mono ?_); rintro e w' ⟨rfl, rfl⟩)
    | (go_at_call 72; (with_reducible refine (k2.out _).mono ?_); rintro e w' ⟨rfl, rfl⟩)
    | (go_at_call 72; (with_reducible refine (k3.out _).mono ?_); rintro e w' ⟨rfl, rfl⟩)
    | (go_at_call 72; (with_reducible refine (k4.out _).mono ?_); rintro e w' ⟨rfl, rfl⟩)
    | (go_at_call 72; (with_reducible refine (k5.out _).mono ?_); rintro e w' ⟨rfl, rfl⟩)
    | (go_at_call 72; (with_reducible refine (k6.out _).mono ?_); rintro e w' ⟨rfl, rfl⟩)
    | (go_at_call 72; (with_reducible refine (k7.out _).mono ?_); rintro e w' ⟨rfl, rfl⟩)
    | (go_at_call 73; (with_reducible refine (clamp127_ex _ _).mono ?_); rintro e w' ⟨y, rfl, hy1, hy2, rfl⟩)
    | (go_at_call 74; (with_reducible refine (clamp15_ex _ _).mono ?_); rintro e w' ⟨y, rfl, hy1, hy2, rfl⟩)
    | fail)
  (with_reducible refine (clamp255_ex _ _).mono ?_)
  rintro e w' ⟨x1, rfl, hx1, rfl⟩
  have o1 := hide (own_set o0.out (d - s).toNat x1)
  have T1 := hide (T0.out.set (d - s).toNat x1 (sp0 (by decide) (by decide)) hx1)
  have U1 := hide (U0.out.setCell (p := ⟨g, (d - s).toNat, none⟩) (.inl (by simp)) (.int .u8 x1))
  have c1 := own_cell o1.out (d).toNat (by omega)
  go_wp2_with (first
    | (go_at_call 72; (with_reducible refine (k0.out _).mono ?_); rintro e w' ⟨rfl, rfl⟩)
    | (go_at_call 72; (with_reducible refine (k1.out _).mono ?_); rintro e w' ⟨rfl, rfl⟩)
    | (go_at_call 72; (with_reducible refine (k2.out _).mono ?_); rintro e w' ⟨rfl, rfl⟩)
    | (go_at_call 72; (with_reducible refine (k3.out _).mono ?_); rintro e w' ⟨rfl, rfl⟩)
    | (go_at_call 72; (with_reducible refine (k4.out _).mono ?_); rintro e w' ⟨rfl, rfl⟩)
    | (go_at_call 72; (with_reducible refine (k5.out _).mono ?_); rintro e w' ⟨rfl, rfl⟩)
    | (go_at_call 72; (with_reducible refine (k6.out _).mono ?_); rintro e w' ⟨rfl, rfl⟩)
    | (go_at_call 72; (with_reducible refine (k7.out _).mono ?_); rintro e w' ⟨rfl, rfl⟩)
    | (go_at_call 73; (with_reducible refine (clamp127_ex _ _).mono ?_); rintro e w' ⟨y, rfl, hy1, hy2, rfl⟩)
    | (go_at_call 74; (with_reducible refine (clamp15_ex _ _).mono ?_); rintro e w' ⟨y, rfl, hy1, hy2, rfl⟩)
    | fail)
  (with_reducible refine (clamp255_ex _ _).mono ?_)
  rintro e w' ⟨x2, rfl, hx2, rfl⟩
  have o2 := hide (own_set o1.out (d).toNat x2)
  have T2 := hide (T1.out.set (d).toNat x2 (sq0 (by decide) (by decide)) hx2)
  have U2 := hide (U1.out.setCell (p := ⟨g, (d).toNat, none⟩) (.inl (by simp)) (.int .u8 x2))
  have c2 := own_cell o2.out (d + s).toNat (by omega)
  go_wp2_with (first
    | (go_at_call 72; (with_reducible refine (k0.out _).mono ?_); rintro e w' ⟨rfl, rfl⟩)
    | (go_at_call 72; (with_reducible refine (k1.out _).mono ?_); rintro e w' ⟨rfl, rfl⟩)
    | (go_at_call 72; (with_reducible refine (k2.out _).mono ?_); rintro e w' ⟨rfl, rfl⟩)
    | (go_at_call 72; (with_reducible refine (k3.out _).mono ?_); rintro e w' ⟨rfl, rfl⟩)
    | (go_at_call 72; (with_reducible refine (k4.out _).mono ?_); rintro e w' ⟨rfl, rfl⟩)
    | (go_at_call 72; (with_reducible refine (k5.out _).mono ?_); rintro e w' ⟨rfl, rfl⟩)
    | (go_at_call 72; (with_reducible refine (k6.out _).mono ?_); rintro e w' ⟨rfl, rfl⟩)
    | (go_at_call 72; (with_reducible refine (k7.out _).mono ?_); rintro e w' ⟨rfl, rfl⟩)
    | (go_at_call 73; (with_reducible refine (clamp127_ex _ _).mono ?_); rintro e w' ⟨y, rfl, hy1, hy2, rfl⟩)
    | (go_at_call 74; (with_reducible refine (clamp15_ex _ _).mono ?_); rintro e w' ⟨y, rfl, hy1, hy2, rfl⟩)
    | fail)
  (with_reducible refine (clamp255_ex _ _).mono ?_)
  rintro e w' ⟨x3, rfl, hx3, rfl⟩
  have o3 := hide (own_set o2.out (d + s).toNat x3)
  have T3 := hide (T2.out.set (d + s).toNat x3 (sq1 (by decide) (by decide)) hx3)
  have U3 := hide (U2.out.setCell (p := ⟨g, (d + s).toNat, none⟩) (.inl (by simp)) (.int .u8 x3))
  go_wp2_with (first
    | (go_at_call 72; (with_reducible refine (k0.out _).mono ?_); rintro e w' ⟨rfl, rfl⟩)
    | (go_at_call 72; (with_reducible refine (k1.out _).mono ?_); rintro e w' ⟨rfl, rfl⟩)
    | (go_at_call 72; (with_reducible refine (k2.out _).mono ?_); rintro e w' ⟨rfl, rfl⟩)
    | (go_at_call 72; (with_reducible refine (k3.out _).mono ?_); rintro e w' ⟨rfl, rfl⟩)
    | (go_at_call 72; (with_reducible refine (k4.out _).mono ?_); rintro e w' ⟨rfl, rfl⟩)
    | (go_at_call 72; (with_reducible refine (k5.out _).mono ?_); rintro e w' ⟨rfl, rfl⟩)
    | (go_at_call 72; (with_reducible refine (k6.out _).mono ?_); rintro e w' ⟨rfl, rfl⟩)
    | (go_at_call 72; (with_reducible refine (k7.out _).mono ?_); rintro e w' ⟨rfl, rfl⟩)
    | (go_at_call 73; (with_reducible refine (clamp127_ex _ _).mono ?_); rintro e w' ⟨y, rfl, hy1, hy2, rfl⟩)
    | (go_at_call 74; (with_reducible refine (clamp15_ex _ _).mono ?_); rintro e w' ⟨y, rfl, hy1, hy2, rfl⟩)
    | fail)
  exact hK.out _ _ _ _ _ _ _ _ _ _ _ _ _ _ _ _ _ _ _ _ _ _ _ _ _ _ _ _ _ _ _ _ _ _ _ _ _ _ _ _ _ _ _ _ _ _ _ _ _ _ _ _ _ _ _ _ _ _ _ _ _ _ _ _ _ _ _ _ _ _ _ _ _ _ _ _ _ _ _ _ _ _ _ _ _ _ _ _ _ _ _ _ _ _ _ _ _ _ _ _ _ _ _ _ _ _ _ _ _ _ _ _ _ _ _ _ _ _ _ _ _ _ _ _ _ _ _ _ _ _ _ _ _ _ _ _ _ _ _ _ _ _ _ _ _ _ _ _ _ _ _ _ _ _ _ _ _ _ _ _ _ _ _ _ _ _ _ _ _ _ _ _ _ _ _ _ _ _ _ _ _ _ _ _ _ _ _ _ _ _ _ _ _ _ _ _ _ _ _ _ _ _ _ _ _ _ _ _ _ _ _ _ _ _ _ _ _ _ _ _ _ _ _ _ _ _ _ _ _ _ _ _ _ _ _ _ _ _ _ _ _ _ _ _ _ _ _ _ _ _ _ _ _ _ _ _ _ _ _ _ _ _ _ _ _ _ _ _ _ _ _ _ _ _ _ _ _ _ _ _ _ _ _ _ _ _ _ _ _ _ _ _ _ _ _ _ _ _ _ _ _ _ _ _ _ _ _ _ _ _ _ _ _ _ _ _ _ _ _ _ _ _ _ _ _ _ _ _ _ _ _ _ _ _ _ _ _ _ _ ⟨_, T3.out, o3.out⟩ U3.out
end Go.Proofs.YthbidebcljegjaaDoor

/- LawS2589AStep: from the first loop to the end. -/
import Derived.Test.YbulkbapcMid
namespace Go.Proofs.Ybulkbapc
open Go.ChangeShapes Go.WideShapes Go.ChangeAt Go.RowKit
set_option linter.unusedVariables false

set_option maxRecDepth 100000 in
set_option maxHeartbeats 8000000 in
theorem front (B : Nat) (w0 : World) (f rd ph : Int) (n q adj C c0 c1 c2 : Nat) (pr : Option Addr) (nr cr : Nat) (rin : List Bool) (tm : Bool) (pl : Option Addr) (nl cl : Nat) (lin : List Int) (ph' : Option Addr) (nh ch : Nat) (hin : List Bool) (w : World)
    (n0 : 1 ≤ n) (n1 : n ≤ 40) (f0 : 0 ≤ f) (f1 : f ≤ 20) (hqn : q < n) (p0 : 0 ≤ ph) (p1 : ph ≤ 3) (r0 : -9223372036854775808 ≤ rd) (r1 : rd ≤ 9223372036854775807) (hadj : Fin64 adj) (hl : IntsIn B w0 pl lin) (hll : lin.length = nl) (hlb : ∀ x ∈ lin, -32768 ≤ x ∧ x ≤ 32767) (hhi : BoolsIn B w0 ph' hin) (hhl : hin.length = nh) (hr : BoolsIn B w0 pr rin) (hrl : rin.length = nr)
    (hC : Box w C (rc c0 c1 c2 n 0) 29) (hR : Box w c2 (bools (List.replicate n false)) 4) (hCl : B ≤ C) (hRl : B ≤ c2) (hbel : Below B w0 w) (hBw : B ≤ w0.heap.size)
    (v0 v1 v2 v3 v7 v10 v11 v12 v13 v14 v15 v16 v17 v18 v19 v27 v28 v29 v30 v31 v32 v33 v34 v35 v36 v37 v38 v39 v40 v41 v42 v43 v44 v45 v46 v47 v48 v49 v50 v51 v52 v53 v54 v55 v56 v57 v58 v59 v60 v61 v62 v63 v64 v65 v66 v67 v68 v69 v70 v71 v72 v73 v74 v75 v76 v77 v78 v79 v80 v81 v82 v83 v84 v85 v86 v87 v88 v89 v90 v91 v92 v93 v94 v95 v96 v97 v98 v99 v100 v101 v102 v103 v104 v105 v106 v107 v108 v109 v110 v111 v112 v113 v114 v115 v116 v117 v118 v119 v120 v121 v122 v123 v124 v125 v126 v127 v128 v129 v130 v131 v132 v133 v134 v135 v136 v137 v138 v139 v140 v141 v142 v143 v144 v145 v146 v147 v148 v149 v150 v151 v152 v153 v154 v155 v156 v157 v158 v159 v160 v161 v162 v163 v164 v165 v166 v167 v168 v169 v170 v171 v172 v173 v174 v175 v176 v177 v178 v179 v180 v181 v182 v183 v184 v185 v186 v187 v188 v189 v190 v191 v192 v193 v194 v195 v196 v197 v198 v199 v200 v201 v202 v203 v204 v205 v206 v207 v208 v209 v210 v211 v212 v213 v214 v215 v216 v217 v218 v219 v220 v221 v222 v223 v224 v225 v226 v227 v228 v229 v230 v231 v232 v233 v234 v235 v236 v237 v238 v239 v240 v241 v242 v243 v244 v245 v246 v247 v248 v249 v250 v251 v252 v253 v254 v255 v256 v257 v258 v259 v260 v261 v262 v263 v264 v265 v266 v267 v268 v269 v270 v271 v272 v273 v274 v275 v276 v277 v278 v279 v280 v281 v282 v283 v284 v285 v286 v287 v288 v289 v290 v291 v292 v293 v294 v295 v296 v297 v298 v299 v300 v301 v302 v303 v304 v305 v306 v307 v308 v309 v310 v311 v312 v313 v314 v315 v316 v317 v318 v319 v320 v321 v322 v323 v324 v325 v326 v327 v328 v329 v330 v331 v332 v333 v334 v335 v336 v337 v338 v339 v340 v341 v342 v343 v344 v345 v346 v347 v348 v349 v350 v351 v352 v353 v354 v355 v356 v357 v358 v359 v360 v361 v362 v363 : Value) :
    Code.wp Yba.prog ((Yba.f3.body.bind (suffixAt 7)).getD .skip) (bodyPost Yba.prog Yba.f3 fun e w' => e = .returned (.bool true) ∧ Below B w0 w') ⟨#[v0, v1, v2, v3, .int .i64 rd, .bool tm, .slice pr nr cr, v7, .slice pl nl cl, .slice ph' nh ch, v10, v11, v12, v13, v14, v15, v16, v17, v18, v19, .bool false, .int .i64 (n : Int), .int .i64 f, .int .i64 (q : Int), .int .u8 ph, .float .f64 adj, .pointer (some ⟨C, 0, none⟩), v27, v28, v29, v30, v31, v32, v33, v34, v35, v36, v37, v38, v39, v40, v41, v42, v43, v44, v45, v46, v47, v48, v49, v50, v51, v52, v53, v54, v55, v56, v57, v58, v59, v60, v61, v62, v63, v64, v65, v66, v67, v68, v69, v70, v71, v72, v73, v74, v75, v76, v77, v78, v79, v80, v81, v82, v83, v84, v85, v86, v87, v88, v89, v90, v91, v92, v93, v94, v95, v96, v97, v98, v99, v100, v101, v102, v103, v104, v105, v106, v107, v108, v109, v110, v111, v112, v113, v114, v115, v116, v117, v118, v119, v120, v121, v122, v123, v124, v125, v126, v127, v128, v129, v130, v131, v132, v133, v134, v135, v136, v137, v138, v139, v140, v141, v142, v143, v144, v145, v146, v147, v148, v149, v150, v151, v152, v153, v154, v155, v156, v157, v158, v159, v160, v161, v162, v163, v164, v165, v166, v167, v168, v169, v170, v171, v172, v173, v174, v175, v176, v177, v178, v179, v180, v181, v182, v183, v184, v185, v186, v187, v188, v189, v190, v191, v192, v193, v194, v195, v196, v197, v198, v199, v200, v201, v202, v203, v204, v205, v206, v207, v208, v209, v210, v211, v212, v213, v214, v215, v216, v217, v218, v219, v220, v221, v222, v223, v224, v225, v226, v227, v228, v229, v230, v231, v232, v233, v234, v235, v236, v237, v238, v239, v240, v241, v242, v243, v244, v245, v246, v247, v248, v249, v250, v251, v252, v253, v254, v255, v256, v257, v258, v259, v260, v261, v262, v263, v264, v265, v266, v267, v268, v269, v270, v271, v272, v273, v274, v275, v276, v277, v278, v279, v280, v281, v282, v283, v284, v285, v286, v287, v288, v289, v290, v291, v292, v293, v294, v295, v296, v297, v298, v299, v300, v301, v302, v303, v304, v305, v306, v307, v308, v309, v310, v311, v312, v313, v314, v315, v316, v317, v318, v319, v320, v321, v322, v323, v324, v325, v326, v327, v328, v329, v330, v331, v332, v333, v334, v335, v336, v337, v338, v339, v340, v341, v342, v343, v344, v345, v346, v347, v348, v349, v350, v351, v352, v353, v354, v355, v356, v357, v358, v359, v360, v361, v362, v363], []⟩ w := by
  show Code.wp Yba.prog (Code.seq _ _) _ _ _
  go_wp2_with fail
  go_loopg [27, 28] n (fun gk cv iv wr => ∃ (k : Nat) (cnt : Int) (rs : List Bool), gk + k = n ∧ iv = .int .i64 (k : Int) ∧ cv = .int .i64 cnt ∧ 0 ≤ cnt ∧ cnt ≤ (k : Int) ∧ rs.length = n ∧ Box wr C (rc c0 c1 c2 n 0) 29 ∧ Box wr c2 (bools rs) 4 ∧ Below B w0 wr)
  case atStart => exact ⟨0, 0, _, rfl, rfl, rfl, by omega, by omega, by simp, hC, hR, hbel⟩
  case round =>
    clear hC hR hbel
    obtain ⟨k, cnt, rs, hk, rfl, rfl, t0, t1, hrs, hC, hR, hbel⟩ := hrel
    by_cases hkn : k < n
    · have hki : (k : Int) < (n : Int) := by omega
      have c2' : wr.cell? ⟨C, 2, none⟩ = some (.slice (some ⟨c2, 0, none⟩) n n) := hC.cell 2 rfl
      obtain ⟨x0, hx0⟩ : ∃ x0, rs[k]? = some x0 := ⟨_, List.getElem?_eq_getElem (by omega)⟩
      have ck : wr.cell? ⟨c2, k, none⟩ = some (.bool x0) := hR.cell k (bools_at hx0)
      have vk := hR.free k
      have hCR := hC.ne hR (by decide)
      clear hx0
      by_cases hkr : k < nr
      · have hkri : (k : Int) < (nr : Int) := by omega
        obtain ⟨b, o, hp, hb, hc⟩ := (hr.later hbel) (by intro h; rw [h] at hrl; simp at hrl; omega)
        obtain ⟨x, hx⟩ : ∃ x, rin[k]? = some x := ⟨_, List.getElem?_eq_getElem (by omega)⟩
        have cx := hc k x hx
        subst hp
        clear hc hx
        cases x with
        | true =>
          go_wp2_with fail
          go_roundg (gk - 1)
          case measure => omega
          case rel =>
            refine ⟨k + 1, cnt + 1, rs.set k true, by omega, by go_num, by go_num, by omega, by omega, by simpa using hrs, hC.other hCR _, ?_, hbel.setCell hRl _⟩
            have := hR.set k (.bool true)
            rw [bools_set] at this
            exact this
        | false =>
          go_wp2_with fail
          go_roundg (gk - 1)
          case measure => omega
          case rel => exact ⟨k + 1, cnt, rs, by omega, by go_num, rfl, t0, by omega, hrs, hC, hR, hbel⟩
      · have hkri : ¬ (k : Int) < (nr : Int) := by omega
        go_wp2_with fail
        go_roundg (gk - 1)
        case measure => omega
        case rel => exact ⟨k + 1, cnt, rs, by omega, by go_num, rfl, t0, by omega, hrs, hC, hR, hbel⟩
    · obtain rfl : n = k := by omega
      have c3' : wr.cell? ⟨C, 3, none⟩ = some (.int .i64 0) := hC.cell 3 rfl
      have v3' := hC.free 3
      have hCR := hC.ne hR (by decide)
      have hC1 : Box (wr.setCell ⟨C, 3, none⟩ (.int .i64 cnt)) C (rc c0 c1 c2 n cnt) 29 := hC.set 3 (.int .i64 cnt)
      have hR1 := hR.other (a := ⟨C, 3, none⟩) (fun e => hCR e.symm) (.int .i64 cnt)
      have hbel1 : Below B w0 (wr.setCell ⟨C, 3, none⟩ (.int .i64 cnt)) := hbel.setCell hCl _
      go_upto_region 15 with fail
      clear c3' v3' hC hR hbel
      obtain ⟨W1, hW1⟩ : ∃ W1, W1 = wr.setCell ⟨C, 3, none⟩ (.int .i64 cnt) := ⟨_, rfl⟩
      rw [← hW1]
      rw [← hW1] at hC1 hR1 hbel1
      clear hW1
      have hz1 := hbel1.size
      have hCl1 := hC1.lt
      have hRl1 := hR1.lt
      refine region15 n (by omega) _ _ _ _ _ _ _ _ _ _ _ _ _ _ _ _ _ _ _ _ _ _ _ _ _ _ _ _ _ _ _ _ _ _ _ _ _ _ _ _ _ _ _ _ _ _ _ _ _ _ _ _ _ _ _ _ _ _ _ _ _ _ _ _ _ _ _ _ _ _ _ _ _ _ _ _ _ _ _ _ _ _ _ _ _ _ _ _ _ _ _ _ _ _ _ _ _ _ _ _ _ _ _ _ _ _ _ _ (fun u97 u98 u99 u100 u101 u102 u103 u104 d0 d1 d2 w' hN h0 h1 h2 l0 l1 l2 hb2 => ?_)
      have hBz : B ≤ W1.heap.size := Nat.le_trans hBw hz1
      rename_i aK
      refine aK _ _ ?_
      exact mid B w0 f rd ph cnt n q adj C (W1.heap.size + 1 + 1 + 1) c0 c1 c2 d0 d1 d2 tm pl nl cl lin ph' nh ch hin rs w' n0 n1 f0 f1 hqn p0 p1 r0 r1 hadj hl hll hlb hhi hhl t0 t1 hrs (hC1.below hb2) (hR1.below hb2) hN h0 h1 (by omega) (by omega) hCl hRl (by omega) (by omega) (hbel1.trans (hb2.mono hBz)) hBw _ _ _ _ _ _ _ _ _ _ _ _ _ _ _ _ _ _ _ _ _ _ _ _ _ _ _ _ _ _ _ _ _ _ _ _ _ _ _ _ _ _ _ _ _ _ _ _ _ _ _ _ _ _ _ _ _ _ _ _ _ _ _ _ _ _ _ _ _ _ _ _ _ _ _ _ _ _ _ _ _ _ _ _ _ _ _ _ _ _ _ _ _ _ _ _ _ _ _ _ _ _ _ _ _ _ _ _ _ _ _ _ _ _ _ _ _ _ _ _ _ _ _ _ _ _ _ _ _ _ _ _ _ _ _ _ _ _ _ _ _ _ _ _ _ _ _ _ _ _ _ _ _ _ _ _ _ _ _ _ _ _ _ _ _ _ _ _ _ _ _ _ _ _ _ _ _ _ _ _ _ _ _ _ _ _ _ _ _ _ _ _ _ _ _ _ _ _ _ _ _ _ _ _ _ _ _ _ _ _ _ _ _ _ _ _ _ _ _ _ _ _ _ _ _ _ _ _ _ _ _ _ _ _ _ _ _ _ _ _ _ _ _ _ _ _ _ _ _ _ _ _ _ _ _ _ _ _ _ _ _ _ _ _ _ _ _ _ _ _ _ _ _ _ _ _ _ _ _ _ _ _ _ _ _ _ _ _ _ _ _ _ _ _ _ _ _ _ _ _ _ _ _ _ _ _ _ _ _ _ _ _ _ _ _ _ _ _ _ _ _ _ _ _ _ _ _ _ _ _ _ _ _ _ _ _ _ _ _ _ _ _ _ _ _ _ _ _ _ _ _
end Go.Proofs.Ybulkbapc

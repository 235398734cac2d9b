/- LawS2589AStep: the checks behind the call. -/
import Derived.Test.YbulkbapcSmall
namespace Go.Proofs.Ybulkbapc
open Go.ChangeShapes Go.WideShapes Go.ChangeAt Go.RowKit
set_option linter.unusedVariables false

theorem below_drewN {B : Nat} {w w' : World} (h : Below B w w') (n : Nat) : Below B w (w'.drewN n) := by
  induction n with
  | zero => exact h
  | succ n ih => exact ih.drew
set_option maxRecDepth 100000 in
set_option maxHeartbeats 8000000 in
theorem checks (B : Nat) (w0 : World) (f rd ph2 cnt2 RR sr sp : Int) (n q adj AA C N S T M sb bb c0 c1 c2 d0 d1 d2 : Nat) (b1 b2 : Bool) (rs2 hs : List Bool) (ds ds' : List Nat) (mg : Lit → Option Value) (w : World)
    (n1 : n ≤ 40) (hqn : q < n) (r0 : -9223372036854775808 ≤ rd) (r1 : rd ≤ 9223372036854775807) (hadj : Fin64 adj) (hds : ds.length = n) (hhs : hs.length = n) (hfin : ∀ x ∈ ds, Fin64 x)
    (hRR : RR = if b1 = true ∨ b2 = true then rd else 0) (hAA : AA = if b2 = true then adj else 0) (hr2 : b1 = true → rs2[q]? = some true)
    (HDn : (b2 = false ∧ sr = rd ∧ sp = ph2 ∧ mg = two rd (wrap64 (rd + 1)) C N ∧ ds' = ds) ∨ (b2 = true ∧ sr = wrap64 (rd + 1) ∧ sp = 0 ∧ mg = turnAt (two rd (wrap64 (rd + 1)) C N) (kl rd) none ∧ Upto adj hs ds n ds'))
    (jT : Box w T (tc RR b1 b2 AA) 38) (jC : Box w C (rc c0 c1 c2 n cnt2) 29) (jR : Box w c2 (bools rs2) 4) (jbb : Box w bb (floats ds) 25) (jN : Box w N (rc d0 d1 d2 n 0) 29) (jD1 : Box w d1 (bools hs) 4) (jD0 : Box w d0 (floats ds') 25) (jS : Box w S (sc n f q sr sp adj M sb n) 36) (jM : HasMap Yba.prog 2 w M 2 mg) (hbel : Below B w0 w)
    (v0 v1 v2 v3 v5 v6 v7 v8 v9 v10 v11 v12 v13 v14 v15 v16 v17 v18 v19 v22 v24 v27 v28 v31 v32 v35 v41 v42 v43 v44 v45 v46 v47 v48 v49 v50 v51 v52 v53 v54 v55 v56 v57 v58 v59 v60 v61 v62 v63 v64 v65 v66 v67 v68 v69 v70 v71 v72 v73 v74 v75 v76 v77 v78 v79 v80 v81 v82 v83 v84 v85 v86 v87 v88 v89 v90 v91 v92 v93 v94 v95 v96 v97 v98 v99 v100 v101 v102 v103 v104 v105 v106 v107 v108 v109 v110 v111 v112 v113 v114 v115 v116 v117 v118 v119 v120 v121 v122 v123 v124 v125 v126 v127 v128 v129 v130 v131 v132 v133 v134 v135 v136 v137 v138 v139 v140 v141 v142 v143 v144 v145 v146 v147 v148 v149 v150 v151 v152 v153 v154 v155 v156 v157 v158 v159 v160 v161 v162 v163 v164 v165 v166 v167 v168 v169 v170 v171 v172 v173 v174 v175 v176 v177 v178 v179 v180 v181 v182 v183 v184 v185 v186 v187 v188 v189 v190 v191 v192 v193 v194 v195 v196 v197 v198 v199 v200 v201 v202 v203 v204 v205 v206 v207 v208 v209 v210 v211 v212 v213 v214 v215 v216 v217 v218 v219 v220 v221 v222 v223 v224 v225 v226 v227 v228 v229 v230 v231 v232 v233 v234 v235 v236 v237 v238 v239 v240 v241 v242 v243 v244 v245 v246 v247 v248 v249 v250 v251 v252 v253 v254 v255 v256 v257 v258 v259 v260 v261 v262 v263 v264 v265 v266 v267 v268 v269 v270 v271 v272 v273 v274 v275 v276 v277 v278 v279 v280 v281 v282 v283 v284 v285 v286 v287 v288 v289 v290 v291 v292 v293 v294 v295 v296 v297 v298 v299 v300 v301 v302 v303 v304 v305 v306 v307 v308 v309 v310 v311 v312 v313 v314 v315 v316 v317 v318 v319 v320 v321 v322 v323 v324 v325 v326 v327 v328 v329 v330 v331 v332 v333 v334 v335 v336 v337 v338 v339 v340 v341 v342 v343 v344 v345 v346 v347 v348 v349 v350 v351 v352 v353 v354 v355 v356 v357 v358 v359 v360 v361 v362 v363 : Value) :
    Code.wp Yba.prog ((Yba.f3.body.bind (suffixAt 39)).getD .skip) (bodyPost Yba.prog Yba.f3 fun e w' => e = .returned (.bool true) ∧ Below B w0 w') ⟨#[v0, v1, v2, v3, .int .i64 rd, v5, v6, v7, v8, v9, v10, v11, v12, v13, v14, v15, v16, v17, v18, v19, .bool false, .int .i64 (n : Int), v22, .int .i64 (q : Int), v24, .float .f64 adj, .pointer (some ⟨C, 0, none⟩), v27, v28, .pointer (some ⟨N, 0, none⟩), .slice (some ⟨bb, 0, none⟩) n n, v31, v32, .int .i64 (wrap64 (rd + 1)), .pointer (some ⟨S, 0, none⟩), v35, .pointer (some ⟨T, 0, none⟩), .bool b1, .int .i64 cnt2, .int .u8 ph2, .bool b2, v41, v42, v43, v44, v45, v46, v47, v48, v49, v50, v51, v52, v53, v54, v55, v56, v57, v58, v59, v60, v61, v62, v63, v64, v65, v66, v67, v68, v69, v70, v71, v72, v73, v74, v75, v76, v77, v78, v79, v80, v81, v82, v83, v84, v85, v86, v87, v88, v89, v90, v91, v92, v93, v94, v95, v96, v97, v98, v99, v100, v101, v102, v103, v104, v105, v106, v107, v108, v109, v110, v111, v112, v113, v114, v115, v116, v117, v118, v119, v120, v121, v122, v123, v124, v125, v126, v127, v128, v129, v130, v131, v132, v133, v134, v135, v136, v137, v138, v139, v140, v141, v142, v143, v144, v145, v146, v147, v148, v149, v150, v151, v152, v153, v154, v155, v156, v157, v158, v159, v160, v161, v162, v163, v164, v165, v166, v167, v168, v169, v170, v171, v172, v173, v174, v175, v176, v177, v178, v179, v180, v181, v182, v183, v184, v185, v186, v187, v188, v189, v190, v191, v192, v193, v194, v195, v196, v197, v198, v199, v200, v201, v202, v203, v204, v205, v206, v207, v208, v209, v210, v211, v212, v213, v214, v215, v216, v217, v218, v219, v220, v221, v222, v223, v224, v225, v226, v227, v228, v229, v230, v231, v232, v233, v234, v235, v236, v237, v238, v239, v240, v241, v242, v243, v244, v245, v246, v247, v248, v249, v250, v251, v252, v253, v254, v255, v256, v257, v258, v259, v260, v261, v262, v263, v264, v265, v266, v267, v268, v269, v270, v271, v272, v273, v274, v275, v276, v277, v278, v279, v280, v281, v282, v283, v284, v285, v286, v287, v288, v289, v290, v291, v292, v293, v294, v295, v296, v297, v298, v299, v300, v301, v302, v303, v304, v305, v306, v307, v308, v309, v310, v311, v312, v313, v314, v315, v316, v317, v318, v319, v320, v321, v322, v323, v324, v325, v326, v327, v328, v329, v330, v331, v332, v333, v334, v335, v336, v337, v338, v339, v340, v341, v342, v343, v344, v345, v346, v347, v348, v349, v350, v351, v352, v353, v354, v355, v356, v357, v358, v359, v360, v361, v362, v363], []⟩ w := by
  have hw1 := wrap_in (rd + 1)
  have hw2 := wrap_ne rd
  have hoA := order_self adj hadj.not_nan
  have ho0 := order_self 0 zero_fin.not_nan
  have en := neq26
  have hqi : (q : Int) < (n : Int) := by omega
  have l1 := jM.look (t := 34) (e := 26) law2 Yba.underlying34 (zero26 w) (key_ok rd r0 r1)
  have l2 := jM.look (t := 34) (e := 26) law2 Yba.underlying34 (zero26 w) (key_ok (wrap64 (rd + 1)) hw1.1 hw1.2)
  have T0 : w.cell? ⟨T, 0, none⟩ = some (.int .i64 RR) := jT.cell 0 rfl
  have T1 : w.cell? ⟨T, 1, none⟩ = some (.bool b1) := jT.cell 1 rfl
  have T2 : w.cell? ⟨T, 2, none⟩ = some (.bool b2) := jT.cell 2 rfl
  have T3 : w.cell? ⟨T, 3, none⟩ = some (.float .f64 AA) := jT.cell 3 rfl
  have C3 : w.cell? ⟨C, 3, none⟩ = some (.int .i64 cnt2) := jC.cell 3 rfl
  have C2 : w.cell? ⟨C, 2, none⟩ = some (.slice (some ⟨c2, 0, none⟩) n n) := jC.cell 2 rfl
  have S10 : w.cell? ⟨S, 10, none⟩ = some (.int .i64 sr) := jS.cell 10 rfl
  have S11 : w.cell? ⟨S, 11, none⟩ = some (.int .u8 sp) := jS.cell 11 rfl
  have S14 : w.cell? ⟨S, 14, none⟩ = some (.map (some M)) := jS.cell 14 rfl
  have Rq : b1 = true → w.cell? ⟨c2, q, none⟩ = some (.bool true) := fun h => jR.cell q (bools_at (hr2 h))
  have N0 : w.cell? ⟨N, 0, none⟩ = some (.slice (some ⟨d0, 0, none⟩) n n) := jN.cell 0 rfl
  have N1 : w.cell? ⟨N, 1, none⟩ = some (.slice (some ⟨d1, 0, none⟩) n n) := jN.cell 1 rfl
  clear jT jC jR jS jM hr2
  show Code.wp Yba.prog (Code.seq _ _) _ _ _
  rcases HDn with ⟨rfl, rfl, rfl, rfl, rfl⟩ | ⟨rfl, rfl, rfl, rfl, hup⟩
  · rw [two_rd C N r0 r1 hw2] at l1
    rw [two_nk _ C N hw1.1 hw1.2] at l2
    obtain rfl : AA = 0 := by simpa using hAA
    clear hAA
    cases b1 with
    | true =>
      obtain rfl : RR = sr := by simpa using hRR
      have Rq' := Rq rfl
      clear hRR Rq
      go_wp2_with fail
      go_loopg [43] n (fun gk iv wr => ∃ k : Nat, gk + k = n ∧ iv = .int .i64 (k : Int) ∧ Box wr N (rc d0 d1 d2 n 0) 29 ∧ Box wr d0 (floats ds') 25 ∧ Box wr bb (floats ds') 25 ∧ Below B w0 wr)
      case atStart => exact ⟨0, rfl, rfl, jN, jD0, jbb, hbel⟩
      case round =>
        clear T0 T1 T2 T3 C3 C2 S10 S11 S14 N0 N1 jN jD0 jbb jD1 hbel l1 l2
        obtain ⟨k, hk, rfl, jN, jD0, jbb, hbel⟩ := hrel
        by_cases hkn : k < n
        · have hki : (k : Int) < (n : Int) := by omega
          obtain ⟨y, hy⟩ : ∃ y, ds'[k]? = some y := ⟨_, List.getElem?_eq_getElem (by omega)⟩
          have N0 : wr.cell? ⟨N, 0, none⟩ = some (.slice (some ⟨d0, 0, none⟩) n n) := jN.cell 0 rfl
          have D0 : wr.cell? ⟨d0, k, none⟩ = some (.float .f64 y) := jD0.cell k (floats_at hy)
          have B0 : wr.cell? ⟨bb, k, none⟩ = some (.float .f64 y) := jbb.cell k (floats_at hy)
          have hoY := order_self y (hfin y (List.mem_of_getElem? hy)).not_nan
          go_upto_region 75 with fail
          go_quiet (fail)
          go_wp2_with fail
          go_roundg (gk - 1)
          case measure => omega
          case rel => exact ⟨k + 1, by omega, by go_num, jN, jD0, jbb, below_drewN hbel _⟩
        · have hki : ¬ (k : Int) < (n : Int) := by omega
          go_wp2_with fail
          go_ret
          exact ⟨rfl, hbel⟩
    | false =>
      obtain rfl : RR = 0 := by simpa using hRR
      clear hRR Rq
      go_wp2_with fail
      go_loopg [43] n (fun gk iv wr => ∃ k : Nat, gk + k = n ∧ iv = .int .i64 (k : Int) ∧ Box wr N (rc d0 d1 d2 n 0) 29 ∧ Box wr d0 (floats ds') 25 ∧ Box wr bb (floats ds') 25 ∧ Below B w0 wr)
      case atStart => exact ⟨0, rfl, rfl, jN, jD0, jbb, hbel⟩
      case round =>
        clear T0 T1 T2 T3 C3 C2 S10 S11 S14 N0 N1 jN jD0 jbb jD1 hbel l1 l2
        obtain ⟨k, hk, rfl, jN, jD0, jbb, hbel⟩ := hrel
        by_cases hkn : k < n
        · have hki : (k : Int) < (n : Int) := by omega
          obtain ⟨y, hy⟩ : ∃ y, ds'[k]? = some y := ⟨_, List.getElem?_eq_getElem (by omega)⟩
          have N0 : wr.cell? ⟨N, 0, none⟩ = some (.slice (some ⟨d0, 0, none⟩) n n) := jN.cell 0 rfl
          have D0 : wr.cell? ⟨d0, k, none⟩ = some (.float .f64 y) := jD0.cell k (floats_at hy)
          have B0 : wr.cell? ⟨bb, k, none⟩ = some (.float .f64 y) := jbb.cell k (floats_at hy)
          have hoY := order_self y (hfin y (List.mem_of_getElem? hy)).not_nan
          go_upto_region 75 with fail
          go_quiet (fail)
          go_wp2_with fail
          go_roundg (gk - 1)
          case measure => omega
          case rel => exact ⟨k + 1, by omega, by go_num, jN, jD0, jbb, below_drewN hbel _⟩
        · have hki : ¬ (k : Int) < (n : Int) := by omega
          go_wp2_with fail
          go_ret
          exact ⟨rfl, hbel⟩
  · rw [turnAt_same _ (kl_key rd r0 r1) none] at l1
    rw [turnAt_other _ _ _ _ (kl_ne hw2), two_nk _ C N hw1.1 hw1.2] at l2
    obtain rfl : adj = AA := by simpa using hAA.symm
    obtain rfl : rd = RR := by simpa using hRR.symm
    clear hAA hRR
    cases b1 with
    | true =>
      have Rq' := Rq rfl
      clear Rq
      go_wp2_with fail
      go_loopg [41] n (fun gk iv wr => ∃ k : Nat, gk + k = n ∧ iv = .int .i64 (k : Int) ∧ wr = w)
      case atStart => exact ⟨0, rfl, rfl, rfl⟩
      case round =>
        clear T0 T1 T2 T3 C3 C2 S10 S11 S14 l1 l2
        obtain ⟨k, hk, rfl, rfl⟩ := hrel
        by_cases hkn : k < n
        · have hki : (k : Int) < (n : Int) := by omega
          obtain ⟨y, hy⟩ : ∃ y, ds[k]? = some y := ⟨_, List.getElem?_eq_getElem (by omega)⟩
          obtain ⟨h, hh⟩ : ∃ h, hs[k]? = some h := ⟨_, List.getElem?_eq_getElem (by omega)⟩
          have hd := hup.2 k y h hy hh
          have hyf := hfin y (List.mem_of_getElem? hy)
          have B0 : wr.cell? ⟨bb, k, none⟩ = some (.float .f64 y) := jbb.cell k (floats_at hy)
          have H0 : wr.cell? ⟨d1, k, none⟩ = some (.bool h) := jD1.cell k (bools_at hh)
          clear hup hfin
          cases h with
          | true =>
            have hsub := fun w => subOr_run hyf hadj w
            have hoY := order_self (subOr y adj) (subOr_nan hyf hadj)
            have D0 : wr.cell? ⟨d0, k, none⟩ = some (.float .f64 (subOr y adj)) := jD0.cell k (floats_at (by simpa [hkn] using hd))
            clear hd
            go_wp2_with fail
            go_roundg (gk - 1)
            case measure => omega
            case rel => exact ⟨k + 1, by omega, by go_num, rfl⟩
          | false =>
            have hoY := order_self y hyf.not_nan
            have D0 : wr.cell? ⟨d0, k, none⟩ = some (.float .f64 y) := jD0.cell k (floats_at (by simpa using hd))
            clear hd
            go_wp2_with fail
            go_roundg (gk - 1)
            case measure => omega
            case rel => exact ⟨k + 1, by omega, by go_num, rfl⟩
        · have hki : ¬ (k : Int) < (n : Int) := by omega
          go_wp2_with fail
          go_ret
          exact ⟨rfl, hbel⟩
    | false =>
      clear Rq
      go_wp2_with fail
      go_loopg [41] n (fun gk iv wr => ∃ k : Nat, gk + k = n ∧ iv = .int .i64 (k : Int) ∧ wr = w)
      case atStart => exact ⟨0, rfl, rfl, rfl⟩
      case round =>
        clear T0 T1 T2 T3 C3 C2 S10 S11 S14 l1 l2
        obtain ⟨k, hk, rfl, rfl⟩ := hrel
        by_cases hkn : k < n
        · have hki : (k : Int) < (n : Int) := by omega
          obtain ⟨y, hy⟩ : ∃ y, ds[k]? = some y := ⟨_, List.getElem?_eq_getElem (by omega)⟩
          obtain ⟨h, hh⟩ : ∃ h, hs[k]? = some h := ⟨_, List.getElem?_eq_getElem (by omega)⟩
          have hd := hup.2 k y h hy hh
          have hyf := hfin y (List.mem_of_getElem? hy)
          have B0 : wr.cell? ⟨bb, k, none⟩ = some (.float .f64 y) := jbb.cell k (floats_at hy)
          have H0 : wr.cell? ⟨d1, k, none⟩ = some (.bool h) := jD1.cell k (bools_at hh)
          clear hup hfin
          cases h with
          | true =>
            have hsub := fun w => subOr_run hyf hadj w
            have hoY := order_self (subOr y adj) (subOr_nan hyf hadj)
            have D0 : wr.cell? ⟨d0, k, none⟩ = some (.float .f64 (subOr y adj)) := jD0.cell k (floats_at (by simpa [hkn] using hd))
            clear hd
            go_wp2_with fail
            go_roundg (gk - 1)
            case measure => omega
            case rel => exact ⟨k + 1, by omega, by go_num, rfl⟩
          | false =>
            have hoY := order_self y hyf.not_nan
            have D0 : wr.cell? ⟨d0, k, none⟩ = some (.float .f64 y) := jD0.cell k (floats_at (by simpa using hd))
            clear hd
            go_wp2_with fail
            go_roundg (gk - 1)
            case measure => omega
            case rel => exact ⟨k + 1, by omega, by go_num, rfl⟩
        · have hki : ¬ (k : Int) < (n : Int) := by omega
          go_wp2_with fail
          go_ret
          exact ⟨rfl, hbel⟩

end Go.Proofs.Ybulkbapc

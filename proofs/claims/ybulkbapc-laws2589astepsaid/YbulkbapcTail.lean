/- LawS2589AStep: from the making of the Startup to the end. -/
import Derived.Test.YbulkbapcChecks
namespace Go.Proofs.Ybulkbapc
open Go.ChangeShapes Go.WideShapes Go.ChangeAt Go.RowKit
set_option linter.unusedVariables false

set_option maxRecDepth 100000 in
set_option maxHeartbeats 8000000 in
theorem tail (B : Nat) (w0 : World) (f rd ph cnt : Int) (n q adj C N bb c0 c1 c2 d0 d1 d2 : Nat) (tm : Bool) (rs hs : List Bool) (ds : List Nat) (w : World)
    (n0 : 1 ≤ n) (n1 : n ≤ 40) (f0 : 0 ≤ f) (f1 : f ≤ 20) (hqn : q < n) (p0 : 0 ≤ ph) (p1 : ph ≤ 3) (r0 : -9223372036854775808 ≤ rd) (r1 : rd ≤ 9223372036854775807) (hadj : Fin64 adj)
    (t0 : 0 ≤ cnt) (t1 : cnt ≤ 40) (hrs : rs.length = n) (hds : ds.length = n) (hhs : hs.length = n) (hfin : ∀ x ∈ ds, Fin64 x)
    (hbb : Box w bb (floats ds) 25) (hD0 : Box w d0 (floats ds) 25) (hD1 : Box w d1 (bools hs) 4) (hN : Box w N (rc d0 d1 d2 n 0) 29) (hC : Box w C (rc c0 c1 c2 n cnt) 29) (hR : Box w c2 (bools rs) 4)
    (h0b : d0 ≠ bb) (hCN : C ≠ N) (h21 : c2 ≠ d1) (lC : B ≤ C) (lR : B ≤ c2) (l0 : B ≤ d0) (hbel : Below B w0 w) (hBw : B ≤ w.heap.size)
    (v0 v1 v2 v3 v6 v7 v8 v9 v10 v11 v12 v13 v14 v15 v16 v17 v18 v19 v28 v31 v32 v34 v35 v36 v37 v38 v39 v40 v41 v42 v43 v44 v45 v46 v47 v48 v49 v50 v51 v52 v53 v54 v55 v56 v57 v58 v59 v60 v61 v62 v63 v64 v65 v66 v67 v68 v69 v70 v71 v72 v73 v74 v75 v76 v77 v78 v79 v80 v81 v82 v83 v84 v85 v86 v87 v88 v89 v90 v91 v92 v93 v94 v95 v96 v97 v98 v99 v100 v101 v102 v103 v104 v105 v106 v107 v108 v109 v110 v111 v112 v113 v114 v115 v116 v117 v118 v119 v120 v121 v122 v123 v124 v125 v126 v127 v128 v129 v130 v131 v132 v133 v134 v135 v136 v137 v138 v139 v140 v141 v142 v143 v144 v145 v146 v147 v148 v149 v150 v151 v152 v153 v154 v155 v156 v157 v158 v159 v160 v161 v162 v163 v164 v165 v166 v167 v168 v169 v170 v171 v172 v173 v174 v175 v176 v177 v178 v179 v180 v181 v182 v183 v184 v185 v186 v187 v188 v189 v190 v191 v192 v193 v194 v195 v196 v197 v198 v199 v200 v201 v202 v203 v204 v205 v206 v207 v208 v209 v210 v211 v212 v213 v214 v215 v216 v217 v218 v219 v220 v221 v222 v223 v224 v225 v226 v227 v228 v229 v230 v231 v232 v233 v234 v235 v236 v237 v238 v239 v240 v241 v242 v243 v244 v245 v246 v247 v248 v249 v250 v251 v252 v253 v254 v255 v256 v257 v258 v259 v260 v261 v262 v263 v264 v265 v266 v267 v268 v269 v270 v271 v272 v273 v274 v275 v276 v277 v278 v279 v280 v281 v282 v283 v284 v285 v286 v287 v288 v289 v290 v291 v292 v293 v294 v295 v296 v297 v298 v299 v300 v301 v302 v303 v304 v305 v306 v307 v308 v309 v310 v311 v312 v313 v314 v315 v316 v317 v318 v319 v320 v321 v322 v323 v324 v325 v326 v327 v328 v329 v330 v331 v332 v333 v334 v335 v336 v337 v338 v339 v340 v341 v342 v343 v344 v345 v346 v347 v348 v349 v350 v351 v352 v353 v354 v355 v356 v357 v358 v359 v360 v361 v362 v363 : Value) :
    Code.wp Yba.prog ((Yba.f3.body.bind (suffixAt 28)).getD .skip) (bodyPost Yba.prog Yba.f3 fun e w' => e = .returned (.bool true) ∧ Below B w0 w') ⟨#[v0, v1, v2, v3, .int .i64 rd, .bool tm, v6, v7, v8, v9, v10, v11, v12, v13, v14, v15, v16, v17, v18, v19, .bool false, .int .i64 (n : Int), .int .i64 f, .int .i64 (q : Int), .int .u8 ph, .float .f64 adj, .pointer (some ⟨C, 0, none⟩), .int .i64 cnt, v28, .pointer (some ⟨N, 0, none⟩), .slice (some ⟨bb, 0, none⟩) n n, v31, v32, .int .i64 (wrap64 (rd + 1)), v34, v35, v36, v37, v38, v39, v40, v41, v42, v43, v44, v45, v46, v47, v48, v49, v50, v51, v52, v53, v54, v55, v56, v57, v58, v59, v60, v61, v62, v63, v64, v65, v66, v67, v68, v69, v70, v71, v72, v73, v74, v75, v76, v77, v78, v79, v80, v81, v82, v83, v84, v85, v86, v87, v88, v89, v90, v91, v92, v93, v94, v95, v96, v97, v98, v99, v100, v101, v102, v103, v104, v105, v106, v107, v108, v109, v110, v111, v112, v113, v114, v115, v116, v117, v118, v119, v120, v121, v122, v123, v124, v125, v126, v127, v128, v129, v130, v131, v132, v133, v134, v135, v136, v137, v138, v139, v140, v141, v142, v143, v144, v145, v146, v147, v148, v149, v150, v151, v152, v153, v154, v155, v156, v157, v158, v159, v160, v161, v162, v163, v164, v165, v166, v167, v168, v169, v170, v171, v172, v173, v174, v175, v176, v177, v178, v179, v180, v181, v182, v183, v184, v185, v186, v187, v188, v189, v190, v191, v192, v193, v194, v195, v196, v197, v198, v199, v200, v201, v202, v203, v204, v205, v206, v207, v208, v209, v210, v211, v212, v213, v214, v215, v216, v217, v218, v219, v220, v221, v222, v223, v224, v225, v226, v227, v228, v229, v230, v231, v232, v233, v234, v235, v236, v237, v238, v239, v240, v241, v242, v243, v244, v245, v246, v247, v248, v249, v250, v251, v252, v253, v254, v255, v256, v257, v258, v259, v260, v261, v262, v263, v264, v265, v266, v267, v268, v269, v270, v271, v272, v273, v274, v275, v276, v277, v278, v279, v280, v281, v282, v283, v284, v285, v286, v287, v288, v289, v290, v291, v292, v293, v294, v295, v296, v297, v298, v299, v300, v301, v302, v303, v304, v305, v306, v307, v308, v309, v310, v311, v312, v313, v314, v315, v316, v317, v318, v319, v320, v321, v322, v323, v324, v325, v326, v327, v328, v329, v330, v331, v332, v333, v334, v335, v336, v337, v338, v339, v340, v341, v342, v343, v344, v345, v346, v347, v348, v349, v350, v351, v352, v353, v354, v355, v356, v357, v358, v359, v360, v361, v362, v363], []⟩ w := by
  have hw1 := wrap_in (rd + 1)
  have hw2 := wrap_ne rd
  have hsf := fun w a x m => run_store Yba.prog w a (.float .f64 x) m rfl
  have hoA := order_self adj hadj.not_nan
  have ho0 := order_self 0 zero_fin.not_nan
  obtain ⟨x, hx⟩ : ∃ x, rs[q]? = some x := ⟨_, List.getElem?_eq_getElem (by omega)⟩
  show Code.wp Yba.prog (Code.seq _ _) _ _ _
  go_upto_region 28 with fail
  refine region28 n q f rd ph (wrap64 (rd + 1)) adj C N (by omega) r0 r1 hw1.1 hw1.2 hw2 _ _ _ _ _ _ _ _ _ _ _ _ _ _ _ _ _ _ _ _ _ _ _ _ _ _ _ _ _ _ _ _ _ _ _ _ _ _ _ _ _ _ _ _ _ _ _ _ _ _ _ _ _ _ _ _ _ _ _ _ _ _ _ _ _ _ _ _ _ _ _ _ _ _ _ _ _ _ _ _ _ _ _ _ _ _ _ _ _ _ _ _ _ _ _ _ _ _ _ _ _ _ _ _ _ _ _ _ _ _ _ _ _ _ _ _ _ _ _ _ _ _ _ _ _ _ _ _ _ _ _ _ _ _ _ _ _ _ _ _ _ _ _ _ _ _ _ _ _ _ _ _ _ _ _ _ _ _ _ _ _ _ (fun u150 u151 u152 u153 u154 u155 u156 u157 u158 u159 u160 u161 u162 u163 u164 u165 u166 S M sb w1 hS hM hSl hMl hb => ?_)
  have ebb := hbb.below hb
  have eD0 := hD0.below hb
  have eD1 := hD1.below hb
  have eN := hN.below hb
  have eC := hC.below hb
  have eR := hR.below hb
  have hz := hb.size
  have hbel1 := hbel.trans (hb.mono hBw)
  have lS : B ≤ S := Nat.le_trans hBw hSl
  have lM : B ≤ M := Nat.le_trans hBw hMl
  have hSb := hS.ne ebb (by decide)
  have hCb := eC.ne ebb (by decide)
  have hRb := eR.ne ebb (by decide)
  have hMb := ebb.ne_map hM
  clear hbb hD0 hD1 hN hC hR hbel hb hSl hMl
  have k2 : w1.cell? ⟨C, 2, none⟩ = some (.slice (some ⟨c2, 0, none⟩) n n) := eC.cell 2 rfl
  have kq : w1.cell? ⟨c2, q, none⟩ = some (.bool x) := eR.cell q (bools_at hx)
  have hqi : (q : Int) < (n : Int) := by omega
  obtain ⟨b1, HB1⟩ : ∃ b1, Hid (b1 = decide (ph = 2 ∧ (tm = true ∨ f < cnt))) := ⟨_, rfl⟩
  obtain ⟨cnt2, HC2⟩ : ∃ cnt2, Hid (cnt2 = if b1 = true ∧ x = false then cnt + 1 else cnt) := ⟨_, rfl⟩
  obtain ⟨ph2, HP2⟩ : ∃ ph2 : Int, Hid (ph2 = if b1 = true then 3 else ph) := ⟨_, rfl⟩
  obtain ⟨b2, HB2⟩ : ∃ b2, Hid (b2 = decide (ph2 = 3 ∧ (n : Int) - f ≤ cnt2)) := ⟨_, rfl⟩
  obtain ⟨rs2, HRS⟩ : ∃ rs2, Hid (rs2 = if b1 = true then rs.set q true else rs) := ⟨_, rfl⟩
  obtain ⟨RR, HRR⟩ : ∃ RR : Int, Hid (RR = if b1 = true ∨ b2 = true then rd else 0) := ⟨_, rfl⟩
  obtain ⟨AA, HAA⟩ : ∃ AA : Nat, Hid (AA = if b2 = true then adj else 0) := ⟨_, rfl⟩
  have HX : Hid (rs[q]? = some x) := hx
  clear hx
  go_wp2_with fail
  refine (advance_5 S C N c0 c1 c2 d0 d1 d2 f rd ph (wrap64 (rd + 1)) 0 cnt cnt2 ph2 q adj M sb n 2 (two rd (wrap64 (rd + 1)) C N) rs rs2 hs ds tm x b1 b2 RR AA _ r0 r1 hw1.1 hw1.2 hw2 hS hM (two_rd C N r0 r1 hw2) (two_nk rd C N hw1.1 hw1.2) (fun l v h => two_only h) eC eR eN eD0 eD1 hCN h21 hrs hds hhs hfin hadj (by omega) f0 (by omega) p0 p1 t0 (by omega) HX.out HB1.out HC2.out HP2.out HB2.out HRS.out HRR.out HAA.out).mono ?_
  rintro e w5 ⟨rfl, gC, gR, gF, gT, hB5⟩
  have hno : ∀ b, b ≠ S → b ≠ M → b ≠ d0 → b ≠ C → b ≠ c2 → ¬ (b = S ∨ b = M ∨ b = d0 ∨ b = C ∨ b = c2) := fun b h1 h2 h3 h4 h5 => by rintro (e | e | e | e | e); exact h1 e; exact h2 e; exact h3 e; exact h4 e; exact h5 e
  have gbb := ebb.but hB5 (hno bb (fun e => hSb e.symm) hMb (fun e => h0b e.symm) (fun e => hCb e.symm) (fun e => hRb e.symm))
  have gN := eN.but hB5 (hno N (fun e => hS.ne eN (by decide) e.symm) (eN.ne_map hM) (eN.ne eD0 (by decide)) (fun e => hCN e.symm) (eN.ne eR (by decide)))
  have gD1 := eD1.but hB5 (hno d1 (fun e => hS.ne eD1 (by decide) e.symm) (eD1.ne_map hM) (eD1.ne eD0 (by decide)) (fun e => eC.ne eD1 (by decide) e.symm) (fun e => h21 e.symm))
  have hbel5 : Below B w0 w5 := hbel1.trans (hB5.below (Nat.le_trans hBw hz) (by rintro k (rfl | rfl | rfl | rfl | rfl) <;> assumption))
  have hz5 : B ≤ w5.heap.size := Nat.le_trans hBw (Nat.le_trans hz hB5.size)
  obtain ⟨sr, sp, mg, ds', gS, gM, gD0, HDn⟩ : ∃ (sr sp : Int) (mg : Lit → Option Value) (ds' : List Nat), Box w5 S (sc n f q sr sp adj M sb n) 36 ∧ HasMap Yba.prog 2 w5 M 2 mg ∧ Box w5 d0 (floats ds') 25 ∧ Hid ((b2 = false ∧ sr = rd ∧ sp = ph2 ∧ mg = two rd (wrap64 (rd + 1)) C N ∧ ds' = ds) ∨ (b2 = true ∧ sr = wrap64 (rd + 1) ∧ sp = 0 ∧ mg = turnAt (two rd (wrap64 (rd + 1)) C N) (kl rd) none ∧ Upto adj hs ds n ds')) := by
    cases b2 with
    | false => obtain ⟨h1, h2, h3⟩ := gF rfl; exact ⟨_, _, _, _, h1, h2, h3, .inl ⟨rfl, rfl, rfl, rfl, rfl⟩⟩
    | true => obtain ⟨h1, h2, d', hu, h3⟩ := gT rfl; exact ⟨_, _, _, _, h1, h2, h3, .inr ⟨rfl, rfl, rfl, rfl, hu⟩⟩
  clear gF gT hB5 hS hM ebb eN eD0 eD1 eC eR hbel1 hz k2 kq hno
  have htc : (tc RR b1 b2 AA).toList = [.int .i64 RR, .bool b1, .bool b2, .float .f64 AA] := rfl
  go_upto_region 31 with fail
  obtain ⟨W6, hW6⟩ : ∃ W6, W6 = w5.alloc (.cells #[.int .i64 RR, .bool b1, .bool b2, .float .f64 AA] 38) := ⟨_, rfl⟩
  have jT : Box W6 w5.heap.size (tc RR b1 b2 AA) 38 := by rw [hW6]; exact Box.new w5 _ 38
  have jC : Box W6 C (rc c0 c1 c2 n cnt2) 29 := by rw [hW6]; exact gC.alloc _
  have jR : Box W6 c2 (bools rs2) 4 := by rw [hW6]; exact gR.alloc _
  have jbb : Box W6 bb (floats ds) 25 := by rw [hW6]; exact gbb.alloc _
  have jN : Box W6 N (rc d0 d1 d2 n 0) 29 := by rw [hW6]; exact gN.alloc _
  have jD1 : Box W6 d1 (bools hs) 4 := by rw [hW6]; exact gD1.alloc _
  have jD0 : Box W6 d0 (floats ds') 25 := by rw [hW6]; exact gD0.alloc _
  have jS : Box W6 S (sc n f q sr sp adj M sb n) 36 := by rw [hW6]; exact gS.alloc _
  have jM : HasMap Yba.prog 2 W6 M 2 mg := by rw [hW6]; exact gM.alloc _
  have hbel6 : Below B w0 W6 := by rw [hW6]; exact hbel5.alloc hz5 _
  rw [← hW6]
  clear hW6 gC gR gbb gN gD1 gD0 gS gM hbel5 hz5 htc
  generalize w5.heap.size = T at jT ⊢
  refine region31 f ph cnt tm b1 HB1.out _ _ _ _ _ _ _ _ _ _ _ _ _ _ _ _ _ _ _ _ _ _ _ _ _ _ _ _ _ _ _ _ _ _ _ _ _ _ _ _ _ _ _ _ _ _ _ _ _ _ _ _ _ _ _ _ _ _ _ _ _ _ _ _ _ _ _ _ _ _ _ _ _ _ _ _ _ _ _ _ _ _ _ _ _ _ _ _ _ _ _ _ _ _ _ _ _ _ _ _ _ _ _ _ _ _ _ _ _ _ _ _ _ _ _ _ _ _ _ _ _ _ _ _ _ _ _ _ _ _ _ _ _ _ _ _ _ _ _ _ _ _ _ _ _ _ _ _ _ _ _ _ _ _ _ _ _ _ _ _ _ _ _ _ _ _ _ _ _ _ _ _ _ _ _ _ _ _ _ _ _ _ _ _ _ _ _ (fun u177 u178 u179 u180 u181 u182 u183 u184 u185 u186 => ?_)
  have HR2 : Hid (b1 = true → rs2[q]? = some true) := fun h => by
    rw [HRS.out, if_pos h, List.getElem?_set_self (by omega)]
  cases b1 with
  | false =>
    obtain rfl : cnt = cnt2 := by have := HC2.out; simpa using this.symm
    obtain rfl : ph = ph2 := by have := HP2.out; simpa using this.symm
    clear HC2 HP2 HB1 HRS HX
    go_upto_region 38 with fail
    refine region38 n f ph cnt (by omega) f0 (by omega) b2 HB2.out _ _ _ _ _ _ _ _ _ _ _ _ _ _ _ _ _ _ _ _ _ _ _ _ _ _ _ _ _ _ _ _ _ _ _ _ _ _ _ _ _ _ _ _ _ _ _ _ _ _ _ _ _ _ _ _ _ _ _ _ _ _ _ _ _ _ _ _ _ _ _ _ _ _ _ _ _ _ _ _ _ _ _ _ _ _ _ _ _ _ _ _ _ _ _ _ _ _ _ _ _ _ _ _ _ _ _ _ _ _ _ _ _ _ _ _ _ _ _ _ _ _ _ _ _ _ _ _ _ _ _ _ _ _ _ _ _ _ _ _ _ _ _ _ _ _ _ _ _ _ _ _ _ _ _ _ _ _ _ _ _ _ _ _ _ _ _ _ _ _ _ _ _ _ _ _ _ _ _ _ _ _ _ _ _ _ _ _ _ _ _ _ _ _ _ _ _ _ _ _ _ _ _ _ _ _ (fun u197 u198 u199 u200 u201 u202 u203 u204 u205 => ?_)
    rename_i aK
    refine aK _ _ ?_
    exact checks B w0 f rd ph cnt RR sr sp n q adj AA C N S T M sb bb c0 c1 c2 d0 d1 d2 false b2 rs2 hs ds ds' mg _ n1 hqn r0 r1 hadj hds hhs hfin HRR.out HAA.out HR2.out HDn.out jT jC jR jbb jN jD1 jD0 jS jM hbel6 _ _ _ _ _ _ _ _ _ _ _ _ _ _ _ _ _ _ _ _ _ _ _ _ _ _ _ _ _ _ _ _ _ _ _ _ _ _ _ _ _ _ _ _ _ _ _ _ _ _ _ _ _ _ _ _ _ _ _ _ _ _ _ _ _ _ _ _ _ _ _ _ _ _ _ _ _ _ _ _ _ _ _ _ _ _ _ _ _ _ _ _ _ _ _ _ _ _ _ _ _ _ _ _ _ _ _ _ _ _ _ _ _ _ _ _ _ _ _ _ _ _ _ _ _ _ _ _ _ _ _ _ _ _ _ _ _ _ _ _ _ _ _ _ _ _ _ _ _ _ _ _ _ _ _ _ _ _ _ _ _ _ _ _ _ _ _ _ _ _ _ _ _ _ _ _ _ _ _ _ _ _ _ _ _ _ _ _ _ _ _ _ _ _ _ _ _ _ _ _ _ _ _ _ _ _ _ _ _ _ _ _ _ _ _ _ _ _ _ _ _ _ _ _ _ _ _ _ _ _ _ _ _ _ _ _ _ _ _ _ _ _ _ _ _ _ _ _ _ _ _ _ _ _ _ _ _ _ _ _ _ _ _ _ _ _ _ _ _ _ _ _ _ _ _ _ _ _ _ _ _ _ _ _ _ _ _ _ _ _ _ _ _ _ _ _ _ _ _ _ _ _ _ _ _ _ _ _ _ _ _ _ _ _ _ _ _ _ _ _ _ _ _ _ _ _ _ _ _ _ _ _ _ _ _ _ _ _ _ _ _ _ _ _ _ _ _ _ _
  | true =>
    obtain rfl : (3 : Int) = ph2 := by have := HP2.out; simpa using this.symm
    cases x with
    | true =>
      obtain rfl : cnt = cnt2 := by have := HC2.out; simpa using this.symm
      clear HC2 HP2 HB1 HRS HX
      go_upto_region 38 with fail
      refine region38 n f 3 cnt (by omega) f0 (by omega) b2 HB2.out _ _ _ _ _ _ _ _ _ _ _ _ _ _ _ _ _ _ _ _ _ _ _ _ _ _ _ _ _ _ _ _ _ _ _ _ _ _ _ _ _ _ _ _ _ _ _ _ _ _ _ _ _ _ _ _ _ _ _ _ _ _ _ _ _ _ _ _ _ _ _ _ _ _ _ _ _ _ _ _ _ _ _ _ _ _ _ _ _ _ _ _ _ _ _ _ _ _ _ _ _ _ _ _ _ _ _ _ _ _ _ _ _ _ _ _ _ _ _ _ _ _ _ _ _ _ _ _ _ _ _ _ _ _ _ _ _ _ _ _ _ _ _ _ _ _ _ _ _ _ _ _ _ _ _ _ _ _ _ _ _ _ _ _ _ _ _ _ _ _ _ _ _ _ _ _ _ _ _ _ _ _ _ _ _ _ _ _ _ _ _ _ _ _ _ _ _ _ _ _ _ _ _ _ _ _ (fun u197 u198 u199 u200 u201 u202 u203 u204 u205 => ?_)
      rename_i aK
      refine aK _ _ ?_
      exact checks B w0 f rd 3 cnt RR sr sp n q adj AA C N S T M sb bb c0 c1 c2 d0 d1 d2 true b2 rs2 hs ds ds' mg _ n1 hqn r0 r1 hadj hds hhs hfin HRR.out HAA.out HR2.out HDn.out jT jC jR jbb jN jD1 jD0 jS jM hbel6 _ _ _ _ _ _ _ _ _ _ _ _ _ _ _ _ _ _ _ _ _ _ _ _ _ _ _ _ _ _ _ _ _ _ _ _ _ _ _ _ _ _ _ _ _ _ _ _ _ _ _ _ _ _ _ _ _ _ _ _ _ _ _ _ _ _ _ _ _ _ _ _ _ _ _ _ _ _ _ _ _ _ _ _ _ _ _ _ _ _ _ _ _ _ _ _ _ _ _ _ _ _ _ _ _ _ _ _ _ _ _ _ _ _ _ _ _ _ _ _ _ _ _ _ _ _ _ _ _ _ _ _ _ _ _ _ _ _ _ _ _ _ _ _ _ _ _ _ _ _ _ _ _ _ _ _ _ _ _ _ _ _ _ _ _ _ _ _ _ _ _ _ _ _ _ _ _ _ _ _ _ _ _ _ _ _ _ _ _ _ _ _ _ _ _ _ _ _ _ _ _ _ _ _ _ _ _ _ _ _ _ _ _ _ _ _ _ _ _ _ _ _ _ _ _ _ _ _ _ _ _ _ _ _ _ _ _ _ _ _ _ _ _ _ _ _ _ _ _ _ _ _ _ _ _ _ _ _ _ _ _ _ _ _ _ _ _ _ _ _ _ _ _ _ _ _ _ _ _ _ _ _ _ _ _ _ _ _ _ _ _ _ _ _ _ _ _ _ _ _ _ _ _ _ _ _ _ _ _ _ _ _ _ _ _ _ _ _ _ _ _ _ _ _ _ _ _ _ _ _ _ _ _ _ _ _ _ _ _ _ _ _ _ _ _ _ _ _ _
    | false =>
      obtain rfl : cnt + 1 = cnt2 := by have := HC2.out; simpa using this.symm
      clear HC2 HP2 HB1 HRS HX
      go_upto_region 38 with fail
      refine region38 n f 3 (cnt + 1) (by omega) f0 (by omega) b2 HB2.out _ _ _ _ _ _ _ _ _ _ _ _ _ _ _ _ _ _ _ _ _ _ _ _ _ _ _ _ _ _ _ _ _ _ _ _ _ _ _ _ _ _ _ _ _ _ _ _ _ _ _ _ _ _ _ _ _ _ _ _ _ _ _ _ _ _ _ _ _ _ _ _ _ _ _ _ _ _ _ _ _ _ _ _ _ _ _ _ _ _ _ _ _ _ _ _ _ _ _ _ _ _ _ _ _ _ _ _ _ _ _ _ _ _ _ _ _ _ _ _ _ _ _ _ _ _ _ _ _ _ _ _ _ _ _ _ _ _ _ _ _ _ _ _ _ _ _ _ _ _ _ _ _ _ _ _ _ _ _ _ _ _ _ _ _ _ _ _ _ _ _ _ _ _ _ _ _ _ _ _ _ _ _ _ _ _ _ _ _ _ _ _ _ _ _ _ _ _ _ _ _ _ _ _ _ _ (fun u197 u198 u199 u200 u201 u202 u203 u204 u205 => ?_)
      rename_i aK
      refine aK _ _ ?_
      exact checks B w0 f rd 3 (cnt + 1) RR sr sp n q adj AA C N S T M sb bb c0 c1 c2 d0 d1 d2 true b2 rs2 hs ds ds' mg _ n1 hqn r0 r1 hadj hds hhs hfin HRR.out HAA.out HR2.out HDn.out jT jC jR jbb jN jD1 jD0 jS jM hbel6 _ _ _ _ _ _ _ _ _ _ _ _ _ _ _ _ _ _ _ _ _ _ _ _ _ _ _ _ _ _ _ _ _ _ _ _ _ _ _ _ _ _ _ _ _ _ _ _ _ _ _ _ _ _ _ _ _ _ _ _ _ _ _ _ _ _ _ _ _ _ _ _ _ _ _ _ _ _ _ _ _ _ _ _ _ _ _ _ _ _ _ _ _ _ _ _ _ _ _ _ _ _ _ _ _ _ _ _ _ _ _ _ _ _ _ _ _ _ _ _ _ _ _ _ _ _ _ _ _ _ _ _ _ _ _ _ _ _ _ _ _ _ _ _ _ _ _ _ _ _ _ _ _ _ _ _ _ _ _ _ _ _ _ _ _ _ _ _ _ _ _ _ _ _ _ _ _ _ _ _ _ _ _ _ _ _ _ _ _ _ _ _ _ _ _ _ _ _ _ _ _ _ _ _ _ _ _ _ _ _ _ _ _ _ _ _ _ _ _ _ _ _ _ _ _ _ _ _ _ _ _ _ _ _ _ _ _ _ _ _ _ _ _ _ _ _ _ _ _ _ _ _ _ _ _ _ _ _ _ _ _ _ _ _ _ _ _ _ _ _ _ _ _ _ _ _ _ _ _ _ _ _ _ _ _ _ _ _ _ _ _ _ _ _ _ _ _ _ _ _ _ _ _ _ _ _ _ _ _ _ _ _ _ _ _ _ _ _ _ _ _ _ _ _ _ _ _ _ _ _ _ _ _ _ _ _ _ _ _ _ _ _ _ _ _ _ _ _ _

end Go.Proofs.Ybulkbapc

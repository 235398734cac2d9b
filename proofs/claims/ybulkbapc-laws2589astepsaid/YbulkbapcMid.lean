/- LawS2589AStep: from the row 'base' to the end. -/
import Derived.Test.YbulkbapcTail
namespace Go.Proofs.Ybulkbapc
open Go.ChangeShapes Go.WideShapes Go.ChangeAt Go.RowKit
set_option linter.unusedVariables false

set_option maxRecDepth 100000 in
set_option maxHeartbeats 8000000 in
theorem mid (B : Nat) (w0 : World) (f rd ph cnt : Int) (n q adj C N c0 c1 c2 d0 d1 d2 : Nat) (tm : Bool) (pl : Option Addr) (nl cl : Nat) (lin : List Int) (ph' : Option Addr) (nh ch : Nat) (hin : List Bool) (rs : List Bool) (wc : World)
    (n0 : 1 ≤ n) (n1 : n ≤ 40) (f0 : 0 ≤ f) (f1 : f ≤ 20) (hqn : q < n) (p0 : 0 ≤ ph) (p1 : ph ≤ 3) (r0 : -9223372036854775808 ≤ rd) (r1 : rd ≤ 9223372036854775807) (hadj : Fin64 adj) (hl : IntsIn B w0 pl lin) (hll : lin.length = nl) (hlb : ∀ x ∈ lin, -32768 ≤ x ∧ x ≤ 32767) (hhi : BoolsIn B w0 ph' hin) (hhl : hin.length = nh) (t0 : 0 ≤ cnt) (t1 : cnt ≤ (n : Int)) (hrs : rs.length = n)
    (hC2 : Box wc C (rc c0 c1 c2 n cnt) 29) (hR2 : Box wc c2 (bools rs) 4) (hN : Box wc N (rc d0 d1 d2 n 0) 29) (hD0 : Box wc d0 (floats (List.replicate n 0)) 25) (hD1 : Box wc d1 (bools (List.replicate n false)) 4)
    (hCN : C ≠ N) (h21 : c2 ≠ d1) (hCl : B ≤ C) (hRl : B ≤ c2) (h0bl : B ≤ d0) (h1bl : B ≤ d1) (hbel2 : Below B w0 wc) (hBw : B ≤ w0.heap.size)
    (v0 v1 v2 v3 v6 v7 v10 v11 v12 v13 v14 v15 v16 v17 v18 v19 v28 v30 v31 v32 v33 v34 v35 v36 v37 v38 v39 v40 v41 v42 v43 v44 v45 v46 v47 v48 v49 v50 v51 v52 v53 v54 v55 v56 v57 v58 v59 v60 v61 v62 v63 v64 v65 v66 v67 v68 v69 v70 v71 v72 v73 v74 v75 v76 v77 v78 v79 v80 v81 v82 v83 v84 v85 v86 v87 v88 v89 v90 v91 v92 v93 v94 v95 v96 v97 v98 v99 v100 v101 v102 v103 v104 v105 v106 v107 v108 v109 v110 v111 v112 v113 v114 v115 v116 v117 v118 v119 v120 v121 v122 v123 v124 v125 v126 v127 v128 v129 v130 v131 v132 v133 v134 v135 v136 v137 v138 v139 v140 v141 v142 v143 v144 v145 v146 v147 v148 v149 v150 v151 v152 v153 v154 v155 v156 v157 v158 v159 v160 v161 v162 v163 v164 v165 v166 v167 v168 v169 v170 v171 v172 v173 v174 v175 v176 v177 v178 v179 v180 v181 v182 v183 v184 v185 v186 v187 v188 v189 v190 v191 v192 v193 v194 v195 v196 v197 v198 v199 v200 v201 v202 v203 v204 v205 v206 v207 v208 v209 v210 v211 v212 v213 v214 v215 v216 v217 v218 v219 v220 v221 v222 v223 v224 v225 v226 v227 v228 v229 v230 v231 v232 v233 v234 v235 v236 v237 v238 v239 v240 v241 v242 v243 v244 v245 v246 v247 v248 v249 v250 v251 v252 v253 v254 v255 v256 v257 v258 v259 v260 v261 v262 v263 v264 v265 v266 v267 v268 v269 v270 v271 v272 v273 v274 v275 v276 v277 v278 v279 v280 v281 v282 v283 v284 v285 v286 v287 v288 v289 v290 v291 v292 v293 v294 v295 v296 v297 v298 v299 v300 v301 v302 v303 v304 v305 v306 v307 v308 v309 v310 v311 v312 v313 v314 v315 v316 v317 v318 v319 v320 v321 v322 v323 v324 v325 v326 v327 v328 v329 v330 v331 v332 v333 v334 v335 v336 v337 v338 v339 v340 v341 v342 v343 v344 v345 v346 v347 v348 v349 v350 v351 v352 v353 v354 v355 v356 v357 v358 v359 v360 v361 v362 v363 : Value) :
    Code.wp Yba.prog ((Yba.f3.body.bind (suffixAt 16)).getD .skip) (bodyPost Yba.prog Yba.f3 fun e w' => e = .returned (.bool true) ∧ Below B w0 w') ⟨#[v0, v1, v2, v3, .int .i64 rd, .bool tm, v6, v7, .slice pl nl cl, .slice ph' nh ch, v10, v11, v12, v13, v14, v15, v16, v17, v18, v19, .bool false, .int .i64 (n : Int), .int .i64 f, .int .i64 (q : Int), .int .u8 ph, .float .f64 adj, .pointer (some ⟨C, 0, none⟩), .int .i64 cnt, v28, .pointer (some ⟨N, 0, none⟩), v30, v31, v32, v33, v34, v35, v36, v37, v38, v39, v40, v41, v42, v43, v44, v45, v46, v47, v48, v49, v50, v51, v52, v53, v54, v55, v56, v57, v58, v59, v60, v61, v62, v63, v64, v65, v66, v67, v68, v69, v70, v71, v72, v73, v74, v75, v76, v77, v78, v79, v80, v81, v82, v83, v84, v85, v86, v87, v88, v89, v90, v91, v92, v93, v94, v95, v96, v97, v98, v99, v100, v101, v102, v103, v104, v105, v106, v107, v108, v109, v110, v111, v112, v113, v114, v115, v116, v117, v118, v119, v120, v121, v122, v123, v124, v125, v126, v127, v128, v129, v130, v131, v132, v133, v134, v135, v136, v137, v138, v139, v140, v141, v142, v143, v144, v145, v146, v147, v148, v149, v150, v151, v152, v153, v154, v155, v156, v157, v158, v159, v160, v161, v162, v163, v164, v165, v166, v167, v168, v169, v170, v171, v172, v173, v174, v175, v176, v177, v178, v179, v180, v181, v182, v183, v184, v185, v186, v187, v188, v189, v190, v191, v192, v193, v194, v195, v196, v197, v198, v199, v200, v201, v202, v203, v204, v205, v206, v207, v208, v209, v210, v211, v212, v213, v214, v215, v216, v217, v218, v219, v220, v221, v222, v223, v224, v225, v226, v227, v228, v229, v230, v231, v232, v233, v234, v235, v236, v237, v238, v239, v240, v241, v242, v243, v244, v245, v246, v247, v248, v249, v250, v251, v252, v253, v254, v255, v256, v257, v258, v259, v260, v261, v262, v263, v264, v265, v266, v267, v268, v269, v270, v271, v272, v273, v274, v275, v276, v277, v278, v279, v280, v281, v282, v283, v284, v285, v286, v287, v288, v289, v290, v291, v292, v293, v294, v295, v296, v297, v298, v299, v300, v301, v302, v303, v304, v305, v306, v307, v308, v309, v310, v311, v312, v313, v314, v315, v316, v317, v318, v319, v320, v321, v322, v323, v324, v325, v326, v327, v328, v329, v330, v331, v332, v333, v334, v335, v336, v337, v338, v339, v340, v341, v342, v343, v344, v345, v346, v347, v348, v349, v350, v351, v352, v353, v354, v355, v356, v357, v358, v359, v360, v361, v362, v363], []⟩ wc := by
  have hsf := fun w a x m => run_store Yba.prog w a (.float .f64 x) m rfl
  have m27 := make27 n (by omega)
  have hbb := Box.new wc (floats (List.replicate n 0)) 25
  have hC3 := hC2.alloc (.cells (floats (List.replicate n 0)) 25)
  have hR3 := hR2.alloc (.cells (floats (List.replicate n 0)) 25)
  have hN3 := hN.alloc (.cells (floats (List.replicate n 0)) 25)
  have hD03 := hD0.alloc (.cells (floats (List.replicate n 0)) 25)
  have hD13 := hD1.alloc (.cells (floats (List.replicate n 0)) 25)
  have hbel3 := hbel2.alloc (Nat.le_trans hBw hbel2.size) (.cells (floats (List.replicate n 0)) 25)
  have h0b : d0 ≠ wc.heap.size := by have := hD0.lt; omega
  have hbb1 : B ≤ wc.heap.size := Nat.le_trans hBw hbel2.size
  clear hC2 hR2 hN hD0 hD1 hbel2
  show Code.wp Yba.prog (Code.seq _ _) _ _ _
  have hnn : ∀ x ∈ List.replicate n 0, Fin64 x := fun x hx => by rw [List.eq_of_mem_replicate hx]; exact zero_fin
  obtain ⟨W2, hW2⟩ : ∃ W2, W2 = wc.alloc (.cells (floats (List.replicate n 0)) 25) := ⟨_, rfl⟩
  go_wp2_with fail
  rw [← hW2]
  rw [← hW2] at hbb hC3 hR3 hN3 hD03 hD13 hbel3
  clear hW2
  generalize wc.heap.size = bb at hbb h0b hbb1 ⊢
  go_loopg [31] n (fun gk iv wr => ∃ (k : Nat) (ds : List Nat) (hs : List Bool), gk + k = n ∧ iv = .int .i64 (k : Int) ∧ ds.length = n ∧ hs.length = n ∧ (∀ x ∈ ds, Fin64 x) ∧ Box wr bb (floats ds) 25 ∧ Box wr d0 (floats ds) 25 ∧ Box wr d1 (bools hs) 4 ∧ Box wr N (rc d0 d1 d2 n 0) 29 ∧ Box wr C (rc c0 c1 c2 n cnt) 29 ∧ Box wr c2 (bools rs) 4 ∧ Below B w0 wr)
  case atStart => exact ⟨0, _, _, rfl, rfl, by simp, by simp, hnn, hbb, hD03, hD13, hN3, hC3, hR3, hbel3⟩
  case round =>
    clear hnn hbb hC3 hR3 hN3 hD03 hD13 hbel3
    obtain ⟨k, ds, hs, hk', rfl, hds, hhs, hfin, hbb, hD0, hD1, hN, hC, hR, hbel⟩ := hrel
    by_cases hkn : k < n
    · have hki : (k : Int) < (n : Int) := by omega
      have hNb := hN.ne hbb (by decide)
      have hN0 := hN.ne hD0 (by decide)
      have hN1 := hN.ne hD1 (by decide)
      have h1b := hD1.ne hbb (by decide)
      have h10 := hD1.ne hD0 (by decide)
      have hCb := hC.ne hbb (by decide)
      have hC0 := hC.ne hD0 (by decide)
      have hC1 := hC.ne hD1 (by decide)
      have hRb := hR.ne hbb (by decide)
      have hR0 := hR.ne hD0 (by decide)
      obtain ⟨x0, hx0⟩ : ∃ x0, ds[k]? = some x0 := ⟨_, List.getElem?_eq_getElem (by omega)⟩
      obtain ⟨z0, hz0⟩ : ∃ z0, hs[k]? = some z0 := ⟨_, List.getElem?_eq_getElem (by omega)⟩
      obtain ⟨dv, hdv, HD⟩ : ∃ dv, Fin64 dv ∧ Hid (((k : Int) < (nl : Int) ∧ ∃ b o x, pl = some ⟨b, o, none⟩ ∧ wr.cell? ⟨b, o + k, none⟩ = some (.int .i16 x) ∧ floatOfInt .f64 x = dv) ∨ (¬ (k : Int) < (nl : Int) ∧ dv = 0)) := by
        by_cases hkl : k < nl
        · obtain ⟨b, o, hp, hb, hc⟩ := (hl.later hbel) (by intro h; rw [h] at hll; simp at hll; omega)
          obtain ⟨x, hx⟩ : ∃ x, lin[k]? = some x := ⟨_, List.getElem?_eq_getElem (by omega)⟩
          obtain ⟨x0, x1⟩ := hlb x (List.mem_of_getElem? hx)
          exact ⟨_, ofInt_fin x (by omega), .inl ⟨by omega, b, o, x, hp, hc k x hx, rfl⟩⟩
        · exact ⟨0, zero_fin, .inr ⟨by omega, rfl⟩⟩
      have HH : Hid (((k : Int) < (nh : Int) ∧ ∃ b o, ph' = some ⟨b, o, none⟩ ∧ b < B ∧ wr.cell? ⟨b, o + k, none⟩ = some (.bool true)) ∨ ((k : Int) < (nh : Int) ∧ ∃ b o, ph' = some ⟨b, o, none⟩ ∧ b < B ∧ wr.cell? ⟨b, o + k, none⟩ = some (.bool false)) ∨ ¬ (k : Int) < (nh : Int)) := by
        by_cases hkl : k < nh
        · obtain ⟨b, o, hp, hb, hc⟩ := (hhi.later hbel) (by intro h; rw [h] at hhl; simp at hhl; omega)
          obtain ⟨x, hx⟩ : ∃ x, hin[k]? = some x := ⟨_, List.getElem?_eq_getElem (by omega)⟩
          cases x with
          | true => exact .inl ⟨by omega, b, o, hp, hb, hc k _ hx⟩
          | false => exact .inr (.inl ⟨by omega, b, o, hp, hb, hc k _ hx⟩)
        · exact .inr (.inr (by omega))
      have hfin' : ∀ x ∈ ds.set k dv, Fin64 x := fun x hx => (List.mem_or_eq_of_mem_set hx).elim (hfin x) (fun e => e ▸ hdv)
      have hds' : (ds.set k dv).length = n := by simpa using hds
      have cbk : wr.cell? ⟨bb, k, none⟩ = some (.float .f64 x0) := hbb.cell k (floats_at hx0)
      have vbk := hbb.free k
      have bA : Box (wr.setCell ⟨bb, k, none⟩ (.float .f64 dv)) bb (floats (ds.set k dv)) 25 := by have := hbb.set k (.float .f64 dv); rwa [floats_set] at this
      have dA := hD0.other (a := ⟨bb, k, none⟩) h0b (.float .f64 dv)
      have nA := hN.other (a := ⟨bb, k, none⟩) hNb (.float .f64 dv)
      have cA0 : (wr.setCell ⟨bb, k, none⟩ (.float .f64 dv)).cell? ⟨N, 0, none⟩ = some (.slice (some ⟨d0, 0, none⟩) n n) := nA.cell 0 rfl
      have cAk : (wr.setCell ⟨bb, k, none⟩ (.float .f64 dv)).cell? ⟨d0, k, none⟩ = some (.float .f64 x0) := dA.cell k (floats_at hx0)
      have vAk := dA.free k
      have bB := bA.other (a := ⟨d0, k, none⟩) (fun e => h0b e.symm) (.float .f64 dv)
      have dB : Box ((wr.setCell ⟨bb, k, none⟩ (.float .f64 dv)).setCell ⟨d0, k, none⟩ (.float .f64 dv)) d0 (floats (ds.set k dv)) 25 := by have := dA.set k (.float .f64 dv); rwa [floats_set] at this
      have nB := nA.other (a := ⟨d0, k, none⟩) hN0 (.float .f64 dv)
      have eB := (hD1.other (a := ⟨bb, k, none⟩) h1b (.float .f64 dv)).other (a := ⟨d0, k, none⟩) h10 (.float .f64 dv)
      have gB := (hC.other (a := ⟨bb, k, none⟩) hCb (.float .f64 dv)).other (a := ⟨d0, k, none⟩) hC0 (.float .f64 dv)
      have rB := (hR.other (a := ⟨bb, k, none⟩) hRb (.float .f64 dv)).other (a := ⟨d0, k, none⟩) hR0 (.float .f64 dv)
      have lB : Below B w0 ((wr.setCell ⟨bb, k, none⟩ (.float .f64 dv)).setCell ⟨d0, k, none⟩ (.float .f64 dv)) := (hbel.setCell hbb1 _).setCell h0bl _
      have cB1 : ((wr.setCell ⟨bb, k, none⟩ (.float .f64 dv)).setCell ⟨d0, k, none⟩ (.float .f64 dv)).cell? ⟨N, 1, none⟩ = some (.slice (some ⟨d1, 0, none⟩) n n) := nB.cell 1 rfl
      have cBk : ((wr.setCell ⟨bb, k, none⟩ (.float .f64 dv)).setCell ⟨d0, k, none⟩ (.float .f64 dv)).cell? ⟨d1, k, none⟩ = some (.bool z0) := eB.cell k (bools_at hz0)
      have vBk := eB.free k
      have eC : Box (((wr.setCell ⟨bb, k, none⟩ (.float .f64 dv)).setCell ⟨d0, k, none⟩ (.float .f64 dv)).setCell ⟨d1, k, none⟩ (.bool true)) d1 (bools (hs.set k true)) 4 := by have := eB.set k (.bool true); rwa [bools_set] at this
      have bC := bB.other (a := ⟨d1, k, none⟩) (fun e => h1b e.symm) (.bool true)
      have dC := dB.other (a := ⟨d1, k, none⟩) (fun e => h10 e.symm) (.bool true)
      have nC := nB.other (a := ⟨d1, k, none⟩) hN1 (.bool true)
      have gC := gB.other (a := ⟨d1, k, none⟩) hC1 (.bool true)
      have rC := rB.other (a := ⟨d1, k, none⟩) h21 (.bool true)
      have lC : Below B w0 (((wr.setCell ⟨bb, k, none⟩ (.float .f64 dv)).setCell ⟨d0, k, none⟩ (.float .f64 dv)).setCell ⟨d1, k, none⟩ (.bool true)) := lB.setCell h1bl _
      have hhs' : (hs.set k true).length = n := by simpa using hhs
      have HZ : Hid (∀ b o, b < B → ((wr.setCell ⟨bb, k, none⟩ (.float .f64 dv)).setCell ⟨d0, k, none⟩ (.float .f64 dv)).cell? ⟨b, o, none⟩ = wr.cell? ⟨b, o, none⟩) := fun b o hb => (lB.cell (p := ⟨b, o, none⟩) hb).trans (hbel.cell (p := ⟨b, o, none⟩) hb).symm
      clear hx0 hz0 hfin hdv
      rcases HD.out with ⟨hkl, b, o, x, rfl, hx, he⟩ | ⟨hkl, he⟩
      all_goals
        rcases HH.out with ⟨hkh, b', o', rfl, hb', hx'⟩ | ⟨hkh, b', o', rfl, hb', hx'⟩ | hkh
        all_goals
          try have hx'' := (HZ.out b' (o' + k) hb').trans hx'
          try obtain rfl := he.symm
          clear HD HH HZ
          go_wp2_with fail
          go_roundg (gk - 1)
          case measure => omega
          case rel => first | exact ⟨k + 1, _, _, by omega, by go_num, hds', hhs, hfin', bB, dB, eB, nB, gB, rB, lB⟩ | exact ⟨k + 1, _, _, by omega, by go_num, hds', hhs', hfin', bC, dC, eC, nC, gC, rC, lC⟩
    · obtain rfl : n = k := by omega
      go_upto_region 27 with fail
      refine region27 rd _ _ _ _ _ _ _ _ _ _ _ _ _ _ _ _ _ _ _ _ _ _ _ _ _ _ _ _ _ _ _ _ _ _ _ _ _ _ _ _ _ _ _ _ _ _ _ _ _ _ _ _ _ _ _ _ _ _ _ _ _ _ _ _ _ _ _ _ _ _ _ _ _ _ _ _ _ _ _ _ _ _ _ _ _ _ _ _ _ _ _ _ _ _ _ _ _ _ _ _ _ _ _ _ _ _ _ _ _ _ _ _ _ _ _ _ _ _ _ _ _ _ _ _ _ _ _ _ _ _ _ _ _ _ _ _ _ _ _ _ _ _ _ _ _ _ _ _ _ _ _ _ _ (fun u148 u149 => ?_)
      rename_i aK
      refine aK _ _ ?_
      exact tail B w0 f rd ph cnt n q adj C N bb c0 c1 c2 d0 d1 d2 tm rs hs ds _ n0 n1 f0 f1 hqn p0 p1 r0 r1 hadj t0 (by omega) hrs hds hhs hfin hbb hD0 hD1 hN hC hR h0b hCN h21 hCl hRl h0bl hbel (Nat.le_trans hBw hbel.size) _ _ _ _ _ _ _ _ _ _ _ _ _ _ _ _ _ _ _ _ _ _ _ _ _ _ _ _ _ _ _ _ _ _ _ _ _ _ _ _ _ _ _ _ _ _ _ _ _ _ _ _ _ _ _ _ _ _ _ _ _ _ _ _ _ _ _ _ _ _ _ _ _ _ _ _ _ _ _ _ _ _ _ _ _ _ _ _ _ _ _ _ _ _ _ _ _ _ _ _ _ _ _ _ _ _ _ _ _ _ _ _ _ _ _ _ _ _ _ _ _ _ _ _ _ _ _ _ _ _ _ _ _ _ _ _ _ _ _ _ _ _ _ _ _ _ _ _ _ _ _ _ _ _ _ _ _ _ _ _ _ _ _ _ _ _ _ _ _ _ _ _ _ _ _ _ _ _ _ _ _ _ _ _ _ _ _ _ _ _ _ _ _ _ _ _ _ _ _ _ _ _ _ _ _ _ _ _ _ _ _ _ _ _ _ _ _ _ _ _ _ _ _ _ _ _ _ _ _ _ _ _ _ _ _ _ _ _ _ _ _ _ _ _ _ _ _ _ _ _ _ _ _ _ _ _ _ _ _ _ _ _ _ _ _ _ _ _ _ _ _ _ _ _ _ _ _ _ _ _ _ _ _ _ _ _ _ _ _ _ _ _ _ _ _ _ _ _ _ _ _ _ _ _ _ _ _ _ _ _ _ _ _ _ _ _ _ _ _ _ _ _ _ _ _ _ _ _ _ _ _ _ _ _ _ _ _ _ _ _ _ _ _ _ _ _ _ _ _ _ _


end Go.Proofs.Ybulkbapc

/- LawS2589AStep: small regions by themselves. -/
import Derived.Test.YbulkbapcStart
namespace Go.Proofs.Ybulkbapc
open Go.ChangeShapes Go.WideShapes Go.ChangeAt Go.RowKit
set_option linter.unusedVariables false

/-- Does a text begin with the region of number n? -/
def starts (n : Nat) : Code → Bool
  | .region k _ _ => k == n
  | .seq a _ => starts n a
  | _ => false
/-- The part of a text that begins with the region of number n. -/
def suffixAt (n : Nat) : Code → Option Code
  | .seq a c => if starts n a = true then some (.seq a c) else match suffixAt n c with
    | some d => some d
    | none => suffixAt n a
  | .block _ c => suffixAt n c
  | .scope c => suffixAt n c
  | _ => none

theorem wrap_in (x : Int) : -9223372036854775808 ≤ wrap64 x ∧ wrap64 x ≤ 9223372036854775807 := by unfold wrap64; omega
theorem wrap_ne (x : Int) : wrap64 (x + 1) ≠ x := by unfold wrap64; omega
theorem neq26 (a : Addr) (w : World) : (binOp .neq 26 (.pointer (some a)) (.pointer (some a))).run Yba.prog w = .ok (.bool false) w := by
  obtain ⟨j, hj⟩ : ∃ j, Yba.prog.info? 29 = some j := Option.isSome_iff_exists.1 (by kernel_rfl)
  exact Lib.run_neq_ptr_same (w := w) a Yba.underlying26 hj

theorem two_nk (rd : Int) {nk : Int} (C N : Nat) (h : -9223372036854775808 ≤ nk) (h' : nk ≤ 9223372036854775807) : two rd nk C N (kl nk) = some (.pointer (some ⟨N, 0, none⟩)) := turnAt_same _ (kl_key nk h h') _
theorem two_rd {rd nk : Int} (C N : Nat) (h : -9223372036854775808 ≤ rd) (h' : rd ≤ 9223372036854775807) (hne : nk ≠ rd) : two rd nk C N (kl rd) = some (.pointer (some ⟨C, 0, none⟩)) := by
  unfold two
  rw [turnAt_other _ _ _ _ (kl_ne (fun e => hne e.symm)), turnAt_same _ (kl_key rd h h') _]
theorem two_only {rd nk : Int} {C N : Nat} {l : Lit} {v : Value} (h : two rd nk C N l = some v) : l = kl rd ∨ l = kl nk := by
  by_cases h1 : l = kl nk
  · exact .inr h1
  · by_cases h2 : l = kl rd
    · exact .inl h2
    · unfold two at h
      rw [turnAt_other _ _ _ _ h1, turnAt_other _ _ _ _ h2] at h
      cases h


set_option maxRecDepth 100000 in
set_option maxHeartbeats 4000000 in
theorem region27 (rd : Int) (K : Act → World → Prop) (R : Ending → World → Prop) (w : World) (rest : List Value) (v0 v1 v2 v3 v5 v6 v7 v8 v9 v10 v11 v12 v13 v14 v15 v16 v17 v18 v19 v20 v21 v22 v23 v24 v25 v26 v27 v28 v29 v30 v31 v32 v33 v34 v35 v36 v37 v38 v39 v40 v41 v42 v43 v44 v45 v46 v47 v48 v49 v50 v51 v52 v53 v54 v55 v56 v57 v58 v59 v60 v61 v62 v63 v64 v65 v66 v67 v68 v69 v70 v71 v72 v73 v74 v75 v76 v77 v78 v79 v80 v81 v82 v83 v84 v85 v86 v87 v88 v89 v90 v91 v92 v93 v94 v95 v96 v97 v98 v99 v100 v101 v102 v103 v104 v105 v106 v107 v108 v109 v110 v111 v112 v113 v114 v115 v116 v117 v118 v119 v120 v121 v122 v123 v124 v125 v126 v127 v128 v129 v130 v131 v132 v133 v134 v135 v136 v137 v138 v139 v140 v141 v142 v143 v144 v145 v146 v147 v148 v149 : Value)
    (hQ : ∀ (u148 u149 : Value), K ⟨(v0 :: v1 :: v2 :: v3 :: .int .i64 rd :: v5 :: v6 :: v7 :: v8 :: v9 :: v10 :: v11 :: v12 :: v13 :: v14 :: v15 :: v16 :: v17 :: v18 :: v19 :: v20 :: v21 :: v22 :: v23 :: v24 :: v25 :: v26 :: v27 :: v28 :: v29 :: v30 :: v31 :: v32 :: .int .i64 (wrap64 (rd + 1)) :: v34 :: v35 :: v36 :: v37 :: v38 :: v39 :: v40 :: v41 :: v42 :: v43 :: v44 :: v45 :: v46 :: v47 :: v48 :: v49 :: v50 :: v51 :: v52 :: v53 :: v54 :: v55 :: v56 :: v57 :: v58 :: v59 :: v60 :: v61 :: v62 :: v63 :: v64 :: v65 :: v66 :: v67 :: v68 :: v69 :: v70 :: v71 :: v72 :: v73 :: v74 :: v75 :: v76 :: v77 :: v78 :: v79 :: v80 :: v81 :: v82 :: v83 :: v84 :: v85 :: v86 :: v87 :: v88 :: v89 :: v90 :: v91 :: v92 :: v93 :: v94 :: v95 :: v96 :: v97 :: v98 :: v99 :: v100 :: v101 :: v102 :: v103 :: v104 :: v105 :: v106 :: v107 :: v108 :: v109 :: v110 :: v111 :: v112 :: v113 :: v114 :: v115 :: v116 :: v117 :: v118 :: v119 :: v120 :: v121 :: v122 :: v123 :: v124 :: v125 :: v126 :: v127 :: v128 :: v129 :: v130 :: v131 :: v132 :: v133 :: v134 :: v135 :: v136 :: v137 :: v138 :: v139 :: v140 :: v141 :: v142 :: v143 :: v144 :: v145 :: v146 :: v147 :: u148 :: u149 :: rest).toArray, []⟩ w) :
    Code.wp Yba.prog ((Yba.f3.body.bind (regionAt 27)).getD .skip) (Exit.then K (bodyPost Yba.prog Yba.f3 R)) ⟨(v0 :: v1 :: v2 :: v3 :: .int .i64 rd :: v5 :: v6 :: v7 :: v8 :: v9 :: v10 :: v11 :: v12 :: v13 :: v14 :: v15 :: v16 :: v17 :: v18 :: v19 :: v20 :: v21 :: v22 :: v23 :: v24 :: v25 :: v26 :: v27 :: v28 :: v29 :: v30 :: v31 :: v32 :: v33 :: v34 :: v35 :: v36 :: v37 :: v38 :: v39 :: v40 :: v41 :: v42 :: v43 :: v44 :: v45 :: v46 :: v47 :: v48 :: v49 :: v50 :: v51 :: v52 :: v53 :: v54 :: v55 :: v56 :: v57 :: v58 :: v59 :: v60 :: v61 :: v62 :: v63 :: v64 :: v65 :: v66 :: v67 :: v68 :: v69 :: v70 :: v71 :: v72 :: v73 :: v74 :: v75 :: v76 :: v77 :: v78 :: v79 :: v80 :: v81 :: v82 :: v83 :: v84 :: v85 :: v86 :: v87 :: v88 :: v89 :: v90 :: v91 :: v92 :: v93 :: v94 :: v95 :: v96 :: v97 :: v98 :: v99 :: v100 :: v101 :: v102 :: v103 :: v104 :: v105 :: v106 :: v107 :: v108 :: v109 :: v110 :: v111 :: v112 :: v113 :: v114 :: v115 :: v116 :: v117 :: v118 :: v119 :: v120 :: v121 :: v122 :: v123 :: v124 :: v125 :: v126 :: v127 :: v128 :: v129 :: v130 :: v131 :: v132 :: v133 :: v134 :: v135 :: v136 :: v137 :: v138 :: v139 :: v140 :: v141 :: v142 :: v143 :: v144 :: v145 :: v146 :: v147 :: v148 :: v149 :: rest).toArray, []⟩ w := by
  show Code.wp Yba.prog (Code.region _ _ _) _ _ _
  go_wp2_with fail
  exact hQ _ _


set_option maxRecDepth 100000 in
set_option maxHeartbeats 4000000 in
theorem region31 (f ph cnt : Int) (tm b1 : Bool) (hb1 : b1 = decide (ph = 2 ∧ (tm = true ∨ f < cnt))) (K : Act → World → Prop) (R : Ending → World → Prop) (w : World) (rest : List Value) (v0 v1 v2 v3 v4 v6 v7 v8 v9 v10 v11 v12 v13 v14 v15 v16 v17 v18 v19 v20 v21 v23 v25 v26 v28 v29 v30 v31 v32 v33 v34 v35 v36 v37 v38 v39 v40 v41 v42 v43 v44 v45 v46 v47 v48 v49 v50 v51 v52 v53 v54 v55 v56 v57 v58 v59 v60 v61 v62 v63 v64 v65 v66 v67 v68 v69 v70 v71 v72 v73 v74 v75 v76 v77 v78 v79 v80 v81 v82 v83 v84 v85 v86 v87 v88 v89 v90 v91 v92 v93 v94 v95 v96 v97 v98 v99 v100 v101 v102 v103 v104 v105 v106 v107 v108 v109 v110 v111 v112 v113 v114 v115 v116 v117 v118 v119 v120 v121 v122 v123 v124 v125 v126 v127 v128 v129 v130 v131 v132 v133 v134 v135 v136 v137 v138 v139 v140 v141 v142 v143 v144 v145 v146 v147 v148 v149 v150 v151 v152 v153 v154 v155 v156 v157 v158 v159 v160 v161 v162 v163 v164 v165 v166 v167 v168 v169 v170 v171 v172 v173 v174 v175 v176 v177 v178 v179 v180 v181 v182 v183 v184 v185 v186 : Value)
    (hQ : ∀ (u177 u178 u179 u180 u181 u182 u183 u184 u185 u186 : Value), K ⟨(v0 :: v1 :: v2 :: v3 :: v4 :: .bool tm :: v6 :: v7 :: v8 :: v9 :: v10 :: v11 :: v12 :: v13 :: v14 :: v15 :: v16 :: v17 :: v18 :: v19 :: v20 :: v21 :: .int .i64 f :: v23 :: .int .u8 ph :: v25 :: v26 :: .int .i64 cnt :: v28 :: v29 :: v30 :: v31 :: v32 :: v33 :: v34 :: v35 :: v36 :: .bool b1 :: v38 :: v39 :: v40 :: v41 :: v42 :: v43 :: v44 :: v45 :: v46 :: v47 :: v48 :: v49 :: v50 :: v51 :: v52 :: v53 :: v54 :: v55 :: v56 :: v57 :: v58 :: v59 :: v60 :: v61 :: v62 :: v63 :: v64 :: v65 :: v66 :: v67 :: v68 :: v69 :: v70 :: v71 :: v72 :: v73 :: v74 :: v75 :: v76 :: v77 :: v78 :: v79 :: v80 :: v81 :: v82 :: v83 :: v84 :: v85 :: v86 :: v87 :: v88 :: v89 :: v90 :: v91 :: v92 :: v93 :: v94 :: v95 :: v96 :: v97 :: v98 :: v99 :: v100 :: v101 :: v102 :: v103 :: v104 :: v105 :: v106 :: v107 :: v108 :: v109 :: v110 :: v111 :: v112 :: v113 :: v114 :: v115 :: v116 :: v117 :: v118 :: v119 :: v120 :: v121 :: v122 :: v123 :: v124 :: v125 :: v126 :: v127 :: v128 :: v129 :: v130 :: v131 :: v132 :: v133 :: v134 :: v135 :: v136 :: v137 :: v138 :: v139 :: v140 :: v141 :: v142 :: v143 :: v144 :: v145 :: v146 :: v147 :: v148 :: v149 :: v150 :: v151 :: v152 :: v153 :: v154 :: v155 :: v156 :: v157 :: v158 :: v159 :: v160 :: v161 :: v162 :: v163 :: v164 :: v165 :: v166 :: v167 :: v168 :: v169 :: v170 :: v171 :: v172 :: v173 :: v174 :: v175 :: v176 :: u177 :: u178 :: u179 :: u180 :: u181 :: u182 :: u183 :: u184 :: u185 :: u186 :: rest).toArray, []⟩ w) :
    Code.wp Yba.prog ((Yba.f3.body.bind (regionAt 31)).getD .skip) (Exit.then K (bodyPost Yba.prog Yba.f3 R)) ⟨(v0 :: v1 :: v2 :: v3 :: v4 :: .bool tm :: v6 :: v7 :: v8 :: v9 :: v10 :: v11 :: v12 :: v13 :: v14 :: v15 :: v16 :: v17 :: v18 :: v19 :: v20 :: v21 :: .int .i64 f :: v23 :: .int .u8 ph :: v25 :: v26 :: .int .i64 cnt :: v28 :: v29 :: v30 :: v31 :: v32 :: v33 :: v34 :: v35 :: v36 :: v37 :: v38 :: v39 :: v40 :: v41 :: v42 :: v43 :: v44 :: v45 :: v46 :: v47 :: v48 :: v49 :: v50 :: v51 :: v52 :: v53 :: v54 :: v55 :: v56 :: v57 :: v58 :: v59 :: v60 :: v61 :: v62 :: v63 :: v64 :: v65 :: v66 :: v67 :: v68 :: v69 :: v70 :: v71 :: v72 :: v73 :: v74 :: v75 :: v76 :: v77 :: v78 :: v79 :: v80 :: v81 :: v82 :: v83 :: v84 :: v85 :: v86 :: v87 :: v88 :: v89 :: v90 :: v91 :: v92 :: v93 :: v94 :: v95 :: v96 :: v97 :: v98 :: v99 :: v100 :: v101 :: v102 :: v103 :: v104 :: v105 :: v106 :: v107 :: v108 :: v109 :: v110 :: v111 :: v112 :: v113 :: v114 :: v115 :: v116 :: v117 :: v118 :: v119 :: v120 :: v121 :: v122 :: v123 :: v124 :: v125 :: v126 :: v127 :: v128 :: v129 :: v130 :: v131 :: v132 :: v133 :: v134 :: v135 :: v136 :: v137 :: v138 :: v139 :: v140 :: v141 :: v142 :: v143 :: v144 :: v145 :: v146 :: v147 :: v148 :: v149 :: v150 :: v151 :: v152 :: v153 :: v154 :: v155 :: v156 :: v157 :: v158 :: v159 :: v160 :: v161 :: v162 :: v163 :: v164 :: v165 :: v166 :: v167 :: v168 :: v169 :: v170 :: v171 :: v172 :: v173 :: v174 :: v175 :: v176 :: v177 :: v178 :: v179 :: v180 :: v181 :: v182 :: v183 :: v184 :: v185 :: v186 :: rest).toArray, []⟩ w := by
  show Code.wp Yba.prog (Code.region _ _ _) _ _ _
  by_cases hph : ph = 2
  · subst hph
    cases tm with
    | true =>
      obtain rfl : b1 = true := by simpa using hb1
      clear hb1
      go_wp2_with fail
      exact hQ _ _ _ _ _ _ _ _ _ _
    | false =>
      by_cases hfc : f < cnt
      · obtain rfl : b1 = true := by simpa [hfc] using hb1
        clear hb1
        go_wp2_with fail
        exact hQ _ _ _ _ _ _ _ _ _ _
      · obtain rfl : b1 = false := by simpa [hfc] using hb1
        have hd : decide (f < cnt) = false := by simpa using hfc
        clear hb1
        go_wp2_with fail
        exact hQ _ _ _ _ _ _ _ _ _ _
  · obtain rfl : b1 = false := by simpa [hph] using hb1
    have hd : (ph == 2) = false := by simpa using hph
    have hdd : decide (ph = 2) = false := by simpa using hph
    clear hb1
    go_wp2_with fail
    all_goals exact hQ _ _ _ _ _ _ _ _ _ _

set_option maxRecDepth 100000 in
set_option maxHeartbeats 4000000 in
theorem region38 (n : Nat) (f ph cnt : Int) (n1 : n ≤ 1000) (f0 : 0 ≤ f) (f1 : f ≤ 1000) (b2 : Bool) (hb2 : b2 = decide (ph = 3 ∧ (n : Int) - f ≤ cnt)) (K : Act → World → Prop) (R : Ending → World → Prop) (w : World) (rest : List Value) (v0 v1 v2 v3 v4 v5 v6 v7 v8 v9 v10 v11 v12 v13 v14 v15 v16 v17 v18 v19 v20 v23 v24 v25 v26 v27 v28 v29 v30 v31 v32 v33 v34 v35 v36 v37 v40 v41 v42 v43 v44 v45 v46 v47 v48 v49 v50 v51 v52 v53 v54 v55 v56 v57 v58 v59 v60 v61 v62 v63 v64 v65 v66 v67 v68 v69 v70 v71 v72 v73 v74 v75 v76 v77 v78 v79 v80 v81 v82 v83 v84 v85 v86 v87 v88 v89 v90 v91 v92 v93 v94 v95 v96 v97 v98 v99 v100 v101 v102 v103 v104 v105 v106 v107 v108 v109 v110 v111 v112 v113 v114 v115 v116 v117 v118 v119 v120 v121 v122 v123 v124 v125 v126 v127 v128 v129 v130 v131 v132 v133 v134 v135 v136 v137 v138 v139 v140 v141 v142 v143 v144 v145 v146 v147 v148 v149 v150 v151 v152 v153 v154 v155 v156 v157 v158 v159 v160 v161 v162 v163 v164 v165 v166 v167 v168 v169 v170 v171 v172 v173 v174 v175 v176 v177 v178 v179 v180 v181 v182 v183 v184 v185 v186 v187 v188 v189 v190 v191 v192 v193 v194 v195 v196 v197 v198 v199 v200 v201 v202 v203 v204 v205 : Value)
    (hQ : ∀ (u197 u198 u199 u200 u201 u202 u203 u204 u205 : Value), K ⟨(v0 :: v1 :: v2 :: v3 :: v4 :: v5 :: v6 :: v7 :: v8 :: v9 :: v10 :: v11 :: v12 :: v13 :: v14 :: v15 :: v16 :: v17 :: v18 :: v19 :: v20 :: .int .i64 (n : Int) :: .int .i64 f :: v23 :: v24 :: v25 :: v26 :: v27 :: v28 :: v29 :: v30 :: v31 :: v32 :: v33 :: v34 :: v35 :: v36 :: v37 :: .int .i64 cnt :: .int .u8 ph :: .bool b2 :: v41 :: v42 :: v43 :: v44 :: v45 :: v46 :: v47 :: v48 :: v49 :: v50 :: v51 :: v52 :: v53 :: v54 :: v55 :: v56 :: v57 :: v58 :: v59 :: v60 :: v61 :: v62 :: v63 :: v64 :: v65 :: v66 :: v67 :: v68 :: v69 :: v70 :: v71 :: v72 :: v73 :: v74 :: v75 :: v76 :: v77 :: v78 :: v79 :: v80 :: v81 :: v82 :: v83 :: v84 :: v85 :: v86 :: v87 :: v88 :: v89 :: v90 :: v91 :: v92 :: v93 :: v94 :: v95 :: v96 :: v97 :: v98 :: v99 :: v100 :: v101 :: v102 :: v103 :: v104 :: v105 :: v106 :: v107 :: v108 :: v109 :: v110 :: v111 :: v112 :: v113 :: v114 :: v115 :: v116 :: v117 :: v118 :: v119 :: v120 :: v121 :: v122 :: v123 :: v124 :: v125 :: v126 :: v127 :: v128 :: v129 :: v130 :: v131 :: v132 :: v133 :: v134 :: v135 :: v136 :: v137 :: v138 :: v139 :: v140 :: v141 :: v142 :: v143 :: v144 :: v145 :: v146 :: v147 :: v148 :: v149 :: v150 :: v151 :: v152 :: v153 :: v154 :: v155 :: v156 :: v157 :: v158 :: v159 :: v160 :: v161 :: v162 :: v163 :: v164 :: v165 :: v166 :: v167 :: v168 :: v169 :: v170 :: v171 :: v172 :: v173 :: v174 :: v175 :: v176 :: v177 :: v178 :: v179 :: v180 :: v181 :: v182 :: v183 :: v184 :: v185 :: v186 :: v187 :: v188 :: v189 :: v190 :: v191 :: v192 :: v193 :: v194 :: v195 :: v196 :: u197 :: u198 :: u199 :: u200 :: u201 :: u202 :: u203 :: u204 :: u205 :: rest).toArray, []⟩ w) :
    Code.wp Yba.prog ((Yba.f3.body.bind (regionAt 38)).getD .skip) (Exit.then K (bodyPost Yba.prog Yba.f3 R)) ⟨(v0 :: v1 :: v2 :: v3 :: v4 :: v5 :: v6 :: v7 :: v8 :: v9 :: v10 :: v11 :: v12 :: v13 :: v14 :: v15 :: v16 :: v17 :: v18 :: v19 :: v20 :: .int .i64 (n : Int) :: .int .i64 f :: v23 :: v24 :: v25 :: v26 :: v27 :: v28 :: v29 :: v30 :: v31 :: v32 :: v33 :: v34 :: v35 :: v36 :: v37 :: .int .i64 cnt :: .int .u8 ph :: v40 :: v41 :: v42 :: v43 :: v44 :: v45 :: v46 :: v47 :: v48 :: v49 :: v50 :: v51 :: v52 :: v53 :: v54 :: v55 :: v56 :: v57 :: v58 :: v59 :: v60 :: v61 :: v62 :: v63 :: v64 :: v65 :: v66 :: v67 :: v68 :: v69 :: v70 :: v71 :: v72 :: v73 :: v74 :: v75 :: v76 :: v77 :: v78 :: v79 :: v80 :: v81 :: v82 :: v83 :: v84 :: v85 :: v86 :: v87 :: v88 :: v89 :: v90 :: v91 :: v92 :: v93 :: v94 :: v95 :: v96 :: v97 :: v98 :: v99 :: v100 :: v101 :: v102 :: v103 :: v104 :: v105 :: v106 :: v107 :: v108 :: v109 :: v110 :: v111 :: v112 :: v113 :: v114 :: v115 :: v116 :: v117 :: v118 :: v119 :: v120 :: v121 :: v122 :: v123 :: v124 :: v125 :: v126 :: v127 :: v128 :: v129 :: v130 :: v131 :: v132 :: v133 :: v134 :: v135 :: v136 :: v137 :: v138 :: v139 :: v140 :: v141 :: v142 :: v143 :: v144 :: v145 :: v146 :: v147 :: v148 :: v149 :: v150 :: v151 :: v152 :: v153 :: v154 :: v155 :: v156 :: v157 :: v158 :: v159 :: v160 :: v161 :: v162 :: v163 :: v164 :: v165 :: v166 :: v167 :: v168 :: v169 :: v170 :: v171 :: v172 :: v173 :: v174 :: v175 :: v176 :: v177 :: v178 :: v179 :: v180 :: v181 :: v182 :: v183 :: v184 :: v185 :: v186 :: v187 :: v188 :: v189 :: v190 :: v191 :: v192 :: v193 :: v194 :: v195 :: v196 :: v197 :: v198 :: v199 :: v200 :: v201 :: v202 :: v203 :: v204 :: v205 :: rest).toArray, []⟩ w := by
  show Code.wp Yba.prog (Code.region _ _ _) _ _ _
  by_cases hph : ph = 3
  · subst hph
    by_cases hfc : (n : Int) - f ≤ cnt
    · obtain rfl : b2 = true := by simpa [hfc] using hb2
      clear hb2
      go_wp2_with fail
      exact hQ _ _ _ _ _ _ _ _ _
    · obtain rfl : b2 = false := by simpa [hfc] using hb2
      have hd : decide ((n : Int) - f ≤ cnt) = false := by simpa using hfc
      clear hb2
      go_wp2_with fail
      exact hQ _ _ _ _ _ _ _ _ _
  · obtain rfl : b2 = false := by simpa [hph] using hb2
    have hd : (ph == 3) = false := by simpa using hph
    have hdd : decide (ph = 3) = false := by simpa using hph
    clear hb2
    go_wp2_with fail
    all_goals exact hQ _ _ _ _ _ _ _ _ _

end Go.Proofs.Ybulkbapc

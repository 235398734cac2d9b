/- LawS2589AStep: the region that makes the Startup. -/
import Derived.Test.YbulkbapcRegions
import Derived.Carry
namespace Go.Proofs.Ybulkbapc
open Go.ChangeShapes Go.WideShapes Go.ChangeAt Go.RowKit
set_option linter.unusedVariables false

/-- The two rounds. -/
def two (rd nk : Int) (C N : Nat) : Lit → Option Value := turnAt (turnAt (fun _ => none) (kl rd) (some (.pointer (some ⟨C, 0, none⟩)))) (kl nk) (some (.pointer (some ⟨N, 0, none⟩)))

set_option maxRecDepth 100000 in
set_option maxHeartbeats 4000000 in
theorem region28 (n q : Nat) (f rd ph nk : Int) (adj C N : Nat) (hn : n ≤ 300) (r0 : -9223372036854775808 ≤ rd) (r1 : rd ≤ 9223372036854775807) (n0 : -9223372036854775808 ≤ nk) (n1 : nk ≤ 9223372036854775807) (hnk : nk ≠ rd) (K : Act → World → Prop) (R : Ending → World → Prop) (w : World) (rest : List Value) (v0 v1 v2 v3 v5 v6 v7 v8 v9 v10 v11 v12 v13 v14 v15 v16 v17 v18 v19 v20 v27 v28 v30 v31 v32 v34 v35 v36 v37 v38 v39 v40 v41 v42 v43 v44 v45 v46 v47 v48 v49 v50 v51 v52 v53 v54 v55 v56 v57 v58 v59 v60 v61 v62 v63 v64 v65 v66 v67 v68 v69 v70 v71 v72 v73 v74 v75 v76 v77 v78 v79 v80 v81 v82 v83 v84 v85 v86 v87 v88 v89 v90 v91 v92 v93 v94 v95 v96 v97 v98 v99 v100 v101 v102 v103 v104 v105 v106 v107 v108 v109 v110 v111 v112 v113 v114 v115 v116 v117 v118 v119 v120 v121 v122 v123 v124 v125 v126 v127 v128 v129 v130 v131 v132 v133 v134 v135 v136 v137 v138 v139 v140 v141 v142 v143 v144 v145 v146 v147 v148 v149 v150 v151 v152 v153 v154 v155 v156 v157 v158 v159 v160 v161 v162 v163 v164 v165 v166 : Value)
    (hQ : ∀ (u150 u151 u152 u153 u154 u155 u156 u157 u158 u159 u160 u161 u162 u163 u164 u165 u166 : Value) (S M sb : Nat) (w' : World), Box w' S (sc n f q rd ph adj M sb n) 36 → HasMap Yba.prog 2 w' M 2 (two rd nk C N) → w.heap.size ≤ S → w.heap.size ≤ M → Below w.heap.size w w' →
      K ⟨(v0 :: v1 :: v2 :: v3 :: .int .i64 rd :: v5 :: v6 :: v7 :: v8 :: v9 :: v10 :: v11 :: v12 :: v13 :: v14 :: v15 :: v16 :: v17 :: v18 :: v19 :: v20 :: .int .i64 (n : Int) :: .int .i64 f :: .int .i64 (q : Int) :: .int .u8 ph :: .float .f64 adj :: .pointer (some ⟨C, 0, none⟩) :: v27 :: v28 :: .pointer (some ⟨N, 0, none⟩) :: v30 :: v31 :: v32 :: .int .i64 nk :: .pointer (some ⟨S, 0, none⟩) :: v35 :: v36 :: v37 :: v38 :: v39 :: v40 :: v41 :: v42 :: v43 :: v44 :: v45 :: v46 :: v47 :: v48 :: v49 :: v50 :: v51 :: v52 :: v53 :: v54 :: v55 :: v56 :: v57 :: v58 :: v59 :: v60 :: v61 :: v62 :: v63 :: v64 :: v65 :: v66 :: v67 :: v68 :: v69 :: v70 :: v71 :: v72 :: v73 :: v74 :: v75 :: v76 :: v77 :: v78 :: v79 :: v80 :: v81 :: v82 :: v83 :: v84 :: v85 :: v86 :: v87 :: v88 :: v89 :: v90 :: v91 :: v92 :: v93 :: v94 :: v95 :: v96 :: v97 :: v98 :: v99 :: v100 :: v101 :: v102 :: v103 :: v104 :: v105 :: v106 :: v107 :: v108 :: v109 :: v110 :: v111 :: v112 :: v113 :: v114 :: v115 :: v116 :: v117 :: v118 :: v119 :: v120 :: v121 :: v122 :: v123 :: v124 :: v125 :: v126 :: v127 :: v128 :: v129 :: v130 :: v131 :: v132 :: v133 :: v134 :: v135 :: v136 :: v137 :: v138 :: v139 :: v140 :: v141 :: v142 :: v143 :: v144 :: v145 :: v146 :: v147 :: v148 :: v149 :: u150 :: u151 :: u152 :: u153 :: u154 :: u155 :: u156 :: u157 :: u158 :: u159 :: u160 :: u161 :: u162 :: u163 :: u164 :: u165 :: u166 :: rest).toArray, []⟩ w') :
    Code.wp Yba.prog ((Yba.f3.body.bind (regionAt 28)).getD .skip) (Exit.then K (bodyPost Yba.prog Yba.f3 R)) ⟨(v0 :: v1 :: v2 :: v3 :: .int .i64 rd :: v5 :: v6 :: v7 :: v8 :: v9 :: v10 :: v11 :: v12 :: v13 :: v14 :: v15 :: v16 :: v17 :: v18 :: v19 :: v20 :: .int .i64 (n : Int) :: .int .i64 f :: .int .i64 (q : Int) :: .int .u8 ph :: .float .f64 adj :: .pointer (some ⟨C, 0, none⟩) :: v27 :: v28 :: .pointer (some ⟨N, 0, none⟩) :: v30 :: v31 :: v32 :: .int .i64 nk :: v34 :: v35 :: v36 :: v37 :: v38 :: v39 :: v40 :: v41 :: v42 :: v43 :: v44 :: v45 :: v46 :: v47 :: v48 :: v49 :: v50 :: v51 :: v52 :: v53 :: v54 :: v55 :: v56 :: v57 :: v58 :: v59 :: v60 :: v61 :: v62 :: v63 :: v64 :: v65 :: v66 :: v67 :: v68 :: v69 :: v70 :: v71 :: v72 :: v73 :: v74 :: v75 :: v76 :: v77 :: v78 :: v79 :: v80 :: v81 :: v82 :: v83 :: v84 :: v85 :: v86 :: v87 :: v88 :: v89 :: v90 :: v91 :: v92 :: v93 :: v94 :: v95 :: v96 :: v97 :: v98 :: v99 :: v100 :: v101 :: v102 :: v103 :: v104 :: v105 :: v106 :: v107 :: v108 :: v109 :: v110 :: v111 :: v112 :: v113 :: v114 :: v115 :: v116 :: v117 :: v118 :: v119 :: v120 :: v121 :: v122 :: v123 :: v124 :: v125 :: v126 :: v127 :: v128 :: v129 :: v130 :: v131 :: v132 :: v133 :: v134 :: v135 :: v136 :: v137 :: v138 :: v139 :: v140 :: v141 :: v142 :: v143 :: v144 :: v145 :: v146 :: v147 :: v148 :: v149 :: v150 :: v151 :: v152 :: v153 :: v154 :: v155 :: v156 :: v157 :: v158 :: v159 :: v160 :: v161 :: v162 :: v163 :: v164 :: v165 :: v166 :: rest).toArray, []⟩ w := by
  have m27 := make27 n hn
  have hmm := @run_makeMap Yba.prog
  have ky1 := key_ok rd r0 r1
  have ky2 := key_ok nk n0 n1
  have q1 := kl_key rd r0 r1
  have q2 := kl_key nk n0 n1
  have fnd : ∀ (W : World) (b : Nat), HasMap Yba.prog 2 W b 0 (fun _ => none) → ∃ W', (Instr.mapUpdate 34 (.map (some b)) (.int .i64 rd) (.pointer (some ⟨C, 0, none⟩))).run Yba.prog W = .ok () W' ∧ HasMap Yba.prog 2 W' b 1 (turnAt (fun _ => none) (kl rd) (some (.pointer (some ⟨C, 0, none⟩)))) ∧ W.grownBy W' (some b) ∧ W'.heap.size = W.heap.size := fun W b h =>
    h.store (t := 34) (e := 26) law2 Yba.underlying34 (by decide) ky1 _ (turnAt_same _ q1 _) (fun l hl => turnAt_other _ _ _ l hl)
  have fnd2 : ∀ (W : World) (b : Nat), HasMap Yba.prog 2 W b 1 (turnAt (fun _ => none) (kl rd) (some (.pointer (some ⟨C, 0, none⟩)))) → ∃ W', (Instr.mapUpdate 34 (.map (some b)) (.int .i64 nk) (.pointer (some ⟨N, 0, none⟩))).run Yba.prog W = .ok () W' ∧ HasMap Yba.prog 2 W' b 2 (two rd nk C N) ∧ W.grownBy W' (some b) ∧ W'.heap.size = W.heap.size := fun W b h =>
    h.store (t := 34) (e := 26) law2 Yba.underlying34 (by decide) ky2 _ (turnAt_same _ q2 _) (fun l hl => turnAt_other _ _ _ l hl)
  have gnd : ∀ (W : World) (b : Nat), HasMap Yba.prog 2 W b 0 (fun _ => none) → ∃ W', (Instr.mapUpdate 34 (.map (some b)) (.int .i64 nk) (.pointer (some ⟨N, 0, none⟩))).run Yba.prog W = .ok () W' ∧ HasMap Yba.prog 2 W' b 1 (turnAt (fun _ => none) (kl nk) (some (.pointer (some ⟨N, 0, none⟩)))) ∧ W.grownBy W' (some b) ∧ W'.heap.size = W.heap.size := fun W b h =>
    h.store (t := 34) (e := 26) law2 Yba.underlying34 (by decide) ky2 _ (turnAt_same _ q2 _) (fun l hl => turnAt_other _ _ _ l hl)
  have gnd2 : ∀ (W : World) (b : Nat), HasMap Yba.prog 2 W b 1 (turnAt (fun _ => none) (kl nk) (some (.pointer (some ⟨N, 0, none⟩)))) → ∃ W', (Instr.mapUpdate 34 (.map (some b)) (.int .i64 rd) (.pointer (some ⟨C, 0, none⟩))).run Yba.prog W = .ok () W' ∧ HasMap Yba.prog 2 W' b 2 (two rd nk C N) ∧ W.grownBy W' (some b) ∧ W'.heap.size = W.heap.size := fun W b h =>
    h.store (t := 34) (e := 26) law2 Yba.underlying34 (by decide) ky1 _ (by unfold two; rw [turnAt_other _ _ _ _ (kl_ne (fun e => hnk e.symm)), turnAt_same _ q1 _]) (fun l hl => by simp only [two, turnAt, Maps.sameKey_ne hl]; rfl)
  have hm0 := HasMap.made Yba.prog 2 (w.alloc (.cells (floats (List.replicate n 0)) 25))
  have hm1 := (HasMap.made Yba.prog 2 w).alloc (.cells (floats (List.replicate n 0)) 25)
  have hm2 := HasMap.made Yba.prog 2 w
  rw [show (w.alloc (.cells (floats (List.replicate n 0)) 25)).heap.size = w.heap.size + 1 by simp] at hm0
  obtain ⟨A1, ea1, ha1, ga1, za1⟩ := fnd _ _ hm0.drew
  obtain ⟨A2, ea2, ha2, ga2, za2⟩ := fnd2 _ _ ha1
  obtain ⟨B1, eb1, hb1, gb1, zb1⟩ := fnd _ _ hm1.drew
  obtain ⟨B2, eb2, hb2, gb2, zb2⟩ := fnd2 _ _ hb1
  obtain ⟨C1, ec1, hc1, gc1, zc1⟩ := fnd _ _ hm2.drew
  obtain ⟨C2, ec2, hc2, gc2, zc2⟩ := fnd2 _ _ (hc1.alloc (.cells (floats (List.replicate n 0)) 25))
  obtain ⟨D2, ed2, hd2, gd2, zd2⟩ := fnd2 _ _ hc1
  obtain ⟨E1, ee1, he1, ge1, ze1⟩ := gnd _ _ hm0.drew
  obtain ⟨E2, ee2, he2, ge2, ze2⟩ := gnd2 _ _ he1
  obtain ⟨F1, ef1, hf1, gf1, zf1⟩ := gnd _ _ hm1.drew
  obtain ⟨F2, ef2, hf2, gf2, zf2⟩ := gnd2 _ _ hf1
  obtain ⟨G1, eg1, hg1, gg1, zg1⟩ := gnd _ _ hm2.drew
  obtain ⟨G2, eg2, hg2, gg2, zg2⟩ := gnd2 _ _ (hg1.alloc (.cells (floats (List.replicate n 0)) 25))
  obtain ⟨H2, eh2, hh2, gh2, zh2⟩ := gnd2 _ _ hg1
  have hK : ∀ k, w.heap.size ≤ k → w.heap.size ≤ k := fun _ h => h
  have fin : ∀ (W : World) (M : Nat), W.heap.size = w.heap.size + 1 + 1 → HasMap Yba.prog 2 W M 2 (two rd nk C N) → But (fun k => w.heap.size ≤ k) w W → ∀ cs, Box (W.alloc (.cells cs 36)) (w.heap.size + 1 + 1) cs 36 ∧ HasMap Yba.prog 2 (W.alloc (.cells cs 36)) M 2 (two rd nk C N) ∧ Below w.heap.size w (W.alloc (.cells cs 36)) := fun W M hz hm hb cs =>
    ⟨by have := Box.new W cs 36; rwa [hz] at this, hm.alloc _, (hb.alloc _).below (Nat.le_refl _) hK⟩
  have b0 : But (fun k => w.heap.size ≤ k) w ((w.alloc (.cells (floats (List.replicate n 0)) 25)).alloc (.map #[] 0)).drew := (((But.refl _ w).alloc _).alloc _).drew
  have b1 : But (fun k => w.heap.size ≤ k) w ((w.alloc (.map #[] 0)).alloc (.cells (floats (List.replicate n 0)) 25)).drew := (((But.refl _ w).alloc _).alloc _).drew
  have b2 : But (fun k => w.heap.size ≤ k) w (w.alloc (.map #[] 0)).drew := ((But.refl _ w).alloc _).drew
  have s0 : ((w.alloc (.cells (floats (List.replicate n 0)) 25)).alloc (.map #[] 0)).drew.heap.size = w.heap.size + 1 + 1 := by simp
  have s1 : ((w.alloc (.map #[] 0)).alloc (.cells (floats (List.replicate n 0)) 25)).drew.heap.size = w.heap.size + 1 + 1 := by simp
  have s2 : (w.alloc (.map #[] 0)).drew.heap.size = w.heap.size + 1 := by simp
  have o1 : w.heap.size ≤ w.heap.size + 1 := by omega
  have o0 := Nat.le_refl w.heap.size
  have sc1 : (C1.alloc (.cells (floats (List.replicate n 0)) 25)).heap.size = w.heap.size + 1 + 1 := by simp [zc1]
  have sg1 : (G1.alloc (.cells (floats (List.replicate n 0)) 25)).heap.size = w.heap.size + 1 + 1 := by simp [zg1]
  have sd2 : (D2.alloc (.cells (floats (List.replicate n 0)) 25)).heap.size = w.heap.size + 1 + 1 := by simp [zd2, zc1]
  have sh2 : (H2.alloc (.cells (floats (List.replicate n 0)) 25)).heap.size = w.heap.size + 1 + 1 := by simp [zh2, zg1]
  have fA := fin A2 _ (za2.trans (za1.trans s0)) ha2 ((b0.grown ga1 o1).grown ga2 o1)
  have fB := fin B2 _ (zb2.trans (zb1.trans s1)) hb2 ((b1.grown gb1 o0).grown gb2 o0)
  have fC := fin C2 _ (zc2.trans sc1) hc2 (((b2.grown gc1 o0).alloc _).grown gc2 o0)
  have fD := fin (D2.alloc (.cells (floats (List.replicate n 0)) 25)) _ sd2 (hd2.alloc _) (((b2.grown gc1 o0).grown gd2 o0).alloc _)
  have fE := fin E2 _ (ze2.trans (ze1.trans s0)) he2 ((b0.grown ge1 o1).grown ge2 o1)
  have fF := fin F2 _ (zf2.trans (zf1.trans s1)) hf2 ((b1.grown gf1 o0).grown gf2 o0)
  have fG := fin G2 _ (zg2.trans sg1) hg2 (((b2.grown gg1 o0).alloc _).grown gg2 o0)
  have fH := fin (H2.alloc (.cells (floats (List.replicate n 0)) 25)) _ sh2 (hh2.alloc _) (((b2.grown gg1 o0).grown gh2 o0).alloc _)
  clear fin b0 b1 b2 s0 s1 s2 sc1 sg1 sd2 sh2 hm0 hm1 hm2 ha1 ha2 hb1 hb2 hc1 hc2 hd2 he1 he2 hf1 hf2 hg1 hg2 hh2 ga1 ga2 gb1 gb2 gc1 gc2 gd2 ge1 ge2 gf1 gf2 gg1 gg2 gh2
  clear fnd fnd2 gnd gnd2 ky1 ky2 q1 q2
  show Code.wp Yba.prog (Code.region _ _ _) _ _ _
  go_region
  all_goals
    apply hQ
    · first | exact (fA _).1 | exact (fB _).1 | exact (fC _).1 | exact (fD _).1 | exact (fE _).1 | exact (fF _).1 | exact (fG _).1 | exact (fH _).1
    · first | exact (fA _).2.1 | exact (fB _).2.1 | exact (fC _).2.1 | exact (fD _).2.1 | exact (fE _).2.1 | exact (fF _).2.1 | exact (fG _).2.1 | exact (fH _).2.1
    · omega
    · first | exact o0 | exact o1
    · first | exact (fA _).2.2 | exact (fB _).2.2 | exact (fC _).2.2 | exact (fD _).2.2 | exact (fE _).2.2 | exact (fF _).2.2 | exact (fG _).2.2 | exact (fH _).2.2

end Go.Proofs.Ybulkbapc

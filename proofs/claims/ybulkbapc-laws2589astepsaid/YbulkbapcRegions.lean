/- LawS2589AStep: the regions that make a round, each by itself. -/
import Derived.Test.YbulkbapcParts
namespace Go.Proofs.Ybulkbapc
open Go.ChangeShapes Go.WideShapes Go.ChangeAt Go.RowKit
set_option linter.unusedVariables false
/-- The region of number n in a text. -/
def regionAt (n : Nat) : Code → Option Code
  | .region k ops b => if k = n then some (.region k ops b) else none
  | .seq a b => match regionAt n a with
    | some c => some c
    | none => regionAt n b
  | .block _ c => regionAt n c
  | .scope c => regionAt n c
  | .loop c => regionAt n c
  | .cond _ a b => match regionAt n a with
    | some c => some c
    | none => regionAt n b
  | _ => none

set_option maxRecDepth 100000 in
set_option maxHeartbeats 2000000 in
theorem region6 (n : Nat) (hn : n ≤ 300) (K : Act → World → Prop) (R : Ending → World → Prop) (w : World) (rest : List Value) (v0 v1 v2 v3 v4 v5 v6 v7 v8 v9 v10 v11 v12 v13 v14 v15 v16 v17 v18 v19 v20 v22 v23 v24 v25 v26 v27 v28 v29 v30 v31 v32 v33 v34 v35 v36 v37 v38 v39 v40 v41 v42 v43 v44 v45 v46 v47 v48 v49 v50 v51 v52 v53 v54 v55 v56 v57 v58 v59 v60 v61 v62 v63 v64 v65 v66 v67 v68 v69 : Value)
    (hQ : ∀ (u62 u63 u64 u65 u66 u67 u68 u69 : Value) (c0 c1 c2 : Nat) (w' : World), Box w' (w.heap.size + 1 + 1 + 1) (rc c0 c1 c2 n 0) 29 → Box w' c0 (floats (List.replicate n 0)) 25 → Box w' c1 (bools (List.replicate n false)) 4 → Box w' c2 (bools (List.replicate n false)) 4 → w.heap.size ≤ c0 → w.heap.size ≤ c1 → w.heap.size ≤ c2 → Below w.heap.size w w' →
      K ⟨(v0 :: v1 :: v2 :: v3 :: v4 :: v5 :: v6 :: v7 :: v8 :: v9 :: v10 :: v11 :: v12 :: v13 :: v14 :: v15 :: v16 :: v17 :: v18 :: v19 :: v20 :: .int .i64 (n : Int) :: v22 :: v23 :: v24 :: v25 :: .pointer (some ⟨w.heap.size + 1 + 1 + 1, 0, none⟩) :: v27 :: v28 :: v29 :: v30 :: v31 :: v32 :: v33 :: v34 :: v35 :: v36 :: v37 :: v38 :: v39 :: v40 :: v41 :: v42 :: v43 :: v44 :: v45 :: v46 :: v47 :: v48 :: v49 :: v50 :: v51 :: v52 :: v53 :: v54 :: v55 :: v56 :: v57 :: v58 :: v59 :: v60 :: v61 :: u62 :: u63 :: u64 :: u65 :: u66 :: u67 :: u68 :: u69 :: rest).toArray, []⟩ w') :
    Code.wp Yba.prog ((Yba.f3.body.bind (regionAt 6)).getD .skip) (Exit.then K (bodyPost Yba.prog Yba.f3 R)) ⟨(v0 :: v1 :: v2 :: v3 :: v4 :: v5 :: v6 :: v7 :: v8 :: v9 :: v10 :: v11 :: v12 :: v13 :: v14 :: v15 :: v16 :: v17 :: v18 :: v19 :: v20 :: .int .i64 (n : Int) :: v22 :: v23 :: v24 :: v25 :: v26 :: v27 :: v28 :: v29 :: v30 :: v31 :: v32 :: v33 :: v34 :: v35 :: v36 :: v37 :: v38 :: v39 :: v40 :: v41 :: v42 :: v43 :: v44 :: v45 :: v46 :: v47 :: v48 :: v49 :: v50 :: v51 :: v52 :: v53 :: v54 :: v55 :: v56 :: v57 :: v58 :: v59 :: v60 :: v61 :: v62 :: v63 :: v64 :: v65 :: v66 :: v67 :: v68 :: v69 :: rest).toArray, []⟩ w := by
  have m27 := make27 n hn
  have m22 := make22 n hn
  show Code.wp Yba.prog (Code.region _ _ _) _ _ _
  go_region
  all_goals
    refine hQ _ _ _ _ _ _ _ _ _ _ _ _ (new4 w _ _ _ _ 29).drew ?_ ?_ ?_ (by omega) (by omega) (by omega) (bel4 w _ _ _ _).drew
    · first | exact (new1 w _ 25 _ _ _).drew | exact (new2 w _ _ 25 _ _).drew | exact (new3 w _ _ _ 25 _).drew
    · first | exact (new1 w _ 4 _ _ _).drew | exact (new2 w _ _ 4 _ _).drew | exact (new3 w _ _ _ 4 _).drew
    · first | exact (new1 w _ 4 _ _ _).drew | exact (new2 w _ _ 4 _ _).drew | exact (new3 w _ _ _ 4 _).drew

set_option maxRecDepth 100000 in
set_option maxHeartbeats 2000000 in
theorem region15 (n : Nat) (hn : n ≤ 300) (K : Act → World → Prop) (R : Ending → World → Prop) (w : World) (rest : List Value) (v0 v1 v2 v3 v4 v5 v6 v7 v8 v9 v10 v11 v12 v13 v14 v15 v16 v17 v18 v19 v20 v22 v23 v24 v25 v26 v27 v28 v29 v30 v31 v32 v33 v34 v35 v36 v37 v38 v39 v40 v41 v42 v43 v44 v45 v46 v47 v48 v49 v50 v51 v52 v53 v54 v55 v56 v57 v58 v59 v60 v61 v62 v63 v64 v65 v66 v67 v68 v69 v70 v71 v72 v73 v74 v75 v76 v77 v78 v79 v80 v81 v82 v83 v84 v85 v86 v87 v88 v89 v90 v91 v92 v93 v94 v95 v96 v97 v98 v99 v100 v101 v102 v103 v104 : Value)
    (hQ : ∀ (u97 u98 u99 u100 u101 u102 u103 u104 : Value) (c0 c1 c2 : Nat) (w' : World), Box w' (w.heap.size + 1 + 1 + 1) (rc c0 c1 c2 n 0) 29 → Box w' c0 (floats (List.replicate n 0)) 25 → Box w' c1 (bools (List.replicate n false)) 4 → Box w' c2 (bools (List.replicate n false)) 4 → w.heap.size ≤ c0 → w.heap.size ≤ c1 → w.heap.size ≤ c2 → Below w.heap.size w w' →
      K ⟨(v0 :: v1 :: v2 :: v3 :: v4 :: v5 :: v6 :: v7 :: v8 :: v9 :: v10 :: v11 :: v12 :: v13 :: v14 :: v15 :: v16 :: v17 :: v18 :: v19 :: v20 :: .int .i64 (n : Int) :: v22 :: v23 :: v24 :: v25 :: v26 :: v27 :: v28 :: .pointer (some ⟨w.heap.size + 1 + 1 + 1, 0, none⟩) :: v30 :: v31 :: v32 :: v33 :: v34 :: v35 :: v36 :: v37 :: v38 :: v39 :: v40 :: v41 :: v42 :: v43 :: v44 :: v45 :: v46 :: v47 :: v48 :: v49 :: v50 :: v51 :: v52 :: v53 :: v54 :: v55 :: v56 :: v57 :: v58 :: v59 :: v60 :: v61 :: v62 :: v63 :: v64 :: v65 :: v66 :: v67 :: v68 :: v69 :: v70 :: v71 :: v72 :: v73 :: v74 :: v75 :: v76 :: v77 :: v78 :: v79 :: v80 :: v81 :: v82 :: v83 :: v84 :: v85 :: v86 :: v87 :: v88 :: v89 :: v90 :: v91 :: v92 :: v93 :: v94 :: v95 :: v96 :: u97 :: u98 :: u99 :: u100 :: u101 :: u102 :: u103 :: u104 :: rest).toArray, []⟩ w') :
    Code.wp Yba.prog ((Yba.f3.body.bind (regionAt 15)).getD .skip) (Exit.then K (bodyPost Yba.prog Yba.f3 R)) ⟨(v0 :: v1 :: v2 :: v3 :: v4 :: v5 :: v6 :: v7 :: v8 :: v9 :: v10 :: v11 :: v12 :: v13 :: v14 :: v15 :: v16 :: v17 :: v18 :: v19 :: v20 :: .int .i64 (n : Int) :: v22 :: v23 :: v24 :: v25 :: v26 :: v27 :: v28 :: v29 :: v30 :: v31 :: v32 :: v33 :: v34 :: v35 :: v36 :: v37 :: v38 :: v39 :: v40 :: v41 :: v42 :: v43 :: v44 :: v45 :: v46 :: v47 :: v48 :: v49 :: v50 :: v51 :: v52 :: v53 :: v54 :: v55 :: v56 :: v57 :: v58 :: v59 :: v60 :: v61 :: v62 :: v63 :: v64 :: v65 :: v66 :: v67 :: v68 :: v69 :: v70 :: v71 :: v72 :: v73 :: v74 :: v75 :: v76 :: v77 :: v78 :: v79 :: v80 :: v81 :: v82 :: v83 :: v84 :: v85 :: v86 :: v87 :: v88 :: v89 :: v90 :: v91 :: v92 :: v93 :: v94 :: v95 :: v96 :: v97 :: v98 :: v99 :: v100 :: v101 :: v102 :: v103 :: v104 :: rest).toArray, []⟩ w := by
  have m27 := make27 n hn
  have m22 := make22 n hn
  show Code.wp Yba.prog (Code.region _ _ _) _ _ _
  go_region
  all_goals
    refine hQ _ _ _ _ _ _ _ _ _ _ _ _ (new4 w _ _ _ _ 29).drew ?_ ?_ ?_ (by omega) (by omega) (by omega) (bel4 w _ _ _ _).drew
    · first | exact (new1 w _ 25 _ _ _).drew | exact (new2 w _ _ 25 _ _).drew | exact (new3 w _ _ _ 25 _).drew
    · first | exact (new1 w _ 4 _ _ _).drew | exact (new2 w _ _ 4 _ _).drew | exact (new3 w _ _ _ 4 _).drew
    · first | exact (new1 w _ 4 _ _ _).drew | exact (new2 w _ _ 4 _ _).drew | exact (new3 w _ _ _ 4 _).drew

end Go.Proofs.Ybulkbapc

/- zzs2593bbuild: rows, maps of a known size, the first link. -/
import Derived.Test.YbulkbargVouched
namespace Go.Proofs.Ybulkbarg
open Go.ChangeShapes Go.WideShapes Go.ChangeAt Go.RowKit
set_option linter.unusedVariables false

/-- The region of number n in a text. -/
def regionAt (n : Nat) : Code → Option Code
  | .region k ops b => if k = n then some (.region k ops b) else none
  | .seq a b => match regionAt n a with
    | some c => some c
    | none => regionAt n b
  | .block _ c => regionAt n c
  | .scope c => regionAt n c
  | .loop c => regionAt n c
  | .cond _ a b => match regionAt n a with
    | some c => some c
    | none => regionAt n b
  | _ => none
/-- Does a text begin with the region of number n? -/
def starts (n : Nat) : Code → Bool
  | .region k _ _ => k == n
  | .seq a _ => starts n a
  | _ => false
/-- The part of a text that begins with the region of number n. -/
def suffixAt (n : Nat) : Code → Option Code
  | .seq a c => if starts n a = true then some (.seq a c) else match suffixAt n c with
    | some d => some d
    | none => suffixAt n a
  | .block _ c => suffixAt n c
  | .scope c => suffixAt n c
  | _ => none

/-- The row of the processes' names. -/
def nms : Array Value := #[.string (nm 0), .string (nm 1), .string (nm 2), .string (nm 3)]
theorem nms_at : ∀ j, j < 4 → nms[j]? = some (.string (nm j))
  | 0, _ => rfl
  | 1, _ => rfl
  | 2, _ => rfl
  | 3, _ => rfl
/-- The row of the sites' names. -/
def sts : Array Value := #[.string (st 0), .string (st 1)]
theorem sts_at : ∀ j, j < 2 → sts[j]? = some (.string (st j))
  | 0, _ => rfl
  | 1, _ => rfl

theorem HasMapN.add {P : Program} {k t e : TypeId} {w : World} {b n m : Nat} {f : Lit → Option Value} (h : HasMapN P k w b n f m) (K : Maps.Keyed P k) (ht : P.underlying t = some (.map k e)) (hn : n < maxLen) {key val : Value} {kl : Lit} (hkey : keyOf P k key = some kl) (hf : f kl = none) (g : Lit → Option Value) (g1 : g kl = some val) (g2 : ∀ l, l ≠ kl → g l = f l) :
    ∃ w', (Instr.mapUpdate t (.map (some b)) key val).run P w = .ok () w' ∧ HasMapN P k w' b (n + 1) g (m + 1) ∧ w.grownBy w' (some b) ∧ w'.heap.size = w.heap.size := by
  obtain ⟨D, ⟨h1, h2⟩, hs⟩ := h
  obtain ⟨w', hr, h3, h4⟩ := h1.store K ht hn (d := .held val) (ps := []) hkey rfl
  refine ⟨w', hr, ⟨_, ⟨h3, fun l hl => ?_⟩, ?_⟩, h4.grown, ?_⟩
  · by_cases e : l = kl
    · subst e
      refine ⟨?_, fun v hv z => ?_⟩
      · rw [Maps.has_put_same h1.isMap hl, g1]; rfl
      · rw [g1, Option.some.injEq] at hv
        rw [Maps.atKey_put_same h1.isMap hl, hv]
    · rw [g2 l e, Maps.has_put_other e]
      exact ⟨(h2 l hl).1, fun v hv z => by rw [Maps.atKey_put_other e]; exact (h2 l hl).2 v hv z⟩
  · rw [Maps.size_put (h1.tidy K), (h2 kl (K.key hkey)).1, hf, hs]
    rfl
  · obtain ⟨_, _, _, _, _, rfl⟩ := h4
    simp [ChangeMaps.setBlock]
theorem HasMapN.made (P : Program) (k : TypeId) (w : World) : HasMapN P k (w.alloc (.map #[] 0)) w.heap.size 0 (fun _ => none) 0 :=
  ⟨_, ⟨World.ownsMap_made w P k RV, fun kl _ => ⟨rfl, fun v h => by cases h⟩⟩, rfl⟩
theorem HasMapN.block {P : Program} {k : TypeId} {w w' : World} {b n m : Nat} {f : Lit → Option Value} (h : HasMapN P k w b n f m) (hb : w'.heap[b]? = w.heap[b]?) : HasMapN P k w' b n f m := by
  obtain ⟨D, ⟨⟨es, clock, h1, r⟩, h2⟩, hs⟩ := h
  exact ⟨D, ⟨⟨es, clock, hb.trans h1, r⟩, h2⟩, hs⟩
theorem HasMapN.alloc {P : Program} {k : TypeId} {w : World} {b n m : Nat} {f : Lit → Option Value} (h : HasMapN P k w b n f m) (o : Obj) : HasMapN P k (w.alloc o) b n f m := h.block (Below.heap_alloc w o b h.has.lt)
theorem HasMapN.drew {P : Program} {k : TypeId} {w : World} {b n m : Nat} {f : Lit → Option Value} (h : HasMapN P k w b n f m) : HasMapN P k w.drew b n f m := h

theorem flat_at : ∀ (ys : List Int) (i : Nat) (y : Int), ys[i]? = some y → ∀ r, r < 3 → (ys.flatMap sited)[i * 3 + r]? = (sited y)[r]?
  | [], i, y, h, _, _ => by simp at h
  | x :: t, 0, y, h, r, hr => by
    simp at h
    subst h
    rw [List.flatMap_cons, List.getElem?_append_left (by simp [sited]; omega)]
    simp
  | x :: t, i + 1, y, h, r, hr => by
    simp at h
    rw [List.flatMap_cons, List.getElem?_append_right (by simp [sited]; omega)]
    have : (i + 1) * 3 + r - (sited x).length = i * 3 + r := by simp [sited]; omega
    rw [this]
    exact flat_at t i y h r hr

set_option maxRecDepth 100000 in
set_option maxHeartbeats 8000000 in
theorem region9 (hb rs : Int) (A MW ML n : Nat) (f : Lit → Option Value) (K : Act → World → Prop) (R : Ending → World → Prop) (w : World) (rest : List Value) (v2 v3 v4 v5 v6 v7 v8 v9 v10 v11 v12 v13 v14 v15 v16 v17 v19 v20 v21 v22 v23 v24 v25 v26 v27 v28 v29 v30 v31 v32 v33 v34 v35 v36 v37 v38 v39 v40 v41 v42 v43 v44 v45 v46 v47 v48 v49 v50 v51 v52 v53 v54 v55 v56 v57 v58 v59 : Value)
    (hA : Box w A (ac MW ML) 65) (hML : HasMap Yba.prog 9 w ML n f) (hn : n ≤ 10)
    (hQ : ∀ (u52 u53 u54 u55 u56 u57 u58 u59 : Value) (w' : World), Box w' w.heap.size (lk hb rs) 71 → HasMap Yba.prog 9 w' ML (n + 1) (turnAt f (ks 0) (some (.pointer (some ⟨w.heap.size, 0, none⟩)))) → But (fun b => b = ML) w w' →
      K ⟨(.int .u64 hb :: .int .u64 rs :: v2 :: v3 :: v4 :: v5 :: v6 :: v7 :: v8 :: v9 :: v10 :: v11 :: v12 :: v13 :: v14 :: v15 :: v16 :: v17 :: .pointer (some ⟨A, 0, none⟩) :: v19 :: v20 :: v21 :: v22 :: v23 :: v24 :: v25 :: v26 :: v27 :: v28 :: v29 :: v30 :: v31 :: v32 :: v33 :: v34 :: v35 :: v36 :: v37 :: v38 :: v39 :: v40 :: v41 :: v42 :: v43 :: v44 :: v45 :: v46 :: v47 :: v48 :: v49 :: v50 :: v51 :: u52 :: u53 :: u54 :: u55 :: u56 :: u57 :: u58 :: u59 :: rest).toArray, []⟩ w') :
    Code.wp Yba.prog ((Yba.f5.body.bind (regionAt 9)).getD .skip) (Exit.then K (bodyPost Yba.prog Yba.f5 R)) ⟨(.int .u64 hb :: .int .u64 rs :: v2 :: v3 :: v4 :: v5 :: v6 :: v7 :: v8 :: v9 :: v10 :: v11 :: v12 :: v13 :: v14 :: v15 :: v16 :: v17 :: .pointer (some ⟨A, 0, none⟩) :: v19 :: v20 :: v21 :: v22 :: v23 :: v24 :: v25 :: v26 :: v27 :: v28 :: v29 :: v30 :: v31 :: v32 :: v33 :: v34 :: v35 :: v36 :: v37 :: v38 :: v39 :: v40 :: v41 :: v42 :: v43 :: v44 :: v45 :: v46 :: v47 :: v48 :: v49 :: v50 :: v51 :: v52 :: v53 :: v54 :: v55 :: v56 :: v57 :: v58 :: v59 :: rest).toArray, []⟩ w := by
  have a36 : w.cell? ⟨A, 36, none⟩ = some (.map (some ML)) := hA.cell 36 rfl
  obtain ⟨w', hr, hm, hg, hz⟩ := (hML.alloc (.cells (lk hb rs) 71)).store (t := 36) (e := 68) law9 Yba.underlying36 (by simp only [maxLen]; omega) (key_st 0) (val := .pointer (some ⟨w.heap.size, 0, none⟩)) _ (turnAt_same f (ks_key 0) _) (fun l h => turnAt_other f (ks 0) _ l h)
  unfold lk st at hr
  show Code.wp Yba.prog (Code.region _ _ _) _ _ _
  go_wp2_with fail
  refine hQ _ _ _ _ _ _ _ _ _ ?_ hm (((But.refl _ w).alloc _).grown hg rfl)
  exact (Box.new w (lk hb rs) 71).block (hg.block w.heap.size (by simp) (by simp; have := hML.lt; omega))

end Go.Proofs.Ybulkbarg

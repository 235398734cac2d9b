/- zzs2593bbuild: from the second link to the end. -/
import Derived.Test.YbulkbargParts
import Derived.Maps.AppendAt
import Derived.Deep.RegionLaw
namespace Go.Proofs.Ybulkbarg
open Go.ChangeShapes Go.WideShapes Go.ChangeAt Go.RowKit
set_option linter.unusedVariables false

theorem info76 : (Yba.prog.info? 76).map (fun i => (i.zero, i.size, i.bytes)) = some (some (.agg #[.string ⟨#[]⟩, .string ⟨#[]⟩, .int .u64 0]), 3, 40) := by kernel_rfl
theorem info_parts {t : TypeId} {z : Option Value} {s b : Nat} (h : (Yba.prog.info? t).map (fun i => (i.zero, i.size, i.bytes)) = some (z, s, b)) : ∃ i, Yba.prog.info? t = some i ∧ i.zero = z ∧ i.size = s ∧ i.bytes = b := by
  obtain ⟨i, hi, h⟩ := Option.map_eq_some_iff.1 h
  simp only [Prod.mk.injEq] at h
  exact ⟨i, hi, h.1, h.2.1, h.2.2⟩
theorem But.app {K : Nat → Prop} {w w' w2 : World} {row : Option Nat} (h : But K w w') (hg : w'.grownBy w2 row) (hrow : ∀ k, row = some k → w.heap.size ≤ k) : But K w w2 :=
  ⟨hg.os.trans h.os, hg.tape.trans h.tape, hg.output.trans h.output, Nat.le_trans h.size hg.size, fun k h1 h2 => (hg.block k (Nat.lt_of_lt_of_le h1 h.size) (fun e => by have := hrow k e.symm; omega)).trans (h.block k h1 h2)⟩
/-- append, its run known, as one step of a region that draws. -/
theorem step_append_run {P : Program} {ops : Array Oper} {o : Oper} {a : Act} {w : World} {K : Act → World → Prop} {Q : Exit → Act → World → Prop} {E : Prop}
    (hg : o.guard = none) (s x : Operand) (t : TypeId) (hop : o.op = Op.call { callee := Callee.builtin Builtin.append, args := #[s, x], argTypes := #[t, t] })
    (v u v' : Value) (w' : World) (hs : a.eval s = v) (hx : a.eval x = u) (hr : (Builtin.append_ #[t, t] o.type #[v, u]).run P w = .ok v' w')
    (hK : K (a.put o.dst v') w') :
    if Region.wanted o (yielded ops a.tmps) = true then Oper.wp P o a w K Q else E := by
  have hw : Region.wanted o (yielded ops a.tmps) = true := by simp [Region.wanted, hg]
  rw [if_pos hw]
  unfold Oper.wp
  simp [execOp, hop, resolve, invoke, builtin, hs, hx, hr, Result.andThen]
  exact hK
theorem row_shape {w : World} {base : Nat} {v : Value} {n : Nat} {xs : List Value} (h : w.ownsRow base 76 3 v n xs) : ∃ p cap, v = .slice p n cap ∧ n ≤ cap := by
  rcases h.2 with ⟨rfl, h0⟩ | ⟨g, cap, cur, rfl, hb, hg, hn, hm, hs, ht⟩
  · exact ⟨none, 0, by rw [h0], by omega⟩
  · exact ⟨_, cap, rfl, hn⟩
theorem row_set {w : World} {base : Nat} {v : Value} {n : Nat} {xs : List Value} (h : w.ownsRow base 76 3 v n xs) {a : Addr} (ha : a.block < base) (u : Value) : (w.setCell a u).ownsRow base 76 3 v n xs := by
  rcases h.2 with ⟨rfl, h0⟩ | ⟨g, cap, cur, rfl, hb, hg, hn, hm, hs, ht⟩
  · exact ⟨h.1, .inl ⟨rfl, h0⟩⟩
  · exact ⟨h.1, .inr ⟨g, cap, cur, rfl, hb, (Below.heap_setCell w a u g (by omega)).trans hg, hn, hm, hs, ht⟩⟩
theorem row_waits {w : World} {base : Nat} {p : Option Addr} {n cap : Nat} {ys : List Int} (h : w.ownsRow base 76 3 (.slice p n cap) n (ys.flatMap sited)) (hl : ys.length = n) : WaitsIn w.heap.size w p ys := fun h0 => by
  have hn : 0 < n := by cases ys with
    | nil => exact absurd rfl h0
    | cons y t => simp at hl; omega
  rcases h.2 with ⟨e, h1⟩ | ⟨g, cap', cur, e, hb, hg, hn', hm, hs, ht⟩
  · omega
  · simp only [Value.slice.injEq] at e
    obtain ⟨rfl, _, rfl⟩ := e
    refine ⟨g, rfl, (Array.getElem?_eq_some_iff.1 hg).1, fun i y hy => ?_⟩
    have hc := World.ownsRow.cells h (g := g) rfl
    have h1 := hc (i * 3 + 0) _ ((flat_at ys i y hy 0 (by omega)).trans rfl)
    have h2 := hc (i * 3 + 1) _ ((flat_at ys i y hy 1 (by omega)).trans rfl)
    have h3 := hc (i * 3 + 2) _ ((flat_at ys i y hy 2 (by omega)).trans rfl)
    rw [Go.WideShapes.add_plain] at h1 h2 h3
    simp only [Nat.zero_add, Nat.add_zero] at h1 h2 h3
    exact ⟨h1, h2, h3⟩

set_option maxRecDepth 100000 in
set_option maxHeartbeats 8000000 in
theorem rest10 (hb rs ns : Int) (A MW ML La NB SB : Nat) (pa : Option Addr) (np ca kk : Nat) (ys : List Int) (f : Lit → Option Value) (w : World) (B : Nat) (Rq : Ending → World → Prop)
    (g0 : 0 ≤ ns) (g1 : ns ≤ 255) (hkk : ns % 3 = (kk : Int)) (hB : B ≤ w.heap.size) (hy : BytesIn B w pa ys) (hyl : ys.length = np) (hyb : ∀ y ∈ ys, 0 ≤ y ∧ y ≤ 255) (hn1 : np ≤ 1024)
    (hA : Box w A (ac MW ML) 65) (hNB : Box w NB nms 33) (hSB : Box w SB sts 34) (hML : HasMap Yba.prog 9 w ML 1 f) (hf : f (ks 0) = some (.pointer (some ⟨La, 0, none⟩))) (hML0 : B ≤ ML)
    (hpost : ∀ (R MA : Nat) (p : Option Addr) (cap : Nat) (fl fa : Lit → Option Value) (w' : World), Box w' R (rd (.slice p np cap) MA) 74 → HasMap Yba.prog 9 w' ML 2 fl → fl (ks 0) = some (.pointer (some ⟨La, 0, none⟩)) → HasMapN Yba.prog 9 w' MA kk fa kk → (kk = 1 → fa (ks 0) = some (.bool true) ∧ ∀ l v, fa l = some v → l = ks 0) →
      WaitsIn w'.heap.size w' p ys → np ≤ cap → But (fun b => b = ML) w w' → Rq (.returned (.tuple #[.pointer (some ⟨A, 0, none⟩), .pointer (some ⟨R, 0, none⟩)])) w')
    (v2 v3 v4 v7 v8 v9 v10 v11 v12 v13 v14 v15 v19 v20 v21 v22 v23 v24 v25 v26 v27 v28 v29 v30 v31 v32 v33 v34 v35 v36 v37 v38 v39 v40 v41 v42 v43 v44 v45 v46 v47 v48 v49 v50 v51 v52 v53 v54 v55 v56 v57 v58 v59 v60 v61 v62 v63 v64 v65 v66 v67 v68 v69 v70 v71 v72 v73 v74 v75 v76 v77 v78 v79 v80 v81 v82 v83 v84 v85 v86 v87 v88 v89 v90 v91 v92 v93 v94 v95 v96 v97 v98 v99 v100 v101 v102 v103 v104 v105 v106 v107 v108 v109 v110 v111 : Value) :
    Code.wp Yba.prog ((Yba.f5.body.bind (suffixAt 10)).getD .skip) (bodyPost Yba.prog Yba.f5 Rq) ⟨#[.int .u64 hb, .int .u64 rs, v2, v3, v4, .slice pa np ca, .int .u8 ns, v7, v8, v9, v10, v11, v12, v13, v14, v15, .pointer (some ⟨NB, 0, none⟩), .pointer (some ⟨SB, 0, none⟩), .pointer (some ⟨A, 0, none⟩), v19, v20, v21, v22, v23, v24, v25, v26, v27, v28, v29, v30, v31, v32, v33, v34, v35, v36, v37, v38, v39, v40, v41, v42, v43, v44, v45, v46, v47, v48, v49, v50, v51, v52, v53, v54, v55, v56, v57, v58, v59, v60, v61, v62, v63, v64, v65, v66, v67, v68, v69, v70, v71, v72, v73, v74, v75, v76, v77, v78, v79, v80, v81, v82, v83, v84, v85, v86, v87, v88, v89, v90, v91, v92, v93, v94, v95, v96, v97, v98, v99, v100, v101, v102, v103, v104, v105, v106, v107, v108, v109, v110, v111], []⟩ w := by
  have hmm := @run_makeMap Yba.prog
  have e3 : ns.tmod 3 = (kk : Int) := by rw [Int.tmod_eq_emod_of_nonneg g0, hkk]
  have hkk2 : kk ≤ 2 := by omega
  have a36 : w.cell? ⟨A, 36, none⟩ = some (.map (some ML)) := hA.cell 36 rfl
  obtain ⟨X, hr, hm, hg, hz⟩ := (hML.alloc (.cells (lk hb rs) 71)).store (t := 36) (e := 68) law9 Yba.underlying36 (by simp only [maxLen]; omega) (key_st 1) (val := .pointer (some ⟨w.heap.size, 0, none⟩)) _ (turnAt_same f (ks_key 1) _) (fun l h => turnAt_other f (ks 1) _ l h)
  have HZ : Hid (X.heap.size = w.heap.size + 1) := by unfold Hid; simpa using hz
  have hXb : But (fun b => b = ML) w X := ((But.refl _ w).alloc _).grown hg rfl
  have hfl : turnAt f (ks 1) (some (.pointer (some ⟨w.heap.size, 0, none⟩))) (ks 0) = some (.pointer (some ⟨La, 0, none⟩)) := by rw [turnAt_other _ _ _ _ ks_inj]; exact hf
  unfold lk st at hr
  clear hz hg
  generalize turnAt f (ks 1) (some (.pointer (some ⟨w.heap.size, 0, none⟩))) = fl at hm hfl
  obtain ⟨Y, eY⟩ : ∃ Y, Y = (X.alloc (.map #[] 0)).alloc (.cells (rd (.slice none 0 0) X.heap.size) 74) := ⟨_, rfl⟩
  have hR : Box Y (X.heap.size + 1) (rd (.slice none 0 0) X.heap.size) 74 := by
    have h := Box.new (X.alloc (.map #[] 0)) (rd (.slice none 0 0) X.heap.size) 74
    rw [← eY] at h
    simpa using h
  have hMA : HasMapN Yba.prog 9 Y X.heap.size 0 (fun _ => none) 0 := by rw [eY]; exact (HasMapN.made _ _ X).alloc _
  have hYb : But (fun b => b = ML) w Y := by rw [eY]; exact (hXb.alloc _).alloc _
  have hML2 : HasMap Yba.prog 9 Y ML 2 fl := by rw [eY]; exact (hm.alloc _).alloc _
  have hNY := hNB.but hYb (hNB.ne_map hML)
  have hSY := hSB.but hYb (hSB.ne_map hML)
  have hMLl := hML.lt
  have lSB := hSB.lt
  have lNB := hNB.lt
  have hlt : w.heap.size < X.heap.size := by have := HZ.out; omega
  have eY' := eY
  unfold rd at eY'
  clear hXb hm hNB hSB hML hf HZ
  show Code.wp Yba.prog (Code.seq _ _) _ _ _
  go_wp2_with fail
  rw [← eY']
  clear eY eY' a36 hr e3 hA
  generalize X.heap.size = MA at hR hMA hlt ⊢
  have lR := hR.lt
  go_loopg [22] kk (fun gk iv wr => ∃ (i : Nat) (fa : Lit → Option Value), gk + i = kk ∧ iv = .int .i64 (i : Int) ∧ HasMapN Yba.prog 9 wr MA i fa i ∧ (∀ l v, fa l = some v → (l = ks 0 ∧ 0 < i) ∨ (l = ks 1 ∧ 1 < i)) ∧ (0 < i → fa (ks 0) = some (.bool true)) ∧ But (fun b => b = MA) Y wr)
  case atStart => exact ⟨0, _, rfl, rfl, hMA, (fun l v h => by cases h), (fun h => by omega), But.refl _ _⟩
  case round =>
    clear hMA
    obtain ⟨i, fa, hi, rfl, hMA, hfa, hf0, hbY⟩ := hrel
    have HFA : Hid _ := hfa
    have HF0 : Hid _ := hf0
    clear hfa hf0
    have hRr := hR.but hbY (by omega)
    have hSr := hSY.but hbY (by omega)
    by_cases hik : i < kk
    · have hiki : (i : Int) < (kk : Int) := by omega
      have hi2 : i < 2 := by omega
      have hii : (i : Int) < 2 := by omega
      have r4 : wr.cell? ⟨MA + 1, 4, none⟩ = some (.map (some MA)) := hRr.cell 4 rfl
      have si : wr.cell? ⟨SB, i, none⟩ = some (.string (st i)) := hSr.cell i (sts_at i hi2)
      have hnone : fa (ks i) = none := by
        cases h : fa (ks i) with
        | none => rfl
        | some v =>
          rcases HFA.out _ _ h with ⟨h1, h2⟩ | ⟨h1, h2⟩
          · obtain rfl : i = 1 := by omega
            exact absurd h1.symm ks_inj
          · omega
      obtain ⟨Z, hr, hm', hg, hz⟩ := (hMA.drew).add (t := 59) (e := 4) law9 Yba.underlying59 (by simp only [maxLen]; omega) (key_st i) (val := .bool true) hnone _ (turnAt_same fa (ks_key i) _) (fun l h => turnAt_other fa (ks i) _ l h)
      have HA : Hid (∀ l v, turnAt fa (ks i) (some (.bool true)) l = some v → (l = ks 0 ∧ 0 < i + 1) ∨ (l = ks 1 ∧ 1 < i + 1)) := fun l v h => by
        by_cases e : l = ks i
        · have : i = 0 ∨ i = 1 := by omega
          rcases this with rfl | rfl
          · exact .inl ⟨e, by omega⟩
          · exact .inr ⟨e, by omega⟩
        · rw [turnAt_other _ _ _ _ e] at h
          rcases HFA.out _ _ h with ⟨h1, h2⟩ | ⟨h1, h2⟩
          · exact .inl ⟨h1, by omega⟩
          · exact .inr ⟨h1, by omega⟩
      have HB : Hid (0 < i + 1 → turnAt fa (ks i) (some (.bool true)) (ks 0) = some (.bool true)) := fun _ => by
        have : i = 0 ∨ i = 1 := by omega
        rcases this with rfl | rfl
        · exact turnAt_same _ (ks_key 0) _
        · rw [turnAt_other _ _ _ _ ks_inj]
          exact HF0.out (by omega)
      have hbZ : But (fun b => b = MA) Y Z := (hbY.drew).grown hg rfl
      clear hnone hMA hbY hg hz
      go_upto_region 16 with fail
      go_region
      all_goals
        go_wp2_with fail
        go_roundg (gk - 1)
        case measure => omega
        case rel => exact ⟨i + 1, _, by omega, by go_num, hm', HA.out, HB.out, hbZ⟩
    · obtain rfl : i = kk := by omega
      have hiki : ¬ (i : Int) < (i : Int) := by omega
      have HK : Hid (i = 1 → fa (ks 0) = some (.bool true) ∧ ∀ l v, fa l = some v → l = ks 0) := fun h => ⟨HF0.out (by omega), fun l v hv => by
        rcases HFA.out _ _ hv with ⟨h1, _⟩ | ⟨_, h2⟩
        · exact h1
        · omega⟩
      have hNr := hNY.but hbY (by omega)
      have hMLr : HasMap Yba.prog 9 wr ML 2 fl := hML2.but hbY (by omega)
      have hbw : Below B w wr := (hYb.below hB (by rintro k rfl; exact hML0)).trans (hbY.below (Nat.le_trans hB hYb.size) (by rintro k rfl; omega))
      have hyr := hy.later hbw
      have lR2 := hRr.lt
      have lMA := hMA.has.lt
      have hbut : But (fun b => b = ML ∨ b = MA) Y wr := hbY.mono (fun b h => .inr h)
      have hwY : ∀ b, b < w.heap.size → b ≠ ML → wr.heap[b]? = w.heap[b]? := fun b h1 h2 => (hbY.block b (Nat.lt_of_lt_of_le h1 hYb.size) (by omega)).trans (hYb.block b h1 h2)
      have hwO : wr.os = w.os ∧ wr.tape = w.tape ∧ wr.output = w.output ∧ w.heap.size ≤ wr.heap.size := ⟨hbY.os.trans hYb.os, hbY.tape.trans hYb.tape, hbY.output.trans hYb.output, Nat.le_trans hYb.size hbY.size⟩
      clear HF0 HFA hbut
      obtain ⟨V, hV⟩ : ∃ V, V = wr := ⟨_, rfl⟩
      rw [← hV] at hNr hMLr hyr lR2 lMA hMA hRr hwY hwO
      rw [← hV]
      clear hV hbw hbY hSr
      obtain ⟨i76, hi, hz, hs, hby⟩ := info_parts info76
      go_wp2_with fail
      go_loopg [88] np (fun gk iv wr => ∃ (k : Nat) (p : Option Addr) (cap : Nat), gk + k = np ∧ iv = .int .i64 (k : Int) ∧ k ≤ cap ∧ Box wr (MA + 1) (rd (.slice p k cap) MA) 74 ∧ wr.ownsRow V.heap.size 76 3 (.slice p k cap) k ((ys.take k).flatMap sited) ∧ But (fun b => b = MA + 1) V wr)
      case atStart => exact ⟨0, none, 0, rfl, rfl, Nat.le_refl _, hRr, World.ownsRow_nil _ _ _ _, But.refl _ _⟩
      case round =>
        obtain ⟨k, p, cap, hk, rfl, hkc, hRk, hown, hbV⟩ := hrel
        clear hRr
        have hzV := hbV.size
        by_cases hkn : k < np
        · have hki : (k : Int) < (np : Int) := by omega
          obtain ⟨y, hyk⟩ : ∃ y, ys[k]? = some y := ⟨_, List.getElem?_eq_getElem (by omega)⟩
          obtain ⟨y0, y1⟩ := hyb y (List.mem_of_getElem? hyk)
          have hBV : B ≤ V.heap.size := Nat.le_trans hB hwO.2.2.2
          obtain ⟨b, o, hp, hbl, hc⟩ := (hyr.later (hbV.below hBV (by rintro b rfl; omega))) (by intro h; rw [h] at hyl; simp at hyl; omega)
          subst hp
          have cy := hc k y hyk
          have hj := pick_lt y0
          have ej : y.tmod 4 = (pick y : Int) := by rw [Int.tmod_eq_emod_of_nonneg y0, pick_mod y0]
          have hji : (pick y : Int) < 4 := by omega
          have hNk := hNr.but hbV (by omega)
          have n1 : wr.cell? ⟨NB, pick y, none⟩ = some (.string (nm (pick y))) := hNk.cell _ (nms_at _ hj)
          have n2 : ∀ o, (wr.alloc o).cell? ⟨NB, pick y, none⟩ = some (.string (nm (pick y))) := fun o => (hNk.alloc o).cell _ (nms_at _ hj)
          have r3 : wr.cell? ⟨MA + 1, 3, none⟩ = some (.slice p k cap) := hRk.cell 3 rfl
          have r3' : ∀ o, (wr.alloc o).cell? ⟨MA + 1, 3, none⟩ = some (.slice p k cap) := fun o => (hRk.alloc o).cell 3 rfl
          have hwy : IntKind.u64.wrap y = y := by rw [IntKind.wrap_u64]; omega
          have hwi : IntKind.i64.wrap y = y := by rw [IntKind.wrap_i64]; omega
          obtain ⟨v', w1, hr, hown1, hgr, _, hlies⟩ := run_append_own_at (P := Yba.prog) (w := (wr.alloc (.cells #[.string ⟨#[97]⟩, .string (nm (pick y)), .int .u64 y] 76)).drew) V.heap.size 63 63 76 i76 _ 3 40 Yba.underlying63 hi hz hs hby rfl (by omega) (.slice p k cap) k _ ((hown.alloc _).drew) ⟨wr.heap.size, 0, none⟩ 1 1 (sited y) rfl
            (fun j u hu => by
              have hbx := Box.new wr #[.string ⟨#[97]⟩, .string (nm (pick y)), .int .u64 y] 76
              rw [Go.WideShapes.add_plain, Nat.zero_add]
              exact hbx.drew.cell j (by simpa [sited] using hu))
            (fun u hu => by simp [sited] at hu; rcases hu with rfl | rfl | rfl <;> rfl) (by simp only [maxLen]; omega) (by omega) (by simp; omega)
          obtain ⟨p', cap', rfl, hkc'⟩ := row_shape hown1
          have hown2 : ∀ q, (Value.slice p k cap).ownBlock = some q → V.heap.size ≤ q := fun q hq => (hown.lt q hq).1
          have hR1 : Box w1 (MA + 1) (rd (.slice p k cap) MA) 74 := ((hRk.alloc _).drew).block (hgr.block (MA + 1) (by simp; omega) (fun e => by have := hown2 _ e.symm; omega))
          have hb1 : But (fun b => b = MA + 1) V w1 := ((hbV.alloc _).drew).app hgr hown2
          have r31 : w1.cell? ⟨MA + 1, 3, none⟩ = some (.slice p k cap) := hR1.cell 3 rfl
          have f31 := hR1.free 3
          have hfm : (ys.take (k + 1)).flatMap sited = (ys.take k).flatMap sited ++ sited y := by
            rw [List.take_add_one, hyk, List.flatMap_append]
            simp
          have hown3 : (w1.setCell ⟨MA + 1, 3, none⟩ (.slice p' (k + 1) cap')).ownsRow V.heap.size 76 3 (.slice p' (k + 1) cap') (k + 1) ((ys.take (k + 1)).flatMap sited) := by
            rw [hfm]
            exact row_set hown1 lR2 _
          have hR2 : Box (w1.setCell ⟨MA + 1, 3, none⟩ (.slice p' (k + 1) cap')) (MA + 1) (rd (.slice p' (k + 1) cap') MA) 74 := hR1.set 3 _
          have hb2 : But (fun b => b = MA + 1) V (w1.setCell ⟨MA + 1, 3, none⟩ (.slice p' (k + 1) cap')) := hb1.setCell rfl _
          have HO : Hid _ := hown3
          have HR : Hid _ := hr
          clear hr hc hown1 hown hgr hlies hown2 hR1 hb1 hfm hown3 hRk hbV hNk hNr hMLr hyr hMA hwY hwO
          go_upto_region 20 with fail
          go_region_law (refine step_append_run rfl (.tmp 96) (.tmp 105) 63 rfl _ _ _ _ (by simp [Act.eval]) (by simp [Act.eval]) HR.out ?_)
          all_goals
            go_wp2_with fail
            go_roundg (gk - 1)
            case measure => omega
            case rel => exact ⟨k + 1, p', cap', by omega, by go_num, hkc', hR2, HO.out, hb2⟩
        · obtain rfl : k = np := by omega
          have hki : ¬ (k : Int) < (k : Int) := by omega
          rw [List.take_of_length_le (by omega)] at hown
          have hMA' := hMA.block (hbV.block MA lMA (by omega))
          have hML' := hMLr.but hbV (by omega)
          have hfin : But (fun b => b = ML) w wr := ⟨hbV.os.trans hwO.1, hbV.tape.trans hwO.2.1, hbV.output.trans hwO.2.2.1, Nat.le_trans hwO.2.2.2 hbV.size, fun b h1 h2 => (hbV.block b (Nat.lt_of_lt_of_le h1 hwO.2.2.2) (by omega)).trans (hwY b h1 h2)⟩
          go_wp2_with fail
          exact hpost _ _ _ _ _ _ _ hRk hML' hfl hMA' HK.out (row_waits hown hyl) hkc hfin


end Go.Proofs.Ybulkbarg

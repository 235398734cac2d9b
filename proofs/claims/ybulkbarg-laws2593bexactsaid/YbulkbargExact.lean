/- LawS2593BExact: the row. -/
import Derived.Test.YbulkbargWalk
import Derived.ProofKit
import Derived.OpenShut
namespace Go.Proofs.Ybulkbarg.lawS2593BExact
open Go.ChangeShapes Go.WideShapes Go.ChangeAt Go.RowKit
set_option linter.unusedVariables false

section
variable {H : Type} {enc : TypeId × Value → H}
theorem cells4 : Yba.prog.cellsOf 4 = 1 := by kernel_rfl
theorem cells5 : Yba.prog.cellsOf 5 = 1 := by kernel_rfl
theorem cells22 : Yba.prog.cellsOf 22 = 1 := by kernel_rfl
theorem cells23 : Yba.prog.cellsOf 23 = 4 := by kernel_rfl
theorem cells24 : Yba.prog.cellsOf 24 = 4 := by kernel_rfl
theorem addAt (b o i : Nat) : (⟨b, o, none⟩ : Addr).add i = ⟨b, o + i, none⟩ := by simp [Addr.add]

theorem okWide_array {P : Program} {w : World} {r : Reach} {base : Nat} {v : Value} {t e : TypeId} {n : Nat} (ht : P.underlying t = some (.array n e)) (h : Value.okWide P w r base t v) : ∃ cs, v = .agg cs ∧ cs.size = P.cellsOf t := by
  simp only [Value.okWide, ht] at h
  obtain ⟨cs, h1, h2, _⟩ := h
  exact ⟨cs, h1, h2⟩

theorem some_at {α : Type} {xs : List α} {n : Nat} (hl : xs.length = n) {i : Nat} (hi : i < n) : ∃ y, xs[i]? = some y := ⟨_, List.getElem?_eq_getElem (by omega)⟩

set_option maxRecDepth 100000 in
theorem open_four_bools {W : World} {fuel : Nat} {cs : List Value} {x : DataW H × List MemPlace} (h : DataW.trod enc Yba.prog W 0 (fun _ => true) true fuel 23 cs = some x) :
    ∃ p0 p1 p2 p3, cs = [.bool p0, .bool p1, .bool p2, .bool p3] := by
  obtain ⟨xs, m, _, _, hl, hlen, hf⟩ := DataW.trod_array Yba.underlying23 h
  rw [cells23] at hl
  match cs, hl with
  | [c0, c1, c2, c3], _ =>
    obtain ⟨y0, e0⟩ := some_at hlen (show 0 < 4 by omega)
    obtain ⟨y1, e1⟩ := some_at hlen (show 1 < 4 by omega)
    obtain ⟨y2, e2⟩ := some_at hlen (show 2 < 4 by omega)
    obtain ⟨y3, e3⟩ := some_at hlen (show 3 < 4 by omega)
    have h0 := (hf 0 (by omega)).trans e0
    have h1 := (hf 1 (by omega)).trans e1
    have h2 := (hf 2 (by omega)).trans e2
    have h3 := (hf 3 (by omega)).trans e3
    simp [cells4] at h0 h1 h2 h3
    obtain ⟨b0, f0, _⟩ := DataW.trod_bool Yba.underlying4 h0
    obtain ⟨b1, f1, _⟩ := DataW.trod_bool Yba.underlying4 h1
    obtain ⟨b2, f2, _⟩ := DataW.trod_bool Yba.underlying4 h2
    obtain ⟨b3, f3, _⟩ := DataW.trod_bool Yba.underlying4 h3
    simp at f0 f1 f2 f3
    exact ⟨b0, b1, b2, b3, by rw [f0, f1, f2, f3]⟩

set_option maxRecDepth 100000 in
theorem open_four_ints {W : World} {fuel : Nat} {cs : List Value} {x : DataW H × List MemPlace} (h : DataW.trod enc Yba.prog W 0 (fun _ => true) true fuel 24 cs = some x) :
    ∃ p0 p1 p2 p3, cs = [.int .u64 p0, .int .u64 p1, .int .u64 p2, .int .u64 p3] := by
  obtain ⟨xs, m, _, _, hl, hlen, hf⟩ := DataW.trod_array Yba.underlying24 h
  rw [cells24] at hl
  match cs, hl with
  | [c0, c1, c2, c3], _ =>
    obtain ⟨y0, e0⟩ := some_at hlen (show 0 < 4 by omega)
    obtain ⟨y1, e1⟩ := some_at hlen (show 1 < 4 by omega)
    obtain ⟨y2, e2⟩ := some_at hlen (show 2 < 4 by omega)
    obtain ⟨y3, e3⟩ := some_at hlen (show 3 < 4 by omega)
    have h0 := (hf 0 (by omega)).trans e0
    have h1 := (hf 1 (by omega)).trans e1
    have h2 := (hf 2 (by omega)).trans e2
    have h3 := (hf 3 (by omega)).trans e3
    simp [cells22] at h0 h1 h2 h3
    obtain ⟨b0, f0, _⟩ := DataW.trod_int Yba.underlying22 h0
    obtain ⟨b1, f1, _⟩ := DataW.trod_int Yba.underlying22 h1
    obtain ⟨b2, f2, _⟩ := DataW.trod_int Yba.underlying22 h2
    obtain ⟨b3, f3, _⟩ := DataW.trod_int Yba.underlying22 h3
    simp at f0 f1 f2 f3
    exact ⟨b0, b1, b2, b3, by rw [f0, f1, f2, f3]⟩

theorem open_row_bytes {W : World} {fuel : Nat} {cs : List Value} {x : DataW H × List MemPlace} (h : DataW.trod enc Yba.prog W 0 (fun _ => true) true fuel 25 cs = some x) :
    ∃ q m c xs, cs = [.slice q m c] ∧ xs.length = m ∧ BytesIn W.heap.size W q xs ∧ ∀ y ∈ xs, (Lit.int .u8 y).wf = true := by
  rcases open_ints Yba.underlying25 Yba.underlying5 cells5 h with ⟨rfl, rfl⟩ | ⟨a, l, c, zs, rfl, _, hl, hm, hz, rfl, hcell, hwz⟩
  · exact ⟨none, 0, 0, [], rfl, rfl, fun h => absurd rfl h, fun y hy => by cases hy⟩
  · have hz' : zs.length = c := by simpa using hz
    have hlen : (zs.take l).length = l := by simp; omega
    refine ⟨some a, l, c, zs.take l, rfl, hlen, fun h0 => ?_, fun y hy => hwz y (List.mem_of_mem_take hy)⟩
    have hl0 : 0 < l := by
      cases l with
      | zero => simp at h0
      | succ l => omega
    obtain ⟨b, o, s⟩ := a
    have hc0 := hcell 0 (by omega)
    obtain rfl : s = none := by simpa [Addr.add] using World.cell?_spot hc0
    refine ⟨b, o, rfl, World.block_lt_of_cell? W ⟨b, o + 0, none⟩ (by rw [← addAt]; exact hc0), fun i y hy => ?_⟩
    have hi : i < l := by have := (List.getElem?_eq_some_iff.1 hy).1; omega
    have hci := hcell i (by omega)
    rw [addAt] at hci
    rw [hci]
    rw [List.getElem?_take_of_lt hi] at hy
    simp [List.getD, hy]
end

/-! ### THE ROW's STEP -/
set_option maxRecDepth 100000 in
theorem lifted (os : Os) (started : os.Started) (H : Type) (enc : TypeId × Value → H) :
    ReturnsInHanded {} Yba.checked os 3 .any (Rows.lawS2593BExactSpec.pre6 enc Yba.prog Yba.f3 Rows.lawS2593BExactRow.domain false) (Rows.lawS2593BExactSpec.post enc Yba.prog Yba.f3 false true false false) := by
  refine returnsInHanded_of_change_sized (C := Yba.checked) own started (by kernel_rfl) Yba.func3
    (ChangeSpec.witness6 (enc := enc) (C := Yba.checked) false ⟨#[], #[.int .u64 0, .int .u64 0, .agg #[.bool false, .bool false, .bool false, .bool false], .agg #[.int .u64 0, .int .u64 0, .int .u64 0, .int .u64 0], .agg #[.int .u64 0, .int .u64 0, .int .u64 0, .int .u64 0], .slice none 0 0, .int .u8 0], []⟩ 8 (by kernel_rfl) (by kernel_rfl) (by kernel_rfl) (by kernel_rfl)) ?_
  intro W base args ds gs before hval0 hW hcnd hsz _
  have hval : ∀ (j : Nat) t v, Yba.f3.params[j]? = some t → args[j]? = some v → Value.okWide Yba.prog W .any base t v := hval0
  have hW' := hW
  obtain ⟨p, q, hA0, hV, rfl, hfz, hnd⟩ := hW
  have hA : DataW.TrodAll enc Yba.prog W 0 (fun _ => true) true Yba.f3.params.toList args.toList ds p := hA0
  rw [Yba.params3] at hA hval
  obtain ⟨v0, vs0, d0, ds0, p0, q0, hargs, rfl, rfl, h0, r0⟩ := trodAll_cons hA
  obtain ⟨v1, vs1, d1, ds1, p1, q1, rfl, rfl, rfl, h1, r1⟩ := trodAll_cons r0
  obtain ⟨v2, vs2, d2, ds2, p2, q2, rfl, rfl, rfl, h2, r2⟩ := trodAll_cons r1
  obtain ⟨v3, vs3, d3, ds3, p3, q3, rfl, rfl, rfl, h3, r3⟩ := trodAll_cons r2
  obtain ⟨v4, vs4, d4, ds4, p4, q4, rfl, rfl, rfl, h4, r4⟩ := trodAll_cons r3
  obtain ⟨v5, vs5, d5, ds5, p5, q5, rfl, rfl, rfl, h5, r5⟩ := trodAll_cons r4
  obtain ⟨v6, vs6, d6, ds6, p6, q6, rfl, rfl, rfl, h6, r6⟩ := trodAll_cons r5
  obtain ⟨rfl, rfl, rfl⟩ := trodAll_nil r6
  obtain rfl : args = #[v0, v1, v2, v3, v4, v5, v6] := by cases args; simp_all
  obtain ⟨rfl, rfl⟩ := trodVars_none hV
  obtain ⟨x2, rfl, _⟩ := okWide_array Yba.underlying23 (hval 2 23 v2 rfl rfl)
  obtain ⟨x3, rfl, _⟩ := okWide_array Yba.underlying24 (hval 3 24 v3 rfl rfl)
  obtain ⟨x4, rfl, _⟩ := okWide_array Yba.underlying24 (hval 4 24 v4 rfl rfl)
  obtain ⟨pa, np, ca, rfl⟩ := okWide_slice Yba.underlying25 (hval 5 25 v5 rfl rfl)
  have k2 := h2
  have k3 := h3
  have k4 := h4
  have k5 := h5
  have lt2 : ∀ x ∈ p2, x.block < W.heap.size := by obtain ⟨m, hm⟩ := k2; exact DataW.trod_lt m _ _ _ hm
  have lt3 : ∀ x ∈ p3, x.block < W.heap.size := by obtain ⟨m, hm⟩ := k3; exact DataW.trod_lt m _ _ _ hm
  have lt4 : ∀ x ∈ p4, x.block < W.heap.size := by obtain ⟨m, hm⟩ := k4; exact DataW.trod_lt m _ _ _ hm
  have lt5 : ∀ x ∈ p5, x.block < W.heap.size := by obtain ⟨m, hm⟩ := k5; exact DataW.trod_lt m _ _ _ hm
  obtain ⟨b0, b1, b2, b3, rfl⟩ : ∃ b0 b1 b2 b3, x2 = #[.bool b0, .bool b1, .bool b2, .bool b3] := by
    obtain ⟨fuel, hf⟩ := h2
    obtain ⟨b0, b1, b2, b3, hcs⟩ := open_four_bools hf
    exact ⟨b0, b1, b2, b3, Array.toList_inj.1 (by simpa [Value.cells] using hcs)⟩
  obtain ⟨a0, a1, a2, a3, rfl⟩ : ∃ a0 a1 a2 a3, x3 = #[.int .u64 a0, .int .u64 a1, .int .u64 a2, .int .u64 a3] := by
    obtain ⟨fuel, hf⟩ := h3
    obtain ⟨b0, b1, b2, b3, hcs⟩ := open_four_ints hf
    exact ⟨b0, b1, b2, b3, Array.toList_inj.1 (by simpa [Value.cells] using hcs)⟩
  obtain ⟨c0, c1, c2, c3, rfl⟩ : ∃ c0 c1 c2 c3, x4 = #[.int .u64 c0, .int .u64 c1, .int .u64 c2, .int .u64 c3] := by
    obtain ⟨fuel, hf⟩ := h4
    obtain ⟨b0, b1, b2, b3, hcs⟩ := open_four_ints hf
    exact ⟨b0, b1, b2, b3, Array.toList_inj.1 (by simpa [Value.cells] using hcs)⟩
  obtain ⟨ys, hyl, hy, hyw⟩ : ∃ ys : List Int, ys.length = np ∧ BytesIn W.heap.size W pa ys ∧ ∀ y ∈ ys, (Lit.int .u8 y).wf = true := by
    obtain ⟨fuel, hf⟩ := h5
    obtain ⟨q', m', c', L, hcs, hno, hL⟩ := open_row_bytes hf
    simp [Value.cells] at hcs
    obtain ⟨rfl, rfl, rfl⟩ := hcs
    exact ⟨L, hno, hL⟩
  obtain ⟨hb, rfl, rfl, rfl, w0⟩ := open_int Yba.underlying22 (hval 0 22 v0 rfl rfl) h0
  obtain ⟨rs, rfl, rfl, rfl, w1⟩ := open_int Yba.underlying22 (hval 1 22 v1 rfl rfl) h1
  obtain ⟨ns, rfl, rfl, rfl, w6⟩ := open_int Yba.underlying5 (hval 6 5 v6 rfl rfl) h6
  clear hA0 hval0 hsz
  refine (walk hb rs ns b0 b1 b2 b3 a0 a1 a2 a3 c0 c1 c2 c3 pa np ca ys W (bounds_u8 w6).1 (bounds_u8 w6).2 hy hyl (fun y h => bounds_u8 (hyw y h))).mono fun e W' ⟨he, bel⟩ => ?_
  subst he
  exact ⟨_, rfl, _, _, _, [], _, [], hW', trodAll_mk1 (shut_bool Yba.underlying4 _), (trodAll_cons_mk (shut_int Yba.underlying22 w0) (trodAll_cons_mk (shut_int Yba.underlying22 w1) (trodAll_cons_mk (Below.trod laidOut (by kernel_rfl) (of_decide_eq_true (by kernel_rfl)) k2 bel lt2) (trodAll_cons_mk (Below.trod laidOut (by kernel_rfl) (of_decide_eq_true (by kernel_rfl)) k3 bel lt3) (trodAll_cons_mk (Below.trod laidOut (by kernel_rfl) (of_decide_eq_true (by kernel_rfl)) k4 bel lt4) (trodAll_cons_mk (Below.trod laidOut (by kernel_rfl) (of_decide_eq_true (by kernel_rfl)) k5 bel lt5) (trodAll_cons_mk (shut_int Yba.underlying5 w6) trodAll_mk0))))))), rfl, bel.frame _, fun h => by cases h⟩

theorem over : Rows.lawS2593BExactRow.holds Yba.pinned (OpenSpec.ofChange Rows.lawS2593BExactSpec) :=
  OpenClaim.holds_of_wide 3 Yba.f3 rfl rfl rfl rfl rfl rfl rfl ⟨rfl, rfl, rfl, rfl, rfl⟩ rfl rfl rfl rfl rfl (by kernel_rfl) Yba.func3 (by kernel_rfl)
    (of_decide_eq_true (by kernel_rfl)) (by unfold Func.isWrapper; first | (rw [if_pos (by decide +kernel)]; kernel_rfl) | (rw [if_neg (by decide +kernel)]; exact ⟨rfl, rfl⟩))
    (fun os started H enc _ => lifted os started H enc)

/-- THE STATEMENT -/
theorem proved : Rows.LawS2593BExactSaid :=
  over
#print axioms proved
end Go.Proofs.Ybulkbarg.lawS2593BExact

/- LawS2589AStep: the row. -/
import Derived.Test.YbulkbapcStepWalk
import Derived.Deep.Grids
namespace Go.Proofs.Ybulkbapc.lawS2589AStep
open Go.ChangeShapes Go.WideShapes Go.ChangeAt Go.RowKit
set_option linter.unusedVariables false

section
variable {H : Type} {enc : TypeId × Value → H}
theorem cells4 : Yba.prog.cellsOf 4 = 1 := by kernel_rfl
theorem cells30 : Yba.prog.cellsOf 30 = 1 := by kernel_rfl
theorem addAt (b o i : Nat) : (⟨b, o, none⟩ : Addr).add i = ⟨b, o + i, none⟩ := by simp [Addr.add]

theorem open_row_bools {W : World} {fuel : Nat} {cs : List Value} {x : DataW H × List MemPlace} (h : DataW.trod enc Yba.prog W 0 (fun _ => true) true fuel 22 cs = some x) :
    ∃ q m c bs, cs = [.slice q m c] ∧ bs.length = m ∧ BoolsIn W.heap.size W q bs := by
  rcases Go.Deep.open_bools Yba.underlying22 Yba.underlying4 cells4 h with ⟨rfl, rfl⟩ | ⟨a, l, c, Bf, rfl, _, hl, hm, rfl, hcell⟩
  · exact ⟨none, 0, 0, [], rfl, rfl, fun h => absurd rfl h⟩
  · refine ⟨some a, l, c, (List.range l).map Bf, rfl, by simp, fun h0 => ?_⟩
    have hl0 : 0 < l := by
      cases l with
      | zero => simp at h0
      | succ l => omega
    obtain ⟨b, o, s⟩ := a
    have hc0 := hcell 0 (by omega)
    obtain rfl : s = none := by simpa [Addr.add] using World.cell?_spot hc0
    refine ⟨b, o, rfl, World.block_lt_of_cell? W ⟨b, o + 0, none⟩ (by rw [← addAt]; exact hc0), fun i y hy => ?_⟩
    have hi : i < l := by have := (List.getElem?_eq_some_iff.1 hy).1; simpa using this
    have hci := hcell i (by omega)
    rw [addAt] at hci
    rw [hci]
    simp [hi] at hy
    rw [hy]

theorem open_row_ints {W : World} {fuel : Nat} {cs : List Value} {x : DataW H × List MemPlace} (h : DataW.trod enc Yba.prog W 0 (fun _ => true) true fuel 23 cs = some x) :
    ∃ q m c xs, cs = [.slice q m c] ∧ xs.length = m ∧ IntsIn W.heap.size W q xs ∧ ∀ y ∈ xs, (Lit.int .i16 y).wf = true := by
  rcases open_ints Yba.underlying23 Yba.underlying30 cells30 h with ⟨rfl, rfl⟩ | ⟨a, l, c, zs, rfl, _, hl, hm, hz, rfl, hcell, hwz⟩
  · exact ⟨none, 0, 0, [], rfl, rfl, fun h => absurd rfl h, fun y hy => by cases hy⟩
  · have hz' : zs.length = c := by simpa using hz
    have hlen : (zs.take l).length = l := by simp; omega
    refine ⟨some a, l, c, zs.take l, rfl, hlen, fun h0 => ?_, fun y hy => hwz y (List.mem_of_mem_take hy)⟩
    have hl0 : 0 < l := by
      cases l with
      | zero => simp at h0
      | succ l => omega
    obtain ⟨b, o, s⟩ := a
    have hc0 := hcell 0 (by omega)
    obtain rfl : s = none := by simpa [Addr.add] using World.cell?_spot hc0
    refine ⟨b, o, rfl, World.block_lt_of_cell? W ⟨b, o + 0, none⟩ (by rw [← addAt]; exact hc0), fun i y hy => ?_⟩
    have hi : i < l := by have := (List.getElem?_eq_some_iff.1 hy).1; omega
    have hci := hcell i (by omega)
    rw [addAt] at hci
    rw [hci]
    rw [List.getElem?_take_of_lt hi] at hy
    simp [List.getD, hy]
end

/-! ### THE ROW's STEP -/
set_option maxRecDepth 100000 in
theorem lifted (os : Os) (started : os.Started) (H : Type) (enc : TypeId × Value → H) :
    ReturnsInHanded {} Yba.checked os 3 .any (Rows.lawS2589AStepSpec.pre6 enc Yba.prog Yba.f3 Rows.lawS2589AStepRow.domain false) (Rows.lawS2589AStepSpec.post enc Yba.prog Yba.f3 false true false false) := by
  refine returnsInHanded_of_change_sized (C := Yba.checked) own started (by kernel_rfl) Yba.func3
    (ChangeSpec.witness6 (enc := enc) (C := Yba.checked) false ⟨#[], #[.int .u8 0, .int .u8 0, .int .u8 0, .int .u8 0, .int .i64 0, .bool false, .slice none 0 0, .int .i32 0, .slice none 0 0, .slice none 0 0], []⟩ 8 (by kernel_rfl) (by kernel_rfl) (by kernel_rfl) (by kernel_rfl)) ?_
  intro W base args ds gs before hval0 hW hcnd hsz _
  have hval : ∀ (j : Nat) t v, Yba.f3.params[j]? = some t → args[j]? = some v → Value.okWide Yba.prog W .any base t v := hval0
  have hW' := hW
  obtain ⟨p, q, hA0, hV, rfl, hfz, hnd⟩ := hW
  have hA : DataW.TrodAll enc Yba.prog W 0 (fun _ => true) true Yba.f3.params.toList args.toList ds p := hA0
  rw [Yba.params3] at hA hval
  obtain ⟨v0, vs0, d0, ds0, p0, q0, hargs, rfl, rfl, h0, r0⟩ := trodAll_cons hA
  obtain ⟨v1, vs1, d1, ds1, p1, q1, rfl, rfl, rfl, h1, r1⟩ := trodAll_cons r0
  obtain ⟨v2, vs2, d2, ds2, p2, q2, rfl, rfl, rfl, h2, r2⟩ := trodAll_cons r1
  obtain ⟨v3, vs3, d3, ds3, p3, q3, rfl, rfl, rfl, h3, r3⟩ := trodAll_cons r2
  obtain ⟨v4, vs4, d4, ds4, p4, q4, rfl, rfl, rfl, h4, r4⟩ := trodAll_cons r3
  obtain ⟨v5, vs5, d5, ds5, p5, q5, rfl, rfl, rfl, h5, r5⟩ := trodAll_cons r4
  obtain ⟨v6, vs6, d6, ds6, p6, q6, rfl, rfl, rfl, h6, r6⟩ := trodAll_cons r5
  obtain ⟨v7, vs7, d7, ds7, p7, q7, rfl, rfl, rfl, h7, r7⟩ := trodAll_cons r6
  obtain ⟨v8, vs8, d8, ds8, p8, q8, rfl, rfl, rfl, h8, r8⟩ := trodAll_cons r7
  obtain ⟨v9, vs9, d9, ds9, p9, q9, rfl, rfl, rfl, h9, r9⟩ := trodAll_cons r8
  obtain ⟨rfl, rfl, rfl⟩ := trodAll_nil r9
  obtain rfl : args = #[v0, v1, v2, v3, v4, v5, v6, v7, v8, v9] := by cases args; simp_all
  obtain ⟨rfl, rfl⟩ := trodVars_none hV
  obtain ⟨pr, nr, cr, rfl⟩ := okWide_slice Yba.underlying22 (hval 6 22 v6 rfl rfl)
  obtain ⟨pl, nl, cl, rfl⟩ := okWide_slice Yba.underlying23 (hval 8 23 v8 rfl rfl)
  obtain ⟨ph, nh, ch, rfl⟩ := okWide_slice Yba.underlying22 (hval 9 22 v9 rfl rfl)
  have k6 := h6
  have k8 := h8
  have k9 := h9
  have lt6 : ∀ x ∈ p6, x.block < W.heap.size := by obtain ⟨m, hm⟩ := k6; exact DataW.trod_lt m _ _ _ hm
  have lt8 : ∀ x ∈ p8, x.block < W.heap.size := by obtain ⟨m, hm⟩ := k8; exact DataW.trod_lt m _ _ _ hm
  have lt9 : ∀ x ∈ p9, x.block < W.heap.size := by obtain ⟨m, hm⟩ := k9; exact DataW.trod_lt m _ _ _ hm
  obtain ⟨rin, hrl, hr⟩ : ∃ rin : List Bool, rin.length = nr ∧ BoolsIn W.heap.size W pr rin := by
    obtain ⟨fuel, hf⟩ := h6
    obtain ⟨q', m', c', L, hcs, hno, hL⟩ := open_row_bools hf
    simp [Value.cells] at hcs
    obtain ⟨rfl, rfl, rfl⟩ := hcs
    exact ⟨L, hno, hL⟩
  obtain ⟨lin, hll, hl, hlw⟩ : ∃ lin : List Int, lin.length = nl ∧ IntsIn W.heap.size W pl lin ∧ ∀ y ∈ lin, (Lit.int .i16 y).wf = true := by
    obtain ⟨fuel, hf⟩ := h8
    obtain ⟨q', m', c', L, hcs, hno, hL⟩ := open_row_ints hf
    simp [Value.cells] at hcs
    obtain ⟨rfl, rfl, rfl⟩ := hcs
    exact ⟨L, hno, hL⟩
  obtain ⟨hin, hhl, hhi⟩ : ∃ hin : List Bool, hin.length = nh ∧ BoolsIn W.heap.size W ph hin := by
    obtain ⟨fuel, hf⟩ := h9
    obtain ⟨q', m', c', L, hcs, hno, hL⟩ := open_row_bools hf
    simp [Value.cells] at hcs
    obtain ⟨rfl, rfl, rfl⟩ := hcs
    exact ⟨L, hno, hL⟩
  obtain ⟨a0, rfl, rfl, rfl, w0⟩ := open_int Yba.underlying5 (hval 0 5 v0 rfl rfl) h0
  obtain ⟨a1, rfl, rfl, rfl, w1⟩ := open_int Yba.underlying5 (hval 1 5 v1 rfl rfl) h1
  obtain ⟨a2, rfl, rfl, rfl, w2⟩ := open_int Yba.underlying5 (hval 2 5 v2 rfl rfl) h2
  obtain ⟨a3, rfl, rfl, rfl, w3⟩ := open_int Yba.underlying5 (hval 3 5 v3 rfl rfl) h3
  obtain ⟨rd, rfl, rfl, rfl, w4⟩ := open_int Yba.underlying2 (hval 4 2 v4 rfl rfl) h4
  obtain ⟨tm, rfl, rfl, rfl⟩ := open_bool Yba.underlying4 (hval 5 4 v5 rfl rfl) h5
  obtain ⟨aj, rfl, rfl, rfl, w7⟩ := open_int Yba.underlying21 (hval 7 21 v7 rfl rfl) h7
  clear hA0 hval0 hsz
  obtain ⟨g0, g0'⟩ := bounds_u8 w0
  obtain ⟨g1, g1'⟩ := bounds_u8 w1
  obtain ⟨g2, g2'⟩ := bounds_u8 w2
  obtain ⟨g3, g3'⟩ := bounds_u8 w3
  obtain ⟨e4, e4'⟩ := bounds_i64 w4
  obtain ⟨e7, e7'⟩ := bounds_i32 w7
  have hlb : ∀ y ∈ lin, -32768 ≤ y ∧ y ≤ 32767 := fun y hy => by
    have := hlw y hy
    simp only [Lit.wf, IntKind.min, IntKind.max, IntKind.signed, IntKind.bits, Bool.and_eq_true, decide_eq_true_eq, if_true] at this
    omega
  have x0 : 0 ≤ a0 % 40 := Int.emod_nonneg _ (by omega)
  have x1 : a0 % 40 < 40 := Int.emod_lt_of_pos _ (by omega)
  obtain ⟨n, hn⟩ : ∃ n : Nat, 1 + a0 % 40 = (n : Int) := ⟨(1 + a0 % 40).toNat, by omega⟩
  obtain ⟨hh, hhh⟩ : ∃ hh : Int, ((n : Int) + 1) / 2 = hh := ⟨_, rfl⟩
  have y0 : 1 ≤ hh := by omega
  have y1 : hh ≤ 20 := by omega
  have z0 : 0 ≤ a1 % hh := Int.emod_nonneg _ (by omega)
  have z1 : a1 % hh < hh := Int.emod_lt_of_pos _ (by omega)
  have u0 : 0 ≤ a2 % (n : Int) := Int.emod_nonneg _ (by omega)
  have u1 : a2 % (n : Int) < n := Int.emod_lt_of_pos _ (by omega)
  obtain ⟨qq, hqq⟩ : ∃ qq : Nat, a2 % (n : Int) = (qq : Int) := ⟨(a2 % (n : Int)).toNat, by omega⟩
  have s0 : 0 ≤ a3 % 4 := Int.emod_nonneg _ (by omega)
  have s1 : a3 % 4 < 4 := Int.emod_lt_of_pos _ (by omega)
  refine (walk a0 a1 a2 a3 rd aj tm pr nr cr rin pl nl cl lin ph nh ch hin W n qq hh (a1 % hh) (a3 % 4) (by omega) (by omega) hn hhh rfl z0 (by omega) y0 hqq (by omega) rfl s0 (by omega) g0 g1 g2 g3 g0' g1' g2' g3' e4 e4' e7 e7' hr hrl hl hll hlb hhi hhl).mono fun e W' ⟨he, bel⟩ => ?_
  subst he
  exact ⟨_, rfl, _, _, _, [], _, [], hW', trodAll_mk1 (shut_bool Yba.underlying4 _), (trodAll_cons_mk (shut_int Yba.underlying5 w0) (trodAll_cons_mk (shut_int Yba.underlying5 w1) (trodAll_cons_mk (shut_int Yba.underlying5 w2) (trodAll_cons_mk (shut_int Yba.underlying5 w3) (trodAll_cons_mk (shut_int Yba.underlying2 w4) (trodAll_cons_mk (shut_bool Yba.underlying4 _) (trodAll_cons_mk (Below.trod laidOut (by kernel_rfl) (of_decide_eq_true (by kernel_rfl)) k6 bel lt6) (trodAll_cons_mk (shut_int Yba.underlying21 w7) (trodAll_cons_mk (Below.trod laidOut (by kernel_rfl) (of_decide_eq_true (by kernel_rfl)) k8 bel lt8) (trodAll_cons_mk (Below.trod laidOut (by kernel_rfl) (of_decide_eq_true (by kernel_rfl)) k9 bel lt9) trodAll_mk0)))))))))), rfl, bel.frame _, fun h => by cases h⟩

theorem over : Rows.lawS2589AStepRow.holds Yba.pinned (OpenSpec.ofChange Rows.lawS2589AStepSpec) :=
  OpenClaim.holds_of_wide 3 Yba.f3 rfl rfl rfl rfl rfl rfl rfl ⟨rfl, rfl, rfl, rfl, rfl⟩ rfl rfl rfl rfl rfl (by kernel_rfl) Yba.func3 (by kernel_rfl)
    (of_decide_eq_true (by kernel_rfl)) (by unfold Func.isWrapper; first | (rw [if_pos (by decide +kernel)]; kernel_rfl) | (rw [if_neg (by decide +kernel)]; exact ⟨rfl, rfl⟩))
    (fun os started H enc _ => lifted os started H enc)

/-- THE STATEMENT -/
theorem proved : Rows.LawS2589AStepSaid :=
  over
#print axioms proved
end Go.Proofs.Ybulkbapc.lawS2589AStep

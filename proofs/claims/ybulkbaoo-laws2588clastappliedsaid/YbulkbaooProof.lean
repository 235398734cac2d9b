/- LawS2588CLastApplied: the row. -/
import Derived.Test.YbulkbaooWalk
import Derived.ProofKit
import Derived.OpenShut
namespace Go.Proofs.Ybulkbaoo.lawS2588CLastApplied
open Go.ChangeShapes Go.WideShapes Go.ChangeAt Go.RowKit
set_option linter.unusedVariables false

/-- The pair of numbers that is asked for. -/
theorem picks (L : List Up) (no : Nat) (pk qu qi : Int) (hno : L.length = no) (k0 : 0 ≤ pk) (k2 : 0 ≤ qu) (k3 : qu ≤ 255) (k4 : 0 ≤ qi) (k5 : qi ≤ 255) (hok : ∀ a ∈ L, a.ok) :
    ∃ QU QI : Int, 0 ≤ QU ∧ QU ≤ 255 ∧ 0 ≤ QI ∧ QI ≤ 255 ∧ ((0 < no ∧ pk % 2 = 0 ∧ ∃ a, L[(pk / 2 % (no : Int)).toNat]? = some a ∧ QU = a.u ∧ QI = a.i) ∨ ((no = 0 ∨ pk % 2 = 1) ∧ QU = qu ∧ QI = qi)) := by
  by_cases h : 0 < no ∧ pk % 2 = 0
  · have h1 : 0 ≤ pk / 2 % (no : Int) := Int.emod_nonneg _ (by omega)
    have h2 : pk / 2 % (no : Int) < (no : Int) := Int.emod_lt_of_pos _ (by omega)
    have hj : (pk / 2 % (no : Int)).toNat < L.length := by omega
    obtain ⟨u0, u1, i0, i1, _, _⟩ := hok _ (List.getElem_mem hj)
    exact ⟨_, _, u0, u1, i0, i1, .inl ⟨h.1, h.2, _, List.getElem?_eq_getElem hj, rfl, rfl⟩⟩
  · exact ⟨qu, qi, k2, k3, k4, k5, .inr ⟨by omega, rfl, rfl⟩⟩

/-! ### THE ROW's STEP -/
set_option maxRecDepth 100000 in
theorem lifted (os : Os) (started : os.Started) (H : Type) (enc : TypeId × Value → H) :
    ReturnsInHanded {} Yba.checked os 3 .any (Rows.lawS2588CLastAppliedSpec.pre6 enc Yba.prog Yba.f3 Rows.lawS2588CLastAppliedRow.domain false) (Rows.lawS2588CLastAppliedSpec.post enc Yba.prog Yba.f3 false true false false) := by
  refine returnsInHanded_of_change_sized (C := Yba.checked) own started (by kernel_rfl) Yba.func3
    (ChangeSpec.witness6 (enc := enc) (C := Yba.checked) false ⟨#[], #[.slice none 0 0, .int .u8 0, .int .u8 0, .int .u8 0], []⟩ 8 (by kernel_rfl) (by kernel_rfl) (by kernel_rfl) (by kernel_rfl)) ?_
  intro W base args ds gs before hval0 hW hcnd hsz _
  have hval : ∀ (j : Nat) t v, Yba.f3.params[j]? = some t → args[j]? = some v → Value.okWide Yba.prog W .any base t v := hval0
  have hW' := hW
  obtain ⟨p, q, hA0, hV, rfl, hfz, hnd⟩ := hW
  have hA : DataW.TrodAll enc Yba.prog W 0 (fun _ => true) true Yba.f3.params.toList args.toList ds p := hA0
  have hsz' : (DataW.weightsEach Yba.prog (Yba.f3.params.toList ++ Rows.lawS2588CLastAppliedSpec.plain.varTypes Yba.prog) (ds ++ gs)).all (· ≤ reachBytes) = true := hsz
  rw [Yba.params3] at hA hval hsz'
  obtain ⟨v0, vs0, d0, ds0, p0, q0, hargs, rfl, rfl, h0, r0⟩ := trodAll_cons hA
  obtain ⟨v1, vs1, d1, ds1, p1, q1, rfl, rfl, rfl, h1, r1⟩ := trodAll_cons r0
  obtain ⟨v2, vs2, d2, ds2, p2, q2, rfl, rfl, rfl, h2, r2⟩ := trodAll_cons r1
  obtain ⟨v3, vs3, d3, ds3, p3, q3, rfl, rfl, rfl, h3, r3⟩ := trodAll_cons r2
  obtain ⟨rfl, rfl, rfl⟩ := trodAll_nil r3
  obtain rfl : args = #[v0, v1, v2, v3] := by cases args; simp_all
  obtain ⟨rfl, rfl⟩ := trodVars_none hV
  obtain ⟨pa, no, ca, rfl⟩ := okWide_slice Yba.underlying22 (hval 0 22 v0 rfl rfl)
  have k0 := h0
  have lt0 : ∀ x ∈ p0, x.block < W.heap.size := by obtain ⟨m, hm⟩ := k0; exact DataW.trod_lt m _ _ _ hm
  obtain ⟨L, hno, hL, hok⟩ : ∃ L : List Up, L.length = no ∧ InRow W.heap.size W pa L ∧ ∀ a ∈ L, a.ok ∧ BytesUnder W.heap.size W a.q a.ys ∧ a.m ≤ 140737488355328 := by
    obtain ⟨fuel, hf⟩ := h0
    obtain ⟨pa', no', ca', L, hcs, hno, hL, hok⟩ := open_ups hf
    simp [Value.cells] at hcs
    obtain ⟨rfl, rfl, rfl⟩ := hcs
    refine ⟨L, hno, hL, fun a ha => ⟨(hok a ha).1, (hok a ha).2.1, ?_⟩⟩
    have := (hok a ha).2.2 (fun k hk => by
      have := List.all_eq_true.1 hsz' k (DataW.weights_mem_each (j := 0) (t := 22) (d := d0) rfl rfl k hk)
      simpa using this)
    have hr := reachBytes_lt
    omega
  obtain ⟨a1, rfl, rfl, rfl, w1⟩ := open_int Yba.underlying5 (hval 1 5 v1 rfl rfl) h1
  obtain ⟨a2, rfl, rfl, rfl, w2⟩ := open_int Yba.underlying5 (hval 2 5 v2 rfl rfl) h2
  obtain ⟨a3, rfl, rfl, rfl, w3⟩ := open_int Yba.underlying5 (hval 3 5 v3 rfl rfl) h3
  clear hA0 hval0 hsz hsz'
  obtain ⟨QU, QI, g0, g1, g2, g3, hpick⟩ := picks L no a1 a2 a3 hno (bounds_u8 w1).1 (bounds_u8 w2).1 (bounds_u8 w2).2 (bounds_u8 w3).1 (bounds_u8 w3).2 (fun a ha => (hok a ha).1)
  refine (walk pa no ca L a1 a2 a3 QU QI W (bounds_u8 w1).1 (bounds_u8 w1).2 (bounds_u8 w2).1 (bounds_u8 w2).2 (bounds_u8 w3).1 (bounds_u8 w3).2 g0 g1 g2 g3 hL hno hok hpick).mono fun e W' ⟨he, bel⟩ => ?_
  subst he
  exact ⟨_, rfl, _, _, _, [], _, [], hW', trodAll_mk1 (shut_bool Yba.underlying4 _), (trodAll_cons_mk (Below.trod laidOut (by kernel_rfl) (of_decide_eq_true (by kernel_rfl)) k0 bel lt0) (trodAll_cons_mk (shut_int Yba.underlying5 w1) (trodAll_cons_mk (shut_int Yba.underlying5 w2) (trodAll_cons_mk (shut_int Yba.underlying5 w3) trodAll_mk0)))), rfl, bel.frame _, fun h => by cases h⟩

theorem over : Rows.lawS2588CLastAppliedRow.holds Yba.pinned (OpenSpec.ofChange Rows.lawS2588CLastAppliedSpec) :=
  OpenClaim.holds_of_wide 3 Yba.f3 rfl rfl rfl rfl rfl rfl rfl ⟨rfl, rfl, rfl, rfl, rfl⟩ rfl rfl rfl rfl rfl (by kernel_rfl) Yba.func3 (by kernel_rfl)
    (of_decide_eq_true (by kernel_rfl)) (by unfold Func.isWrapper; first | (rw [if_pos (by decide +kernel)]; kernel_rfl) | (rw [if_neg (by decide +kernel)]; exact ⟨rfl, rfl⟩))
    (fun os started H enc _ => lifted os started H enc)

/-- THE STATEMENT -/
theorem proved : Rows.LawS2588CLastAppliedSaid :=
  over
#print axioms proved
end Go.Proofs.Ybulkbaoo.lawS2588CLastApplied

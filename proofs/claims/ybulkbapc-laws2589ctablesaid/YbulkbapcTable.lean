/- LawS2589CTable. -/
import Derived.Test.YbulkbapcRows
import Derived.WalkKit
import Derived.WalkSpells
import Derived.Lib.Builder
import Derived.RegionTactic
import Derived.WalkLawsBesides
import Derived.ProofKit
import Derived.OpenShut
import Derived.Below
namespace Go.Proofs.Ybulkbapc
open Go.ChangeShapes Go.WideShapes Go.ChangeAt Go.RowKit
set_option linter.unusedVariables false

theorem own : ownKnob Yba.prog.godebug = none := by kernel_rfl
theorem laidOut : laidOutB Yba.prog = true := by kernel_rfl

/-- Is the word a NaN. -/
def nanB (x : Nat) : Bool := (Ieee.double.read x).isNaN

theorem order_self (x : Nat) : FloatKind.f64.format.order x x = if nanB x = true then none else some .eq := by
  show (Ieee.double.read x).order (Ieee.double.read x) = _
  unfold nanB
  cases Ieee.double.read x with
  | number s m i => simp [Ieee.Datum.order, Ieee.Datum.isNaN]
  | infinity s => simp [Ieee.Datum.order, Ieee.Datum.isNaN]
  | nan s t => simp [Ieee.Datum.order, Ieee.Datum.isNaN]

theorem order_none (x y : Nat) : FloatKind.f64.format.order x y = none ↔ (nanB x = true ∨ nanB y = true) := by
  show (Ieee.double.read x).order (Ieee.double.read y) = none ↔ _
  unfold nanB
  cases Ieee.double.read x <;> cases Ieee.double.read y <;> simp [Ieee.Datum.order, Ieee.Datum.isNaN]

end Go.Proofs.Ybulkbapc
namespace Go.Proofs.Ybulkbapc.lawS2589CTable
open Go.ChangeShapes Go.WideShapes Go.ChangeAt Go.RowKit
set_option linter.unusedVariables false

theorem isNaN_7 (x : Nat) (w : World) : Calls Yba.prog 7 #[.float .f64 x] w fun e w' => e = .returned (.bool (nanB x)) ∧ w' = w := by
  have h := order_self x
  go_enter Yba.func7, Yba.ntmps7
  cases hn : nanB x with
  | true =>
    simp only [hn, if_true] at h
    go_wp2
    go_ret
    exact ⟨rfl, rfl⟩
  | false =>
    simp [hn] at h
    go_wp2
    go_ret
    exact ⟨rfl, rfl⟩

theorem bits_8 (x : Nat) (w : World) : (callFunc 8 #[.float .f64 x]).run Yba.prog w = .ok (.value (.int .u64 (x : Int))) w := by
  rw [run_callFunc_extern Yba.func8 (by kernel_rfl) (by kernel_rfl) (by kernel_rfl) (show Extern.find Yba.f8 = some Extern.MathFloatBits.float64bits by kernel_rfl)]
  rfl

set_option maxRecDepth 100000 in
set_option maxHeartbeats 1000000 in
theorem walk (rate en hw a3 a4 a5 a6 : Nat) (w : World) :
    Calls Yba.prog 4 #[.float .f64 rate, .float .f64 en, .float .f64 hw, .float .f64 a3, .float .f64 a4, .float .f64 a5, .float .f64 a6] w fun e w' => e = .returned (.bool true) ∧ Below w.heap.size w w' := by
  have hb8 := bits_8
  have hsf := fun w a x m => run_store Yba.prog w a (.float .f64 x) m rfl
  have ho := order_none hw en
  have hbel : ∀ o, Below w.heap.size w (w.alloc o) := fun o => (Below.refl _ w).alloc (Nat.le_refl _) o
  have h1 := order_self hw
  have h2 := order_self en
  have h3 := order_self rate
  cases h : FloatKind.f64.format.order hw en with
  | none =>
    have hn := ho.1 h
    clear ho
    cases n1 : nanB hw <;> cases n2 : nanB en <;> cases n3 : nanB rate <;> simp only [n1, n2, n3, if_true, if_false, Bool.false_eq_true, or_self] at h1 h2 h3 hn
    all_goals
      go_enter Yba.func4, Yba.ntmps4
      go_wp2
      go_ret
      exact ⟨rfl, hbel _⟩
  | some o =>
    have hn : ¬ (nanB hw = true ∨ nanB en = true) := fun e => by rw [ho.2 e] at h; cases h
    clear ho
    cases n1 : nanB hw <;> cases n2 : nanB en <;> simp only [n1, n2, or_true, true_or, not_true_eq_false] at hn
    cases n3 : nanB rate <;> simp only [n1, n2, n3, if_true, if_false, Bool.false_eq_true] at h1 h2 h3
    all_goals
      cases o
      all_goals
        go_enter Yba.func4, Yba.ntmps4
        go_wp2
        go_ret
        exact ⟨rfl, hbel _⟩

/-! ### THE ROW's STEP -/
set_option maxRecDepth 100000 in
theorem lifted (os : Os) (started : os.Started) (H : Type) (enc : TypeId × Value → H) :
    ReturnsInHanded {} Yba.checked os 4 .any (Rows.lawS2589CTableSpec.pre6 enc Yba.prog Yba.f4 Rows.lawS2589CTableRow.domain false) (Rows.lawS2589CTableSpec.post enc Yba.prog Yba.f4 false true false false) := by
  refine returnsInHanded_of_change (C := Yba.checked) own started (by kernel_rfl) Yba.func4
    (ChangeSpec.witness6 (enc := enc) (C := Yba.checked) false ⟨#[], #[.float .f64 0, .float .f64 0, .float .f64 0, .float .f64 0, .float .f64 0, .float .f64 0, .float .f64 0], []⟩ 8 (by kernel_rfl) (by kernel_rfl) (by kernel_rfl) (by kernel_rfl)) ?_
  intro W base args ds gs before hval0 hW hcnd _
  have hval : ∀ (j : Nat) t v, Yba.f4.params[j]? = some t → args[j]? = some v → Value.okWide Yba.prog W .any base t v := hval0
  have hW' := hW
  obtain ⟨p, q, hA0, hV, rfl, hfz, hnd⟩ := hW
  have hA : DataW.TrodAll enc Yba.prog W 0 (fun _ => true) true Yba.f4.params.toList args.toList ds p := hA0
  rw [Yba.params4] at hA hval
  obtain ⟨v0, vs0, d0, ds0, p0, q0, hargs, rfl, rfl, h0, r0⟩ := trodAll_cons hA
  obtain ⟨v1, vs1, d1, ds1, p1, q1, rfl, rfl, rfl, h1, r1⟩ := trodAll_cons r0
  obtain ⟨v2, vs2, d2, ds2, p2, q2, rfl, rfl, rfl, h2, r2⟩ := trodAll_cons r1
  obtain ⟨v3, vs3, d3, ds3, p3, q3, rfl, rfl, rfl, h3, r3⟩ := trodAll_cons r2
  obtain ⟨v4, vs4, d4, ds4, p4, q4, rfl, rfl, rfl, h4, r4⟩ := trodAll_cons r3
  obtain ⟨v5, vs5, d5, ds5, p5, q5, rfl, rfl, rfl, h5, r5⟩ := trodAll_cons r4
  obtain ⟨v6, vs6, d6, ds6, p6, q6, rfl, rfl, rfl, h6, r6⟩ := trodAll_cons r5
  obtain ⟨rfl, rfl, rfl⟩ := trodAll_nil r6
  obtain rfl : args = #[v0, v1, v2, v3, v4, v5, v6] := by cases args; simp_all
  obtain ⟨rfl, rfl⟩ := trodVars_none hV
  obtain ⟨a0, rfl, rfl, rfl, w0⟩ := open_float Yba.underlying25 (hval 0 25 v0 rfl rfl) h0
  obtain ⟨a1, rfl, rfl, rfl, w1⟩ := open_float Yba.underlying25 (hval 1 25 v1 rfl rfl) h1
  obtain ⟨a2, rfl, rfl, rfl, w2⟩ := open_float Yba.underlying25 (hval 2 25 v2 rfl rfl) h2
  obtain ⟨a3, rfl, rfl, rfl, w3⟩ := open_float Yba.underlying25 (hval 3 25 v3 rfl rfl) h3
  obtain ⟨a4, rfl, rfl, rfl, w4⟩ := open_float Yba.underlying25 (hval 4 25 v4 rfl rfl) h4
  obtain ⟨a5, rfl, rfl, rfl, w5⟩ := open_float Yba.underlying25 (hval 5 25 v5 rfl rfl) h5
  obtain ⟨a6, rfl, rfl, rfl, w6⟩ := open_float Yba.underlying25 (hval 6 25 v6 rfl rfl) h6
  clear hA0 hval0
  simp only [List.append_nil] at hW'
  refine (walk a0 a1 a2 a3 a4 a5 a6 W).mono fun e W' ⟨he, bel⟩ => ?_
  subst he
  exact ⟨_, rfl, _, _, _, [], [], [], hW', trodAll_mk1 (shut_bool Yba.underlying4 _), (trodAll_cons_mk (shut_float Yba.underlying25 w0) (trodAll_cons_mk (shut_float Yba.underlying25 w1) (trodAll_cons_mk (shut_float Yba.underlying25 w2) (trodAll_cons_mk (shut_float Yba.underlying25 w3) (trodAll_cons_mk (shut_float Yba.underlying25 w4) (trodAll_cons_mk (shut_float Yba.underlying25 w5) (trodAll_cons_mk (shut_float Yba.underlying25 w6) trodAll_mk0))))))), rfl, bel.frame _, fun h => by cases h⟩

theorem over : Rows.lawS2589CTableRow.holds Yba.pinned (OpenSpec.ofChange Rows.lawS2589CTableSpec) :=
  OpenClaim.holds_of_wide 4 Yba.f4 rfl rfl rfl rfl rfl rfl rfl ⟨rfl, rfl, rfl, rfl, rfl⟩ rfl rfl rfl rfl rfl (by kernel_rfl) Yba.func4 (by kernel_rfl)
    (of_decide_eq_true (by kernel_rfl)) (by unfold Func.isWrapper; first | (rw [if_pos (by decide +kernel)]; kernel_rfl) | (rw [if_neg (by decide +kernel)]; exact ⟨rfl, rfl⟩))
    (fun os started H enc _ => lifted os started H enc)

/-- THE STATEMENT -/
theorem proved : Rows.LawS2589CTableSaid :=
  over
#print axioms proved
end Go.Proofs.Ybulkbapc.lawS2589CTable

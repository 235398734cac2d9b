/- LawS2589AStep: the walk. -/
import Derived.Test.YbulkbapcFront
namespace Go.Proofs.Ybulkbapc.lawS2589AStep
open Go.ChangeShapes Go.WideShapes Go.ChangeAt Go.RowKit
set_option linter.unusedVariables false

set_option maxRecDepth 100000 in
set_option maxHeartbeats 4000000 in
theorem walk (a0 a1 a2 a3 rd aj : Int) (tm : Bool) (pr : Option Addr) (nr cr : Nat) (rin : List Bool) (pl : Option Addr) (nl cl : Nat) (lin : List Int) (ph' : Option Addr) (nh ch : Nat) (hin : List Bool) (w : World)
    (n q : Nat) (hh f ph : Int) (n0 : 1 ≤ n) (n1 : n ≤ 40) (hn : 1 + a0 % 40 = (n : Int)) (hhh : ((n : Int) + 1) / 2 = hh) (hf : a1 % hh = f) (f0 : 0 ≤ f) (f1 : f ≤ 20) (h0 : 1 ≤ hh) (hq : a2 % (n : Int) = (q : Int)) (hqn : q < n) (hph : a3 % 4 = ph) (p0 : 0 ≤ ph) (p1 : ph ≤ 3)
    (g0 : 0 ≤ a0) (g1 : 0 ≤ a1) (g2 : 0 ≤ a2) (g3 : 0 ≤ a3) (g0' : a0 ≤ 255) (g1' : a1 ≤ 255) (g2' : a2 ≤ 255) (g3' : a3 ≤ 255) (r0 : -9223372036854775808 ≤ rd) (r1 : rd ≤ 9223372036854775807) (j0 : -2147483648 ≤ aj) (j1 : aj ≤ 2147483647)
    (hr : BoolsIn w.heap.size w pr rin) (hrl : rin.length = nr) (hl : IntsIn w.heap.size w pl lin) (hll : lin.length = nl) (hlb : ∀ x ∈ lin, -32768 ≤ x ∧ x ≤ 32767) (hhi : BoolsIn w.heap.size w ph' hin) (hhl : hin.length = nh) :
    Calls Yba.prog 3 #[.int .u8 a0, .int .u8 a1, .int .u8 a2, .int .u8 a3, .int .i64 rd, .bool tm, .slice pr nr cr, .int .i32 aj, .slice pl nl cl, .slice ph' nh ch] w fun e w' => e = .returned (.bool true) ∧ Below w.heap.size w w' := by
  have hsf := fun w a x m => run_store Yba.prog w a (.float .f64 x) m rfl
  have m27 := make27 n (by omega)
  have m22 := make22 n (by omega)
  have e1 : a0.tmod 40 = a0 % 40 := Int.tmod_eq_emod_of_nonneg g0
  have e2 : ((n : Int) + 1).tdiv 2 = hh := by rw [Int.tdiv_eq_ediv_of_nonneg (by omega), hhh]
  have e3 : a1.tmod hh = f := by rw [Int.tmod_eq_emod_of_nonneg g1, hf]
  have e4 : a2.tmod (n : Int) = (q : Int) := by rw [Int.tmod_eq_emod_of_nonneg g2, hq]
  have e5 : a3.tmod 4 = ph := by rw [Int.tmod_eq_emod_of_nonneg g3, hph]
  have hh0 : hh ≠ 0 := by omega
  have hnn0 : (n : Int) ≠ 0 := by omega
  have hh1 : hh ≤ 21 := by omega
  have hadj : Fin64 (floatOfInt .f64 aj) := ofInt_fin aj (by omega)
  generalize hAdj : floatOfInt .f64 aj = adj at hadj
  clear hhh hf hq hph
  go_enter Yba.func3, Yba.ntmps3
  go_upto_region 6 with fail
  clear e1 e2 e3 e4 e5 hn g0 g1 g2 g3 g0' g1' g2' g3' hAdj
  refine region6 n (by omega) _ _ _ _ _ _ _ _ _ _ _ _ _ _ _ _ _ _ _ _ _ _ _ _ _ _ _ _ _ _ _ _ _ _ _ _ _ _ _ _ _ _ _ _ _ _ _ _ _ _ _ _ _ _ _ _ _ _ _ _ _ _ _ _ _ _ _ _ _ _ _ _ _ (fun u62 u63 u64 u65 u66 u67 u68 u69 c0 c1 c2 w' hC h0' h1 hR l0 l1 l2 hb => ?_)
  rename_i aK
  refine aK _ _ ?_
  exact front w.heap.size w f rd ph n q adj (w.heap.size + 1 + 1 + 1) c0 c1 c2 pr nr cr rin tm pl nl cl lin ph' nh ch hin w' n0 n1 f0 f1 hqn p0 p1 r0 r1 hadj hl hll hlb hhi hhl hr hrl hC hR (by omega) l2 hb (Nat.le_refl _) _ _ _ _ _ _ _ _ _ _ _ _ _ _ _ _ _ _ _ _ _ _ _ _ _ _ _ _ _ _ _ _ _ _ _ _ _ _ _ _ _ _ _ _ _ _ _ _ _ _ _ _ _ _ _ _ _ _ _ _ _ _ _ _ _ _ _ _ _ _ _ _ _ _ _ _ _ _ _ _ _ _ _ _ _ _ _ _ _ _ _ _ _ _ _ _ _ _ _ _ _ _ _ _ _ _ _ _ _ _ _ _ _ _ _ _ _ _ _ _ _ _ _ _ _ _ _ _ _ _ _ _ _ _ _ _ _ _ _ _ _ _ _ _ _ _ _ _ _ _ _ _ _ _ _ _ _ _ _ _ _ _ _ _ _ _ _ _ _ _ _ _ _ _ _ _ _ _ _ _ _ _ _ _ _ _ _ _ _ _ _ _ _ _ _ _ _ _ _ _ _ _ _ _ _ _ _ _ _ _ _ _ _ _ _ _ _ _ _ _ _ _ _ _ _ _ _ _ _ _ _ _ _ _ _ _ _ _ _ _ _ _ _ _ _ _ _ _ _ _ _ _ _ _ _ _ _ _ _ _ _ _ _ _ _ _ _ _ _ _ _ _ _ _ _ _ _ _ _ _ _ _ _ _ _ _ _ _ _ _ _ _ _ _ _ _ _ _ _ _ _ _ _ _ _ _ _ _ _ _ _ _ _ _ _ _ _ _ _ _ _ _ _ _ _ _ _ _ _ _ _ _ _ _ _ _ _ _ _ _ _ _ _ _ _ _ _ _ _ _ _ _
end Go.Proofs.Ybulkbapc.lawS2589AStep

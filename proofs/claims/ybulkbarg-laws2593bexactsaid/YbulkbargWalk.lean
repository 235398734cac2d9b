/- LawS2593BExact: the walk. -/
import Derived.Test.YbulkbargBuild
namespace Go.Proofs.Ybulkbarg.lawS2593BExact
open Go.ChangeShapes Go.WideShapes Go.ChangeAt Go.RowKit
set_option linter.unusedVariables false

set_option maxRecDepth 100000 in
set_option maxHeartbeats 8000000 in
theorem walk (hb rs ns : Int) (p0 p1 p2 p3 : Bool) (a0 a1 a2 a3 c0 c1 c2 c3 : Int) (pa : Option Addr) (np ca : Nat) (ys : List Int) (w : World)
    (g0 : 0 ≤ ns) (g1 : ns ≤ 255) (hy : BytesIn w.heap.size w pa ys) (hyl : ys.length = np) (hyb : ∀ y ∈ ys, 0 ≤ y ∧ y ≤ 255) :
    Calls Yba.prog 3 #[.int .u64 hb, .int .u64 rs, .agg #[.bool p0, .bool p1, .bool p2, .bool p3], .agg #[.int .u64 a0, .int .u64 a1, .int .u64 a2, .int .u64 a3], .agg #[.int .u64 c0, .int .u64 c1, .int .u64 c2, .int .u64 c3], .slice pa np ca, .int .u8 ns] w fun e w' => e = .returned (.bool true) ∧ Below w.heap.size w w' := by
  obtain ⟨w3, hw3⟩ : ∃ w3, w3 = ((w.alloc (.cells #[.bool p0, .bool p1, .bool p2, .bool p3] 23)).alloc (.cells #[.int .u64 a0, .int .u64 a1, .int .u64 a2, .int .u64 a3] 24)).alloc (.cells #[.int .u64 c0, .int .u64 c1, .int .u64 c2, .int .u64 c3] 24) := ⟨_, rfl⟩
  have hP : Box w3 w.heap.size #[.bool p0, .bool p1, .bool p2, .bool p3] 23 := by rw [hw3]; exact ((Box.new w _ 23).alloc _).alloc _
  have hA : Box w3 (w.heap.size + 1) #[.int .u64 a0, .int .u64 a1, .int .u64 a2, .int .u64 a3] 24 := by
    rw [hw3]
    have := (Box.new (w.alloc (.cells #[.bool p0, .bool p1, .bool p2, .bool p3] 23)) #[.int .u64 a0, .int .u64 a1, .int .u64 a2, .int .u64 a3] 24).alloc (.cells #[.int .u64 c0, .int .u64 c1, .int .u64 c2, .int .u64 c3] 24)
    simpa using this
  have hG : Box w3 (w.heap.size + 1 + 1) #[.int .u64 c0, .int .u64 c1, .int .u64 c2, .int .u64 c3] 24 := by
    rw [hw3]
    have := Box.new ((w.alloc (.cells #[.bool p0, .bool p1, .bool p2, .bool p3] 23)).alloc (.cells #[.int .u64 a0, .int .u64 a1, .int .u64 a2, .int .u64 a3] 24)) #[.int .u64 c0, .int .u64 c1, .int .u64 c2, .int .u64 c3] 24
    simpa using this
  have hbel : Below w.heap.size w w3 := by
    rw [hw3]
    exact (((Below.refl _ w).alloc (Nat.le_refl _) _).alloc (by simp) _).alloc (by simp; omega) _
  by_cases hbig : 1024 < np
  · have hbi : (1024 : Int) < (np : Int) := by omega
    go_enter Yba.func3, Yba.ntmps3
    go_wp2_with fail
    rw [← hw3]
    go_ret
    exact ⟨rfl, hbel⟩
  · have hbi : ¬ (1024 : Int) < (np : Int) := by omega
    have k0 : 0 ≤ ns % 3 := Int.emod_nonneg _ (by omega)
    have k1 : ns % 3 < 3 := Int.emod_lt_of_pos _ (by omega)
    obtain ⟨kk, hkk⟩ : ∃ kk : Nat, ns % 3 = (kk : Int) := ⟨(ns % 3).toNat, by omega⟩
    obtain ⟨pb, hpb⟩ : ∃ pb, pb = [p0, p1, p2, p3] := ⟨_, rfl⟩
    obtain ⟨al, hal⟩ : ∃ al, al = [a0, a1, a2, a3] := ⟨_, rfl⟩
    obtain ⟨cl, hcl⟩ : ∃ cl, cl = [c0, c1, c2, c3] := ⟨_, rfl⟩
    obtain ⟨vb, HV⟩ : ∃ vb : Bool, Hid (vb = true ↔ kk = 1 ∧ rs ≤ hb ∧ ∀ y ∈ ys, Good hb pb al cl y) := by
      by_cases h : kk = 1 ∧ rs ≤ hb ∧ ∀ y ∈ ys, Good hb pb al cl y
      · exact ⟨true, fun _ => h, fun _ => rfl⟩
      · exact ⟨false, fun e => (by cases e), fun e => absurd e h⟩
    have HM : Hid (vb = true ↔ ns % 3 = 1 ∧ rs ≤ hb ∧ ∀ y ∈ ys, Good hb pb al cl y) := by
      unfold Hid
      rw [HV.out, hkk]
      have : (kk = 1) ↔ ((kk : Int) = 1) := by omega
      rw [this]
    have HP : Hid _ := hpb
    have HA : Hid _ := hal
    have HC : Hid _ := hcl
    have HK : Hid _ := hkk
    clear hpb hal hcl hkk k0 k1
    go_enter Yba.func3, Yba.ntmps3
    go_wp2_with fail
    rw [← hw3]
    have hz3 := hbel.size
    refine (build_5 hb rs ns p0 p1 p2 p3 a0 a1 a2 a3 c0 c1 c2 c3 pb al cl HP.out HA.out HC.out pa np ca kk ys w3 w.heap.size g0 g1 HK.out hz3 (hy.later hbel) hyl hyb (by omega)).mono ?_
    rintro e w5 ⟨A, R, MW, ML, MA, La, p, cap, g, fl, fa, rfl, qA, qLa, qR, qM, qW, qL, qfl, qMA, qfa, qw, qc, qb⟩
    clear hw3
    go_wp2_with fail
    have hkk2 : kk ≤ 2 := by have := HK.out; omega
    refine (vouched_6 A R MW ML MA La 4 kk 2 kk hb rs pb al cl p np cap ys g fl fa w5 vb qA qLa qR qM qW qL qfl qMA hkk2 qfa qw hyl hyb (by omega) qc HV.out).mono ?_
    rintro e w6 ⟨rfl, b6⟩
    have hb5 : Below w.heap.size w w5 := hbel.trans (qb.mono hz3)
    have hz5 := qb.size
    have b36 : Below w3.heap.size w3 w6 := qb.trans (b6.mono hz5)
    have hP6 := hP.below b36
    have hA6 := hA.below b36
    have hG6 := hG.below b36
    have x0 := hP6.cell 0 (v := .bool p0) rfl
    have x1 := hP6.cell 1 (v := .bool p1) rfl
    have x2 := hP6.cell 2 (v := .bool p2) rfl
    have x3 := hP6.cell 3 (v := .bool p3) rfl
    have y0 := hA6.cell 0 (v := .int .u64 a0) rfl
    have y1 := hA6.cell 1 (v := .int .u64 a1) rfl
    have y2 := hA6.cell 2 (v := .int .u64 a2) rfl
    have y3 := hA6.cell 3 (v := .int .u64 a3) rfl
    have z0 := hG6.cell 0 (v := .int .u64 c0) rfl
    have z1 := hG6.cell 1 (v := .int .u64 c1) rfl
    have z2 := hG6.cell 2 (v := .int .u64 c2) rfl
    have z3 := hG6.cell 3 (v := .int .u64 c3) rfl
    have hb6 : Below w.heap.size w w6 := hbel.trans (b36.mono hz3)
    have hz6 := hb6.size
    clear qA qLa qR qM qW qL qfl qMA qfa qw qc
    go_wp2_with fail
    refine (model_7 hb rs ns p0 p1 p2 p3 a0 a1 a2 a3 c0 c1 c2 c3 pb al cl HP.out HA.out HC.out pa np ca ys w6 w.heap.size vb g0 g1 hz6 (hy.later hb6) hyl hyb (by omega) HM.out).mono ?_
    rintro e w7 ⟨rfl, b7⟩
    have hb7 : Below w.heap.size w w7 := hb6.trans (b7.mono hz6)
    cases vb
    all_goals
      go_wp2_with fail
      go_ret
      exact ⟨rfl, hb7⟩
end Go.Proofs.Ybulkbarg.lawS2593BExact

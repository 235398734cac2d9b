/- zzs2593bmodel. -/
import Derived.Test.YbulkbargBase
namespace Go.Proofs.Ybulkbarg
open Go.ChangeShapes Go.WideShapes Go.ChangeAt Go.RowKit
set_option linter.unusedVariables false

/-- A byte's process is watched, was asked about and changed no later than the site has heard. -/
def Good (hb : Int) (pb : List Bool) (al cl : List Int) (y : Int) : Prop := pb.getD (pick y) false = true ∧ al.getD (pick y) 0 ≤ hb ∧ cl.getD (pick y) 0 ≤ hb

theorem at4 {α : Type} (l : List α) (hl : l.length = 4) (z : α) {j : Nat} (hj : j < 4) : l[j]? = some (l.getD j z) := by
  rw [List.getD_eq_getElem?_getD, List.getElem?_eq_getElem (by omega)]
  rfl

set_option maxRecDepth 100000 in
set_option maxHeartbeats 4000000 in
theorem model_7 (hb rs ns : Int) (p0 p1 p2 p3 : Bool) (a0 a1 a2 a3 c0 c1 c2 c3 : Int) (pb : List Bool) (al cl : List Int) (hpb : pb = [p0, p1, p2, p3]) (hal : al = [a0, a1, a2, a3]) (hcl : cl = [c0, c1, c2, c3]) (pa : Option Addr) (np ca : Nat) (ys : List Int) (w : World) (B : Nat) (mb : Bool)
    (g0 : 0 ≤ ns) (g1 : ns ≤ 255) (hB : B ≤ w.heap.size) (hy : BytesIn B w pa ys) (hyl : ys.length = np) (hyb : ∀ y ∈ ys, 0 ≤ y ∧ y ≤ 255) (hn1 : np ≤ 1024)
    (hm : mb = true ↔ ns % 3 = 1 ∧ rs ≤ hb ∧ ∀ y ∈ ys, Good hb pb al cl y) :
    Calls Yba.prog 7 #[.int .u64 hb, .int .u64 rs, .agg #[.bool p0, .bool p1, .bool p2, .bool p3], .agg #[.int .u64 a0, .int .u64 a1, .int .u64 a2, .int .u64 a3], .agg #[.int .u64 c0, .int .u64 c1, .int .u64 c2, .int .u64 c3], .slice pa np ca, .int .u8 ns] w fun e w' => e = .returned (.bool mb) ∧ Below w.heap.size w w' := by
  have e1 : ns.tmod 3 = ns % 3 := Int.tmod_eq_emod_of_nonneg g0
  have lpb : pb.length = 4 := by rw [hpb]; rfl
  have lal : al.length = 4 := by rw [hal]; rfl
  have lcl : cl.length = 4 := by rw [hcl]; rfl
  have bp : (#[.bool p0, .bool p1, .bool p2, .bool p3] : Array Value) = bools pb := by rw [hpb]; rfl
  have ba : (#[.int .u64 a0, .int .u64 a1, .int .u64 a2, .int .u64 a3] : Array Value) = u64s al := by rw [hal]; rfl
  have bc : (#[.int .u64 c0, .int .u64 c1, .int .u64 c2, .int .u64 c3] : Array Value) = u64s cl := by rw [hcl]; rfl
  obtain ⟨w3, hw3⟩ : ∃ w3, w3 = ((w.alloc (.cells #[.bool p0, .bool p1, .bool p2, .bool p3] 23)).alloc (.cells #[.int .u64 a0, .int .u64 a1, .int .u64 a2, .int .u64 a3] 24)).alloc (.cells #[.int .u64 c0, .int .u64 c1, .int .u64 c2, .int .u64 c3] 24) := ⟨_, rfl⟩
  have hP : Box w3 w.heap.size (bools pb) 23 := by rw [hw3, ← bp]; exact ((Box.new w _ 23).alloc _).alloc _
  have hA : Box w3 (w.heap.size + 1) (u64s al) 24 := by
    rw [hw3, ← ba]
    have := (Box.new (w.alloc (.cells #[.bool p0, .bool p1, .bool p2, .bool p3] 23)) #[.int .u64 a0, .int .u64 a1, .int .u64 a2, .int .u64 a3] 24).alloc (.cells #[.int .u64 c0, .int .u64 c1, .int .u64 c2, .int .u64 c3] 24)
    simpa using this
  have hG : Box w3 (w.heap.size + 1 + 1) (u64s cl) 24 := by
    rw [hw3, ← bc]
    have := Box.new ((w.alloc (.cells #[.bool p0, .bool p1, .bool p2, .bool p3] 23)).alloc (.cells #[.int .u64 a0, .int .u64 a1, .int .u64 a2, .int .u64 a3] 24)) #[.int .u64 c0, .int .u64 c1, .int .u64 c2, .int .u64 c3] 24
    simpa using this
  have hbel : Below w.heap.size w w3 := by
    rw [hw3]
    exact (((Below.refl _ w).alloc (Nat.le_refl _) _).alloc (by simp) _).alloc (by simp; omega) _
  by_cases h3 : ns % 3 = 1
  · by_cases hrb : rs ≤ hb
    · have hd : (ns % 3 != 1) = false := by simp [h3]
      have hdr : ¬ hb < rs := by omega
      have hdd : decide (hb < rs) = false := by simpa using hrb
      have HM : Hid (mb = true ↔ ∀ y ∈ ys, Good hb pb al cl y) := by
        unfold Hid
        rw [hm]
        exact ⟨fun h => h.2.2, fun h => ⟨h3, hrb, h⟩⟩
      clear hm bp ba bc hpb hal hcl
      go_enter Yba.func7, Yba.ntmps7
      go_wp2_with fail
      rw [← hw3]
      clear hw3 hd hdr hdd h3 e1
      go_loopg [27] np (fun gk iv wr => ∃ k : Nat, gk + k = np ∧ iv = .int .i64 (k : Int) ∧ wr = w3 ∧ ∀ i y, i < k → ys[i]? = some y → Good hb pb al cl y)
      case atStart => exact ⟨0, rfl, rfl, rfl, fun i y hi => by omega⟩
      case round =>
        obtain ⟨k, hk, rfl, hwr, hgd⟩ := hrel
        obtain rfl := hwr.symm
        have HG : Hid _ := hgd
        clear hgd
        by_cases hkn : k < np
        · have hki : (k : Int) < (np : Int) := by omega
          obtain ⟨y, hyk⟩ : ∃ y, ys[k]? = some y := ⟨_, List.getElem?_eq_getElem (by omega)⟩
          have hym := List.mem_of_getElem? hyk
          obtain ⟨y0, y1⟩ := hyb y hym
          obtain ⟨b, o, hp, hbl, hc⟩ := (hy.later (hbel.mono hB)) (by intro h; rw [h] at hyl; simp at hyl; omega)
          subst hp
          have cy := hc k y hyk
          have ej : y.tmod 4 = (pick y : Int) := by rw [Int.tmod_eq_emod_of_nonneg y0, pick_mod y0]
          have hj := pick_lt y0
          have hji : (pick y : Int) < 4 := by omega
          have c1 : w3.cell? ⟨w.heap.size, pick y, none⟩ = some (.bool (pb.getD (pick y) false)) := hP.cell _ (bools_at (at4 pb lpb false hj))
          have c2 : w3.cell? ⟨w.heap.size + 1, pick y, none⟩ = some (.int .u64 (al.getD (pick y) 0)) := hA.cell _ (u64s_at (at4 al lal 0 hj))
          have c3 : w3.cell? ⟨w.heap.size + 1 + 1, pick y, none⟩ = some (.int .u64 (cl.getD (pick y) 0)) := hG.cell _ (u64s_at (at4 cl lcl 0 hj))
          have hgy : Hid (Good hb pb al cl y ↔ pb.getD (pick y) false = true ∧ al.getD (pick y) 0 ≤ hb ∧ cl.getD (pick y) 0 ≤ hb) := Iff.rfl
          clear hc hP hA hG
          generalize pick y = j at ej hji c1 c2 c3 hgy hj
          generalize pb.getD j false = pj at c1 hgy
          generalize al.getD j 0 = aj at c2 hgy
          generalize cl.getD j 0 = cj at c3 hgy
          have bad : ¬ Good hb pb al cl y → mb = false := fun h => by
            cases mb
            · rfl
            · exact absurd (HM.out.1 rfl y hym) h
          cases pj with
          | false =>
            obtain rfl : mb = false := bad (fun h => by have := hgy.out.1 h; simp at this)
            clear bad
            go_wp2_with fail
            all_goals
              go_ret
              exact ⟨rfl, hbel⟩
          | true =>
            by_cases h1 : aj ≤ hb
            · have d1 : decide (hb < aj) = false := by simpa using h1
              by_cases h2 : cj ≤ hb
              · have d2 : decide (hb < cj) = false := by simpa using h2
                have HG' : Hid (∀ i y, i < k + 1 → ys[i]? = some y → Good hb pb al cl y) := fun i z hi hz => by
                  by_cases e : i = k
                  · subst e; rw [hyk] at hz; cases hz; exact hgy.out.2 ⟨rfl, h1, h2⟩
                  · exact HG.out i z (by omega) hz
                clear bad
                go_wp2_with fail
                go_roundg (gk - 1)
                case measure => omega
                case rel => exact ⟨k + 1, by omega, by go_num, rfl, HG'.out⟩
              · have d2 : decide (hb < cj) = true := by simpa using h2
                obtain rfl : mb = false := bad (fun h => h2 (hgy.out.1 h).2.2)
                clear bad
                go_wp2_with fail
                go_ret
                exact ⟨rfl, hbel⟩
            · have d1 : decide (hb < aj) = true := by simpa using h1
              obtain rfl : mb = false := bad (fun h => h1 (hgy.out.1 h).2.1)
              clear bad
              go_wp2_with fail
              all_goals
                go_ret
                exact ⟨rfl, hbel⟩
        · have hki : ¬ (k : Int) < (np : Int) := by omega
          obtain rfl : mb = true := HM.out.2 (fun y hy => by
            obtain ⟨i, hi⟩ := List.getElem?_of_mem hy
            exact HG.out i y (by have := (List.getElem?_eq_some_iff.1 hi).1; omega) hi)
          go_wp2_with fail
          go_ret
          exact ⟨rfl, hbel⟩
    · have hd : (ns % 3 != 1) = false := by simp [h3]
      have hdr : hb < rs := by omega
      have hdd : decide (hb < rs) = true := by simpa using hrb
      obtain rfl : mb = false := by
        cases mb
        · rfl
        · exact absurd (hm.1 rfl).2.1 hrb
      clear hm bp ba bc
      go_enter Yba.func7, Yba.ntmps7
      go_wp2_with fail
      rw [← hw3]
      go_ret
      exact ⟨rfl, hbel⟩
  · have hd : (ns % 3 != 1) = true := by simp [h3]
    obtain rfl : mb = false := by
      cases mb
      · rfl
      · exact absurd (hm.1 rfl).1 h3
    clear hm bp ba bc
    go_enter Yba.func7, Yba.ntmps7
    go_wp2_with fail
    rw [← hw3]
    go_ret
    exact ⟨rfl, hbel⟩
end Go.Proofs.Ybulkbarg

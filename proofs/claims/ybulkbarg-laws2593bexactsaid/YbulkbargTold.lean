/- (*Agent).told. -/
import Derived.Test.YbulkbargModel
namespace Go.Proofs.Ybulkbarg
open Go.ChangeShapes Go.WideShapes Go.ChangeAt Go.RowKit
set_option linter.unusedVariables false

/-- The cells of the agent: the watched at 11, the links at 36. -/
def ac (MW ML : Nat) : Array Value :=
  #[.string ⟨#[]⟩, .int .u64 0, .slice none 0 0, .nilIface, .nilFunc, .nilFunc, .int .i32 0, .int .u32 0, .int .u64 0, .map none, .map none, .map (some MW), .slice none 0 0, .map none, .map none, .int .i32 0, .int .u32 0, .map none, .slice none 0 0, .pointer none, .slice none 0 0, .bool false, .pointer none, .int .u64 0, .map none, .int .i64 0, .int .i64 0, .map none, .map none, .pointer none, .map none, .bool false, .bool false, .pointer none, .slice none 0 0, .pointer none, .map (some ML), .slice none 0 0, .int .u64 0, .int .u64 0]
/-- The cells of a link. -/
def lk (hb rs : Int) : Array Value := #[.int .u64 0, .int .u64 0, .int .u64 hb, .int .u64 rs, .bool false, .bool false, .pointer none]
/-- The cells of a round. -/
def rd (v : Value) (MA : Nat) : Array Value := #[.int .u64 0, .pointer none, .slice none 0 0, v, .map (some MA), .map none]
/-- The cells of the waits. -/
def sited (y : Int) : List Value := [.string ⟨#[97]⟩, .string (nm (pick y)), .int .u64 y]
/-- The waits of a round. -/
def WaitsIn (B : Nat) (w : World) (p : Option Addr) (ys : List Int) : Prop :=
  ys ≠ [] → ∃ g, p = some ⟨g, 0, none⟩ ∧ g < B ∧ ∀ i y, ys[i]? = some y → w.cell? ⟨g, i * 3, none⟩ = some (.string ⟨#[97]⟩) ∧ w.cell? ⟨g, i * 3 + 1, none⟩ = some (.string (nm (pick y))) ∧ w.cell? ⟨g, i * 3 + 2, none⟩ = some (.int .u64 y)
theorem WaitsIn.later {B : Nat} {w w' : World} {p : Option Addr} {ys : List Int} (h : WaitsIn B w p ys) (hb : Below B w w') : WaitsIn B w' p ys := fun h0 => by
  obtain ⟨g, e, hlt, hc⟩ := h h0
  refine ⟨g, e, hlt, fun i y hy => ?_⟩
  obtain ⟨h1, h2, h3⟩ := hc i y hy
  exact ⟨(hb.cell (p := ⟨g, i * 3, none⟩) hlt).trans h1, (hb.cell (p := ⟨g, i * 3 + 1, none⟩) hlt).trans h2, (hb.cell (p := ⟨g, i * 3 + 2, none⟩) hlt).trans h3⟩

/-- What the map of the watched holds. -/
def Watched (pb : List Bool) (al cl : List Int) (g : Lit → Option Value) : Prop := ∀ j, j < 4 → g (kn j) = if pb.getD j false = true then some (wv al cl j) else none

set_option maxRecDepth 100000 in
set_option maxHeartbeats 4000000 in
theorem told_8 (A L R MW ML MA m : Nat) (hb rs : Int) (pb : List Bool) (al cl : List Int) (p : Option Addr) (np cap : Nat) (ys : List Int) (g : Lit → Option Value) (w : World) (tb : Bool)
    (hA : Box w A (ac MW ML) 65) (hL : Box w L (lk hb rs) 71) (hR : Box w R (rd (.slice p np cap) MA) 74) (hM : HasMap Yba.prog 9 w MW m g) (hg : Watched pb al cl g) (hw : WaitsIn w.heap.size w p ys) (hyl : ys.length = np) (hyb : ∀ y ∈ ys, 0 ≤ y ∧ y ≤ 255) (hn1 : np ≤ 1024) (hcap : np ≤ cap)
    (ht : tb = true ↔ rs ≤ hb ∧ ∀ y ∈ ys, pb.getD (pick y) false = true ∧ al.getD (pick y) 0 ≤ hb) :
    Calls Yba.prog 8 #[.pointer (some ⟨A, 0, none⟩), .pointer (some ⟨L, 0, none⟩), .pointer (some ⟨R, 0, none⟩)] w fun e w' => e = .returned (.bool tb) ∧ Below w.heap.size w w' := by
  have l2 : w.cell? ⟨L, 2, none⟩ = some (.int .u64 hb) := hL.cell 2 rfl
  have l3 : w.cell? ⟨L, 3, none⟩ = some (.int .u64 rs) := hL.cell 3 rfl
  have r3 : w.cell? ⟨R, 3, none⟩ = some (.slice p np cap) := hR.cell 3 rfl
  by_cases hrb : rs ≤ hb
  · have hdr : ¬ hb < rs := by omega
    have hdd : decide (hb < rs) = false := by simpa using hrb
    have HT : Hid (tb = true ↔ ∀ y ∈ ys, pb.getD (pick y) false = true ∧ al.getD (pick y) 0 ≤ hb) := by
      unfold Hid
      rw [ht]
      exact ⟨fun h => h.2, fun h => ⟨hrb, h⟩⟩
    clear ht
    go_enter Yba.func8, Yba.ntmps8
    go_wp2_with fail
    clear l2 l3 r3 hdr hdd
    go_loopg [27] np (fun gk iv wr => ∃ k : Nat, gk + k = np ∧ iv = .int .i64 (k : Int) ∧ Below w.heap.size w wr ∧ ∀ i y, i < k → ys[i]? = some y → pb.getD (pick y) false = true ∧ al.getD (pick y) 0 ≤ hb)
    case atStart => exact ⟨0, rfl, rfl, Below.refl _ _, fun i y hi => by omega⟩
    case round =>
      obtain ⟨k, hk, rfl, hbel, hgd⟩ := hrel
      have HG : Hid _ := hgd
      clear hgd
      by_cases hkn : k < np
      · have hki : (k : Int) < (np : Int) := by omega
        obtain ⟨y, hyk⟩ : ∃ y, ys[k]? = some y := ⟨_, List.getElem?_eq_getElem (by omega)⟩
        have hym := List.mem_of_getElem? hyk
        obtain ⟨y0, y1⟩ := hyb y hym
        obtain ⟨q, hp, hq, hc⟩ := (hw.later hbel) (by intro h; rw [h] at hyl; simp at hyl; omega)
        subst hp
        obtain ⟨s0, s1, s2⟩ := hc k y hyk
        have hj := pick_lt y0
        have hgj : Hid _ := hg _ hj
        have hA1 := hA.below hbel
        have hM1 := hM.below hbel
        have hzr := hbel.size
        have q1 : q < wr.heap.size := by omega
        have a11 : ∀ o, (wr.alloc o).cell? ⟨A, 11, none⟩ = some (.map (some MW)) := fun o => (hA1.alloc o).cell 11 rfl
        have a12 : ∀ o o', ((wr.alloc o).alloc o').cell? ⟨A, 11, none⟩ = some (.map (some MW)) := fun o o' => ((hA1.alloc o).alloc o').cell 11 rfl
        have hk1 := fun o => (hM1.alloc o).drew.look_ok (t := 35) (e := 67) law9 Yba.underlying35 (zero67 _) (key_nm (pick y))
        have hk2 := fun o o' => ((hM1.alloc o).alloc o').drew.look_ok (t := 35) (e := 67) law9 Yba.underlying35 (zero67 _) (key_nm (pick y))
        have bad : ¬ (pb.getD (pick y) false = true ∧ al.getD (pick y) 0 ≤ hb) → tb = false := fun h => by
          cases tb
          · rfl
          · exact absurd (HT.out.1 rfl y hym) h
        have nxt : (pb.getD (pick y) false = true ∧ al.getD (pick y) 0 ≤ hb) → ∀ i z, i < k + 1 → ys[i]? = some z → pb.getD (pick z) false = true ∧ al.getD (pick z) 0 ≤ hb := fun h i z hi hz => by
          by_cases e : i = k
          · subst e; rw [hyk] at hz; cases hz; exact h
          · exact HG.out i z (by omega) hz
        clear hc hA hM hL hR hA1 hM1 hw hg
        have hbelA : ∀ o o', Below w.heap.size w ((wr.alloc o).alloc o').drew := fun o o' => ((hbel.alloc hzr o).alloc (by simp; omega) o').drew
        by_cases hpj : pb.getD (pick y) false = true
        · have e := hgj.out
          rw [if_pos hpj] at e
          simp only [e, Option.getD_some, Option.isSome_some, wv] at hk1 hk2
          by_cases h1 : al.getD (pick y) 0 ≤ hb
          · have HN : Hid _ := nxt ⟨hpj, h1⟩
            clear bad nxt hgj e
            generalize al.getD (pick y) 0 = aj at hk1 hk2 h1
            have d1 : decide (hb < aj) = false := by simpa using h1
            go_upto_region 7 with fail
            go_region
            all_goals
              go_wp2_with fail
              go_roundg (gk - 1)
              case measure => omega
              case rel => exact ⟨k + 1, by omega, by go_num, hbelA _ _, HN.out⟩
          · obtain rfl : tb = false := bad (fun h => h1 h.2)
            clear bad nxt hgj e
            generalize al.getD (pick y) 0 = aj at hk1 hk2 h1
            have d1 : decide (hb < aj) = true := by simpa using h1
            go_upto_region 7 with fail
            go_region
            all_goals
              go_wp2_with fail
              go_ret
              exact ⟨rfl, hbelA _ _⟩
        · obtain rfl : tb = false := bad (fun h => hpj h.1)
          have e := hgj.out
          rw [if_neg hpj] at e
          simp only [e, Option.getD_none, Option.isSome_none] at hk1 hk2
          clear bad nxt hgj e
          go_upto_region 7 with fail
          go_region
          all_goals
            go_wp2_with fail
            all_goals
              go_ret
              exact ⟨rfl, hbelA _ _⟩
      · have hki : ¬ (k : Int) < (np : Int) := by omega
        obtain rfl : tb = true := HT.out.2 (fun y hy => by
          obtain ⟨i, hi⟩ := List.getElem?_of_mem hy
          exact HG.out i y (by have := (List.getElem?_eq_some_iff.1 hi).1; omega) hi)
        go_wp2_with fail
        go_ret
        exact ⟨rfl, hbel⟩
  · have hdr : hb < rs := by omega
    have hdd : decide (hb < rs) = true := by simpa using hrb
    obtain rfl : tb = false := by
      cases tb
      · rfl
      · exact absurd (ht.1 rfl).1 hrb
    clear ht
    go_enter Yba.func8, Yba.ntmps8
    go_wp2_with fail
    go_ret
    exact ⟨rfl, Below.refl _ _⟩
end Go.Proofs.Ybulkbarg

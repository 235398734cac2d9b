/- (*Agent).vouched. -/
import Derived.Test.YbulkbargTold
namespace Go.Proofs.Ybulkbarg
open Go.ChangeShapes Go.WideShapes Go.ChangeAt Go.RowKit
set_option linter.unusedVariables false

/-- A map of just m entries. -/
def HasMapN (P : Program) (k : TypeId) (w : World) (b n : Nat) (f : Lit → Option Value) (m : Nat) : Prop :=
  ∃ D : DataW Value, (w.ownsMap P k RV b n D ∧ ∀ kl, WideAt.IsKeyLit kl → Maps.has D kl = (f kl).isSome ∧ ∀ v, f kl = some v → ∀ z, D.atKey kl z = .held v) ∧ Maps.size D = m
theorem HasMapN.has {P : Program} {k : TypeId} {w : World} {b n m : Nat} {f : Lit → Option Value} (h : HasMapN P k w b n f m) : HasMap P k w b n f := by
  obtain ⟨D, h, _⟩ := h
  exact ⟨D, h.1, h.2⟩

theorem field67 (x z : Int) (W : World) : (Instr.field 67 (.agg #[.int .u64 x, .int .u64 z]) 1).run Yba.prog W = .ok (.int .u64 z) W := by kernel_rfl
theorem WaitsIn.mono {B B' : Nat} {w : World} {p : Option Addr} {ys : List Int} (h : WaitsIn B w p ys) (hb : B ≤ B') : WaitsIn B' w p ys := fun h0 => by
  obtain ⟨g, e, hlt, hc⟩ := h h0
  exact ⟨g, e, by omega, hc⟩

set_option maxRecDepth 100000 in
set_option maxHeartbeats 4000000 in
theorem vouched_6 (A R MW ML MA La m ma ml ka : Nat) (hb rs : Int) (pb : List Bool) (al cl : List Int) (p : Option Addr) (np cap : Nat) (ys : List Int) (g fl fa : Lit → Option Value) (w : World) (vb : Bool)
    (hA : Box w A (ac MW ML) 65) (hL : Box w La (lk hb rs) 71) (hR : Box w R (rd (.slice p np cap) MA) 74) (hM : HasMap Yba.prog 9 w MW m g) (hg : Watched pb al cl g)
    (hML : HasMap Yba.prog 9 w ML ml fl) (hfl : fl (ks 0) = some (.pointer (some ⟨La, 0, none⟩)))
    (hMA : HasMapN Yba.prog 9 w MA ma fa ka) (hka : ka ≤ 2) (hfa : ka = 1 → fa (ks 0) = some (.bool true) ∧ ∀ l v, fa l = some v → l = ks 0)
    (hw : WaitsIn w.heap.size w p ys) (hyl : ys.length = np) (hyb : ∀ y ∈ ys, 0 ≤ y ∧ y ≤ 255) (hn1 : np ≤ 1024) (hcap : np ≤ cap)
    (hvb : vb = true ↔ ka = 1 ∧ rs ≤ hb ∧ ∀ y ∈ ys, Good hb pb al cl y) :
    Calls Yba.prog 6 #[.pointer (some ⟨A, 0, none⟩), .pointer (some ⟨R, 0, none⟩)] w fun e w' => e = .returned (.bool vb) ∧ Below w.heap.size w w' := by
  obtain ⟨D, ⟨hown, hD⟩, hsz⟩ := hMA
  have hlen := fun ty => hown.len Yba.underlying59 ty
  rw [hsz] at hlen
  have r4 : w.cell? ⟨R, 4, none⟩ = some (.map (some MA)) := hR.cell 4 rfl
  by_cases h1 : ka = 1
  · subst h1
    obtain ⟨f1, f2⟩ := hfa rfl
    have HN : Hid (Maps.has D (ks 0) = true) := by
      have := (hD (ks 0) (ks_key 0)).1
      rw [f1] at this
      exact this
    have HO : Hid (∀ l, WideAt.IsKeyLit l → Maps.has D l = true → l = ks 0) := by
      intro l hl h
      rw [(hD l hl).1] at h
      cases h' : fa l with
      | none => rw [h'] at h; cases h
      | some v => exact f2 l v h'
    have HV : Hid (vb = true ↔ rs ≤ hb ∧ ∀ y ∈ ys, Good hb pb al cl y) := by
      unfold Hid
      rw [hvb]
      exact ⟨fun h => h.2, fun h => ⟨rfl, h⟩⟩
    have HF : Hid _ := hfl
    clear hvb hD hfa f1 f2 hfl
    have lA := hA.lt
    have lL := hL.lt
    have lR := hR.lt
    go_enter Yba.func6, Yba.ntmps6
    go_wp2_with (first | (at_range; refine wpList_range_own _ rfl _ 59 rfl 9 4 law9 Yba.underlying59 RV MA ma D rfl hown ?_; intro w0 hrg0 hg0 hs0) | go_in)
    have hbel0 : Below w.heap.size w w0 := (Below.refl _ _).grown hg0 (Nat.le_refl _) (fun k hk => by cases hk)
    clear hlen r4
    go_frame
    go_loopg [5] 1 (fun gk s5 wr => ∃ left cnt, wr.ranges Yba.prog 9 RV MA w.heap.size ma D left cnt ∧ ((gk = 1 ∧ left = Maps.has D) ∨ (gk = 0 ∧ left = (fun z => Maps.has D z && !z.sameKey (ks 0)) ∧ s5 = .pointer (some ⟨La, 0, none⟩))) ∧ Below w.heap.size w wr)
    case atStart => exact ⟨_, _, hrg0, .inl ⟨rfl, rfl⟩, hbel0⟩
    case round =>
      obtain ⟨left, cnt, hrg, hst, hbel⟩ := hrel
      clear hrg0 hg0 hs0 hbel0 hown
      have hzr := hbel.size
      rcases hst with ⟨rfl, rfl⟩ | ⟨rfl, rfl, rfl⟩
      · go_wp2_with (first | (at_next; refine wpList_next_ranges _ rfl _ rfl 9 law9 RV Value.string (fun v : Value => v) (fun key kl hk => Maps.keyOf_string_inv Yba.underlying9 hk) (fun v y hv => ⟨v, rfl⟩) MA w.heap.size ma D _ cnt rfl hrg ?_ ?_) | go_in)
        · intro hc0 hl0
          have := HN.out
          rw [hl0] at this
          cases this
        · intro x c kl0 yd yp w2 cnt2 hkey hlk hv hat hrg2 hlt hg2 hs2 hen
          obtain rfl : kl0 = ks 0 := HO.out _ (law9.key hkey) hlk
          have hbel2 : Below w.heap.size w w2 := hbel.grown hg2 hzr (fun k hk => by simp at hk; omega)
          have a36 : w2.cell? ⟨A, 36, none⟩ = some (.map (some ML)) := (hA.below hbel2).cell 36 rfl
          have hlo := (hML.below hbel2).look (t := 36) (e := 68) law9 Yba.underlying36 (zero68 w2) hkey
          rw [HF.out, Option.getD_some] at hlo
          clear hrg hlk hv hat hkey hg2
          go_wp2_with fail
          go_roundg 0
          case measure => omega
          case rel => exact ⟨_, _, hrg2, .inr ⟨rfl, rfl, rfl⟩, hbel2⟩
      · go_wp2_with (first | (at_next; refine wpList_next_ranges _ rfl _ rfl 9 law9 RV Value.string (fun v : Value => v) (fun key kl hk => Maps.keyOf_string_inv Yba.underlying9 hk) (fun v y hv => ⟨v, rfl⟩) MA w.heap.size ma D _ cnt rfl hrg ?_ ?_) | go_in)
        · intro hc0 hl0
          clear hrg hc0 hl0
          obtain ⟨tb, htb⟩ : ∃ tb : Bool, Hid (tb = true ↔ rs ≤ hb ∧ ∀ y ∈ ys, pb.getD (pick y) false = true ∧ al.getD (pick y) 0 ≤ hb) := by
            by_cases h : rs ≤ hb ∧ ∀ y ∈ ys, pb.getD (pick y) false = true ∧ al.getD (pick y) 0 ≤ hb
            · exact ⟨true, fun _ => h, fun _ => rfl⟩
            · exact ⟨false, fun e => (by cases e), fun e => absurd e h⟩
          go_wp2_with fail
          refine (told_8 A La R MW ML MA m hb rs pb al cl p np cap ys g _ tb (hA.below hbel) (hL.below hbel) (hR.below hbel) (hM.below hbel) hg ((hw.later hbel).mono hzr) hyl hyb hn1 hcap htb.out).mono ?_
          rintro e w4 ⟨rfl, hb4⟩
          have hbel4 := hbel.trans (hb4.mono hzr)
          have hz4 := hbel4.size
          clear hb4
          have r3 : w4.cell? ⟨R, 3, none⟩ = some (.slice p np cap) := (hR.below hbel4).cell 3 rfl
          cases tb with
          | false =>
            obtain rfl : vb = false := by
              cases vb
              · rfl
              · obtain ⟨h1, h2⟩ := HV.out.1 rfl
                exact absurd (htb.out.2 ⟨h1, fun y hy => ⟨(h2 y hy).1, (h2 y hy).2.1⟩⟩) (by simp)
            go_wp2_with fail
            go_ret
            exact ⟨rfl, hbel4⟩
          | true =>
            obtain ⟨hrb, hall⟩ := htb.out.1 rfl
            have HV' : Hid (vb = true ↔ ∀ y ∈ ys, cl.getD (pick y) 0 ≤ hb) := by
              unfold Hid
              rw [HV.out]
              exact ⟨fun h y hy => (h.2 y hy).2.2, fun h => ⟨hrb, fun y hy => ⟨(hall y hy).1, (hall y hy).2, h y hy⟩⟩⟩
            have HP : Hid (∀ y ∈ ys, pb.getD (pick y) false = true) := fun y hy => (hall y hy).1
            clear HV htb hall hbel hzr HN HO HF
            go_wp2_with fail
            clear r3
            go_loopg [40] np (fun gk iv wr => ∃ k : Nat, gk + k = np ∧ iv = .int .i64 (k : Int) ∧ Below w.heap.size w wr ∧ ∀ i y, i < k → ys[i]? = some y → cl.getD (pick y) 0 ≤ hb)
            case atStart => exact ⟨0, rfl, rfl, hbel4, fun i y hi => by omega⟩
            case round =>
              clear hbel4 hz4
              obtain ⟨k, hk, rfl, hbel, hgd⟩ := hrel
              have HG : Hid _ := hgd
              clear hgd
              by_cases hkn : k < np
              · have hki : (k : Int) < (np : Int) := by omega
                obtain ⟨y, hyk⟩ : ∃ y, ys[k]? = some y := ⟨_, List.getElem?_eq_getElem (by omega)⟩
                have hym := List.mem_of_getElem? hyk
                obtain ⟨y0, y1⟩ := hyb y hym
                obtain ⟨q, hp, hq, hc⟩ := (hw.later hbel) (by intro h; rw [h] at hyl; simp at hyl; omega)
                subst hp
                obtain ⟨s0, s1, s2⟩ := hc k y hyk
                have hj := pick_lt y0
                have hgj := hg _ hj
                rw [if_pos (HP.out y hym)] at hgj
                have hA1 := hA.below hbel
                have hM1 := hM.below hbel
                have hL1 := hL.below hbel
                have hfd := field67
                have hzr := hbel.size
                have q1 : q < wr.heap.size := by omega
                have a11 : ∀ o, (wr.alloc o).cell? ⟨A, 11, none⟩ = some (.map (some MW)) := fun o => (hA1.alloc o).cell 11 rfl
                have b2 : ∀ o, (wr.alloc o).cell? ⟨La, 2, none⟩ = some (.int .u64 hb) := fun o => (hL1.alloc o).cell 2 rfl
                have hk1 := fun o => (hM1.alloc o).drew.look (t := 35) (e := 67) law9 Yba.underlying35 (zero67 _) (key_nm (pick y))
                simp only [hgj, Option.getD_some, wv] at hk1
                have bad : ¬ cl.getD (pick y) 0 ≤ hb → vb = false := fun h => by
                  cases vb
                  · rfl
                  · exact absurd (HV'.out.1 rfl y hym) h
                have nxt : cl.getD (pick y) 0 ≤ hb → ∀ i z, i < k + 1 → ys[i]? = some z → cl.getD (pick z) 0 ≤ hb := fun h i z hi hz => by
                  by_cases e : i = k
                  · subst e; rw [hyk] at hz; cases hz; exact h
                  · exact HG.out i z (by omega) hz
                clear hc hA hM hL hR hA1 hM1 hL1 hw hg hML hgj
                have hbelA : ∀ o, Below w.heap.size w (wr.alloc o).drew := fun o => (hbel.alloc hzr o).drew
                by_cases h1 : cl.getD (pick y) 0 ≤ hb
                · have HN : Hid _ := nxt h1
                  clear bad nxt
                  generalize cl.getD (pick y) 0 = cj at hk1 h1
                  have d1 : decide (hb < cj) = false := by simpa using h1
                  go_upto_region 13 with fail
                  go_region
                  all_goals
                    go_wp2_with fail
                    go_roundg (gk - 1)
                    case measure => omega
                    case rel => exact ⟨k + 1, by omega, by go_num, hbelA _, HN.out⟩
                · obtain rfl : vb = false := bad h1
                  clear bad nxt
                  generalize cl.getD (pick y) 0 = cj at hk1 h1
                  have d1 : decide (hb < cj) = true := by simpa using h1
                  go_upto_region 13 with fail
                  go_region
                  all_goals
                    go_wp2_with fail
                    go_ret
                    exact ⟨rfl, hbelA _⟩
              · have hki : ¬ (k : Int) < (np : Int) := by omega
                obtain rfl : vb = true := HV'.out.2 (fun y hy => by
                  obtain ⟨i, hi⟩ := List.getElem?_of_mem hy
                  exact HG.out i y (by have := (List.getElem?_eq_some_iff.1 hi).1; omega) hi)
                go_wp2_with fail
                go_ret
                exact ⟨rfl, hbel⟩
        · intro x c kl0 yd yp w2 cnt2 hkey hlk hl2 hv hat hrg2 hlt hg2 hs2 hen
          obtain rfl := HO.out _ (law9.key hkey) hlk
          rw [WideAt.sameKey_self (ks_key 0)] at hl2
          cases hl2
  · obtain rfl : vb = false := by
      cases vb
      · rfl
      · exact absurd (hvb.1 rfl).1 h1
    have hd : ((ka : Int) != 1) = true := by simp; omega
    clear hvb
    go_enter Yba.func6, Yba.ntmps6
    go_wp2_with fail
    go_ret
    exact ⟨rfl, Below.refl _ _⟩
end Go.Proofs.Ybulkbarg

/- (*Store).apply. -/
import Derived.Test.YbulkbaooChange
import Derived.Deep.DeepCutAuto
namespace Go.Proofs.Ybulkbaoo
open Go.ChangeShapes Go.WideShapes Go.ChangeAt Go.RowKit
set_option linter.unusedVariables false

/-- A ServiceData pointer: nil, or to a box with a slice in it. -/
def Sz (w : World) (pp : Option Addr) : Prop := pp = none ∨ ∃ d p m c, pp = some ⟨d, 0, none⟩ ∧ Box w d #[.slice p m c] 59
theorem Sz.below {w w' : World} {pp : Option Addr} (h : Sz w pp) (hb : Below w.heap.size w w') : Sz w' pp := by
  rcases h with h | ⟨d, p, m, c, e, h⟩
  · exact .inl h
  · exact .inr ⟨d, p, m, c, e, h.below hb⟩

set_option maxRecDepth 100000 in
set_option maxHeartbeats 1000000 in
theorem size_11 (u s : ByteArray) (q : Int) (pp : Option Addr) (w : World) (h : Sz w pp) :
    Calls Yba.prog 11 #[.string u, .agg #[.string s, .int .u16 q, .pointer pp]] w fun e w' => ∃ z, e = .returned (.int .i64 z) ∧ Below w.heap.size w w' := by
  rcases h with rfl | ⟨d, p, m, c, rfl, hd⟩
  · go_enter Yba.func11, Yba.ntmps11
    go_wp2
    go_ret
    exact ⟨0, rfl, (Below.refl _ _).alloc (Nat.le_refl _) _⟩
  · have c0 : w.cell? ⟨d, 0, none⟩ = some (.slice p m c) := hd.cell 0 rfl
    have e1 := fun o => cell_up c0 o
    have hdl := hd.lt
    go_enter Yba.func11, Yba.ntmps11
    go_wp2
    go_region
    all_goals go_wp2
    all_goals go_ret
    all_goals exact ⟨_, rfl, ((Below.refl _ _).alloc (Nat.le_refl _) _).drew⟩

theorem count_10 (S : Nat) (cnt rc d : Int) (ev : Value) (w : World) (hS : Box w S (stc cnt rc ev) 48) :
    Calls Yba.prog 10 #[.pointer (some ⟨S, 14, none⟩), .int .i64 d] w fun e w' => e = .returned (.tuple #[]) ∧ w' = w.setCell ⟨S, 15, none⟩ (.int .i64 (wrap64 (cnt + d))) := by
  have c0 : w.cell? ⟨S, 15, none⟩ = some (.int .i64 cnt) := hS.cell 15 rfl
  have f0 := hS.free 15
  go_enter Yba.func10, Yba.ntmps10
  go_wp2
  go_end0
  exact ⟨rfl, rfl⟩
/-- A stored item: its pointer leads to a box with a slice in it. -/
def Good (w : World) (v : Value) : Prop := ∃ x0 x1 d p m c, v = .agg #[.string x0, .int .u16 x1, .pointer (some ⟨d, 0, none⟩)] ∧ Box w d #[.slice p m c] 59

theorem Ent.setCell {w : World} {ev : Value} {n : Nat} {f : Lit → Option Value} (h : Ent w ev n f) {b : Nat} {cs : Array Value} {t : TypeId} (hb : Box w b cs t) (i : Nat) (u : Value) : Ent (w.setCell ⟨b, i, none⟩ u) ev n f :=
  h.block fun k e => Below.heap_setCell _ _ _ _ (fun e' => h.ne_box hb (by rw [e, e']))

theorem get_ok (S : Nat) (ev : Value) (n : Nat) (f : Lit → Option Value) (u s : ByteArray) (w : World) (hu : IsNm u) (hs : IsNm s) (hf : ∀ v, f (kl u s) = some v → Good w v) :
    ∃ y0 y1 yp ok, Sz w yp ∧ ∀ w1, Ent w1 ev n f → w1.cell? ⟨S, 11, none⟩ = some ev → w1.cell? ⟨S, 12, none⟩ = some (.map none) →
      Calls Yba.prog 9 #[.pointer (some ⟨S, 11, none⟩), .agg #[.string u, .string s]] w1 fun e w' => e = .returned (.tuple #[.agg #[.string y0, .int .u16 y1, .pointer yp], .bool ok]) ∧ Below w1.heap.size w1 w' := by
  cases h : f (kl u s) with
  | none => exact ⟨_, _, _, _, .inl rfl, fun w1 hE c0 c1 => get_miss S ev n f u s w1 hu hs hE c0 c1 h⟩
  | some v =>
    obtain ⟨x0, x1, d, p, m, c, rfl, hd⟩ := hf v h
    exact ⟨_, _, _, _, .inr ⟨d, p, m, c, rfl, hd⟩, fun w1 hE c0 c1 => get_hit S ev n f u s w1 x0 x1 _ hu hs hE c0 c1 h⟩

set_option maxRecDepth 100000 in
set_option maxHeartbeats 1000000 in
theorem apply_6 (S : Nat) (cnt : Int) (ev : Value) (n : Nat) (f : Lit → Option Value) (u s : ByteArray) (q : Int) (pp : Option Addr) (w : World) (hu : IsNm u) (hs : IsNm s) (hn : n < 1000000) (hE : Ent w ev n f) (hS : Box w S (stc cnt 0 ev) 48) (hf : ∀ v, f (kl u s) = some v → Good w v) (hpp : Sz w pp) :
    Calls Yba.prog 6 #[.pointer (some ⟨S, 0, none⟩), .string u, .agg #[.string s, .int .u16 q, .pointer pp]] w fun e w' => e = .returned (.tuple #[]) ∧ ∃ cnt' ev', Ent w' ev' (n + 1) (turnAt f (kl u s) (left pp.isNone s q pp)) ∧ Box w' S (stc cnt' 0 ev') 48 ∧ Step S w ev w' ev' := by
  obtain ⟨y0, y1, yp, ok, hyp, hget⟩ := get_ok S ev n f u s w hu hs hf
  have hSl := hS.lt
  have hK2 : ∀ o, Box ((w.alloc o).alloc (.cells #[.string u, .string s] 66)) (w.heap.size + 1) #[.string u, .string s] 66 := fun o => by
    have := Box.new (w.alloc o) #[.string u, .string s] 66
    rwa [show (w.alloc o).heap.size = w.heap.size + 1 by simp] at this
  have hT3 : ∀ o p, Box (((w.alloc o).alloc p).alloc (.cells #[.string ⟨#[]⟩, .int .u16 0, .pointer none] 56)).drew (w.heap.size + 1 + 1) #[.string ⟨#[]⟩, .int .u16 0, .pointer none] 56 := fun o p => by
    have := Box.new ((w.alloc o).alloc p) #[.string ⟨#[]⟩, .int .u16 0, .pointer none] 56
    rw [show ((w.alloc o).alloc p).heap.size = w.heap.size + 1 + 1 by simp] at this
    exact this.drew
  go_enter Yba.func6, Yba.ntmps6
  go_wp2_with fail
  go_cut [7, 8] (fun s7 s8 wc => ∃ T, s7 = .pointer (some ⟨T, 0, none⟩) ∧ Ent wc ev n f ∧ Box wc S (stc cnt 0 ev) 48 ∧ Box wc w.heap.size #[.string s, .int .u16 q, .pointer pp] 56 ∧ Box wc (w.heap.size + 1) #[.string u, .string s] 66 ∧ Box wc T #[.string y0, .int .u16 y1, .pointer yp] 56 ∧ Below w.heap.size w wc ∧ w.heap.size ≤ T)
  case first =>
    go_region_held3 (fun w' => w'.cell? ⟨w.heap.size + 1, 0, none⟩ = some (.string u) ∧ w'.cell? ⟨w.heap.size + 1, 1, none⟩ = some (.string s)) (go_keep)
      (first | (go_at_call 9; refine (hget _ (by first | exact ((hE.alloc _).alloc _).drew | exact (((hE.alloc _).alloc _).alloc _).drew) (by first | exact ((hS.alloc _).alloc _).cell 11 rfl | exact (((hS.alloc _).alloc _).alloc _).cell 11 rfl) (by first | exact ((hS.alloc _).alloc _).cell 12 rfl | exact (((hS.alloc _).alloc _).alloc _).cell 12 rfl)).mono ?_; rintro e w1 ⟨rfl, hb1⟩; have hK1 : Box w1 (w.heap.size + 1) #[.string u, .string s] 66 := Box.below (by first | exact (hK2 _).drew | exact ((hK2 _).alloc _).drew) hb1; have g1 : w1.cell? ⟨w.heap.size + 1, 0, none⟩ = some (.string u) := hK1.cell 0 rfl; have g2 : w1.cell? ⟨w.heap.size + 1, 1, none⟩ = some (.string s) := hK1.cell 1 rfl; try (have hT1 : Box w1 (w.heap.size + 1 + 1) #[.string ⟨#[]⟩, .int .u16 0, .pointer none] 56 := Box.below (hT3 _ _) hb1; have z0 : w1.cell? ⟨w.heap.size + 1 + 1, 0, none⟩ = some (.string ⟨#[]⟩) := hT1.cell 0 rfl; have z1 : w1.cell? ⟨w.heap.size + 1 + 1, 1, none⟩ = some (.int .u16 0) := hT1.cell 1 rfl; have z2 : w1.cell? ⟨w.heap.size + 1 + 1, 2, none⟩ = some (.pointer none) := hT1.cell 2 rfl; have v0 := hT1.free 0; have v1 := hT1.free 1; have v2 := hT1.free 2)))
    all_goals (go_wp2_with fail; go_meet)
    · have hz1 := hb1.size
      simp at hz1
      refine ⟨_, rfl, (((hE.alloc _).alloc _).drew.below hb1).alloc _, (((hS.alloc _).alloc _).drew.below hb1).alloc _, ((((Box.new w _ 56).alloc _).drew).below hb1).alloc _, hK1.alloc _, Box.new w1 _ 56, ?_, by omega⟩
      exact (((((Below.refl _ w).alloc (Nat.le_refl _) _).alloc (by simp) _).drew).trans (hb1.mono (by simp; omega))).alloc (by omega) _
    · have hz1 := hb1.size
      simp at hz1
      have hT1 : Box w1 (w.heap.size + 1 + 1) #[.string ⟨#[]⟩, .int .u16 0, .pointer none] 56 := Box.below (hT3 _ _) hb1
      have hE1 : Ent w1 ev n f := ((((hE.alloc _).alloc _).alloc _).drew.below hb1)
      have hS1 : Box w1 S (stc cnt 0 ev) 48 := ((((hS.alloc _).alloc _).alloc _).drew.below hb1)
      have hA1 : Box w1 w.heap.size #[.string s, .int .u16 q, .pointer pp] 56 := (((((Box.new w _ 56).alloc _).alloc _).drew).below hb1)
      refine ⟨_, rfl, ((hE1.setCell hT1 0 _).setCell (hT1.set 0 _) 1 _).setCell ((hT1.set 0 _).set 1 _) 2 _, ?_, ?_, ?_, ((hT1.set 0 _).set 1 _).set 2 _, ?_, by omega⟩
      · exact ((hS1.other (by show S ≠ w.heap.size + 1 + 1; omega) _).other (by show S ≠ w.heap.size + 1 + 1; omega) _).other (by show S ≠ w.heap.size + 1 + 1; omega) _
      · exact ((hA1.other (by show w.heap.size ≠ w.heap.size + 1 + 1; omega) _).other (by show w.heap.size ≠ w.heap.size + 1 + 1; omega) _).other (by show w.heap.size ≠ w.heap.size + 1 + 1; omega) _
      · exact ((hK1.other (by show w.heap.size + 1 ≠ w.heap.size + 1 + 1; omega) _).other (by show w.heap.size + 1 ≠ w.heap.size + 1 + 1; omega) _).other (by show w.heap.size + 1 ≠ w.heap.size + 1 + 1; omega) _
      · exact (((((((Below.refl _ w).alloc (Nat.le_refl _) _).alloc (by simp) _).alloc (by simp; omega) _).drew.trans (hb1.mono (by simp; omega))).setCell (by show w.heap.size ≤ w.heap.size + 1 + 1; omega) _).setCell (by show w.heap.size ≤ w.heap.size + 1 + 1; omega) _).setCell (by show w.heap.size ≤ w.heap.size + 1 + 1; omega) _
  case rest =>
  obtain ⟨T, rfl, hEc, hSc, hAc, hKc, hTc, hbc, hTl⟩ := hcut
  clear hK2 hT3 hget hE hS
  have hpc : Sz wc pp := hpp.below hbc
  have hyc : Sz wc yp := hyp.below hbc
  have hTS : T ≠ S := by omega
  have hAS : w.heap.size ≠ S := by omega
  have hKS : w.heap.size + 1 ≠ S := by omega
  have a0 : wc.cell? ⟨w.heap.size, 0, none⟩ = some (.string s) := hAc.cell 0 rfl
  have a1 : wc.cell? ⟨w.heap.size, 1, none⟩ = some (.int .u16 q) := hAc.cell 1 rfl
  have a2 : wc.cell? ⟨w.heap.size, 2, none⟩ = some (.pointer pp) := hAc.cell 2 rfl
  have b0 : wc.cell? ⟨T, 0, none⟩ = some (.string y0) := hTc.cell 0 rfl
  have b1 : wc.cell? ⟨T, 1, none⟩ = some (.int .u16 y1) := hTc.cell 1 rfl
  have b2 : wc.cell? ⟨T, 2, none⟩ = some (.pointer yp) := hTc.cell 2 rfl
  go_wp2_with fail
  go_cut [] (fun wd => ∃ cnt', Ent wd ev n f ∧ Box wd S (stc cnt' 0 ev) 48 ∧ Box wd w.heap.size #[.string s, .int .u16 q, .pointer pp] 56 ∧ Box wd (w.heap.size + 1) #[.string u, .string s] 66 ∧ Step S w ev wd ev)
  case first =>
    go_region_held3 (fun w' => w'.cell? ⟨w.heap.size, 0, none⟩ = some (.string s) ∧ w'.cell? ⟨w.heap.size, 1, none⟩ = some (.int .u16 q) ∧ w'.cell? ⟨w.heap.size, 2, none⟩ = some (.pointer pp) ∧ w'.cell? ⟨T, 0, none⟩ = some (.string y0) ∧ w'.cell? ⟨T, 1, none⟩ = some (.int .u16 y1) ∧ w'.cell? ⟨T, 2, none⟩ = some (.pointer yp)) (go_keep)
      (first | (go_at_call 11; refine (size_11 _ _ _ _ _ ?_).mono ?_; (first | exact hpc.below ((Below.refl _ wc).drew) | exact Sz.below hyc hcum); rintro e w1 ⟨z, rfl, hb1⟩; have hcum : Below wc.heap.size wc w1 := (by first | exact hcum.trans (hb1.mono hcum.size) | exact ((Below.refl _ wc).drew).trans hb1); have hA1 := hAc.below hcum; have hT1 := hTc.below hcum; have a0 : w1.cell? ⟨w.heap.size, 0, none⟩ = some (.string s) := hA1.cell 0 rfl; have a1 : w1.cell? ⟨w.heap.size, 1, none⟩ = some (.int .u16 q) := hA1.cell 1 rfl; have a2 : w1.cell? ⟨w.heap.size, 2, none⟩ = some (.pointer pp) := hA1.cell 2 rfl; have b0 : w1.cell? ⟨T, 0, none⟩ = some (.string y0) := hT1.cell 0 rfl; have b1 : w1.cell? ⟨T, 1, none⟩ = some (.int .u16 y1) := hT1.cell 1 rfl; have b2 : w1.cell? ⟨T, 2, none⟩ = some (.pointer yp) := hT1.cell 2 rfl) | (go_at_call 10; refine (count_10 S cnt 0 _ ev _ ?_).mono ?_; exact hSc.below hcum; rintro e w3 ⟨rfl, hw3⟩; have hA3 : Box w3 w.heap.size #[.string s, .int .u16 q, .pointer pp] 56 := (by rw [hw3]; exact (hAc.below hcum).other hAS _); have hT3 : Box w3 T #[.string y0, .int .u16 y1, .pointer yp] 56 := (by rw [hw3]; exact (hTc.below hcum).other hTS _); have hS3 : ∃ cnt', Box w3 S (stc cnt' 0 ev) 48 := ⟨_, (by rw [hw3]; exact (hSc.below hcum).set 15 _)⟩; have hK3 : Box w3 (w.heap.size + 1) #[.string u, .string s] 66 := (by rw [hw3]; exact (hKc.below hcum).other hKS _); have hE3 : Ent w3 ev n f := (by rw [hw3]; exact (hEc.below hcum).setCell (hSc.below hcum) 15 _); have hst3 : Step S w ev w3 ev := (by rw [hw3]; exact (Step.of_below ev (hbc.trans (hcum.mono hbc.size))).trans (Step.set _ ev 15 _)); clear hw3; have a0 : w3.cell? ⟨w.heap.size, 0, none⟩ = some (.string s) := hA3.cell 0 rfl; have a1 : w3.cell? ⟨w.heap.size, 1, none⟩ = some (.int .u16 q) := hA3.cell 1 rfl; have a2 : w3.cell? ⟨w.heap.size, 2, none⟩ = some (.pointer pp) := hA3.cell 2 rfl; have b0 : w3.cell? ⟨T, 0, none⟩ = some (.string y0) := hT3.cell 0 rfl; have b1 : w3.cell? ⟨T, 1, none⟩ = some (.int .u16 y1) := hT3.cell 1 rfl; have b2 : w3.cell? ⟨T, 2, none⟩ = some (.pointer yp) := hT3.cell 2 rfl))
    all_goals
      go_wp2_with fail
      go_meet
      obtain ⟨cnt', hS3⟩ := hS3
      exact ⟨cnt', hE3, hS3, hA3, hK3, hst3⟩
  case rest =>
  obtain ⟨cnt', hEd, hSd, hAd, hKd, hstd⟩ := hcut
  clear a0 a1 a2 b0 b1 b2 hEc hSc hAc hKc hTc hpc hyc
  have a0 : wc.cell? ⟨w.heap.size, 0, none⟩ = some (.string s) := hAd.cell 0 rfl
  have a1 : wc.cell? ⟨w.heap.size, 1, none⟩ = some (.int .u16 q) := hAd.cell 1 rfl
  have a2 : wc.cell? ⟨w.heap.size, 2, none⟩ = some (.pointer pp) := hAd.cell 2 rfl
  have b0 : wc.cell? ⟨w.heap.size + 1, 0, none⟩ = some (.string u) := hKd.cell 0 rfl
  have b1 : wc.cell? ⟨w.heap.size + 1, 1, none⟩ = some (.string s) := hKd.cell 1 rfl
  cases pp with
  | none =>
    go_wp2_with fail
    go_region_held3 (fun w' => w'.cell? ⟨w.heap.size + 1, 0, none⟩ = some (.string u) ∧ w'.cell? ⟨w.heap.size + 1, 1, none⟩ = some (.string s)) (go_keep)
      (first | (go_at_call 12; refine (delete_12 S cnt' 0 ev n f u s _ hu hs hn hEd.drew hSd.drew).mono ?_; rintro e w4 ⟨rfl, ev4, hE4, hS4, hst4⟩; have hK4 : Box w4 (w.heap.size + 1) #[.string u, .string s] 66 := hKd.drew.block (hst4.block _ hKd.lt hKS (hEd.ne_box hKd)); have b0 : w4.cell? ⟨w.heap.size + 1, 0, none⟩ = some (.string u) := hK4.cell 0 rfl; have b1 : w4.cell? ⟨w.heap.size + 1, 1, none⟩ = some (.string s) := hK4.cell 1 rfl))
    all_goals
      go_wp2
      go_end0
      exact ⟨rfl, cnt', ev4, hE4, hS4, hstd.trans ((Step.of_below ev ((Below.refl _ wc).drew)).trans hst4)⟩
  | some a =>
    go_wp2_with fail
    go_region_held3 (fun w' => w'.cell? ⟨w.heap.size + 1, 0, none⟩ = some (.string u) ∧ w'.cell? ⟨w.heap.size + 1, 1, none⟩ = some (.string s) ∧ w'.cell? ⟨w.heap.size, 0, none⟩ = some (.string s) ∧ w'.cell? ⟨w.heap.size, 1, none⟩ = some (.int .u16 q) ∧ w'.cell? ⟨w.heap.size, 2, none⟩ = some (.pointer (some a))) (go_keep)
      (first | (go_at_call 13; refine (set_13 S cnt' 0 ev n f u s _ s q (some a) hu hs hn hEd.drew hSd.drew).mono ?_; rintro e w4 ⟨rfl, ev4, hE4, hS4, hst4⟩; have hK4 : Box w4 (w.heap.size + 1) #[.string u, .string s] 66 := hKd.drew.block (hst4.block _ hKd.lt hKS (hEd.ne_box hKd)); have hA4 : Box w4 w.heap.size #[.string s, .int .u16 q, .pointer (some a)] 56 := hAd.drew.block (hst4.block _ hAd.lt hAS (hEd.ne_box hAd)); have b0 : w4.cell? ⟨w.heap.size + 1, 0, none⟩ = some (.string u) := hK4.cell 0 rfl; have b1 : w4.cell? ⟨w.heap.size + 1, 1, none⟩ = some (.string s) := hK4.cell 1 rfl; have a0 : w4.cell? ⟨w.heap.size, 0, none⟩ = some (.string s) := hA4.cell 0 rfl; have a1 : w4.cell? ⟨w.heap.size, 1, none⟩ = some (.int .u16 q) := hA4.cell 1 rfl; have a2 : w4.cell? ⟨w.heap.size, 2, none⟩ = some (.pointer (some a)) := hA4.cell 2 rfl))
    all_goals
      go_wp2
      go_end0
      exact ⟨rfl, cnt', ev4, hE4, hS4, hstd.trans ((Step.of_below ev ((Below.refl _ wc).drew)).trans hst4)⟩

end Go.Proofs.Ybulkbaoo

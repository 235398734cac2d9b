/- (*Startup).advance. -/
import Derived.Test.YbulkbapcComplete
namespace Go.Proofs.Ybulkbapc
open Go.ChangeShapes Go.WideShapes Go.ChangeAt Go.RowKit
set_option linter.unusedVariables false

theorem But.drewN {K : Nat → Prop} {w w' : World} (h : But K w w') (n : Nat) : But K w (w'.drewN n) := ⟨h.os, h.tape, h.output, h.size, h.block⟩

/-- The cells of a StartupStep. -/
def tc (r : Int) (b1 b2 : Bool) (a : Nat) : Array Value := #[.int .i64 r, .bool b1, .bool b2, .float .f64 a]

set_option maxRecDepth 100000 in
set_option maxHeartbeats 2000000 in
theorem advance_5 (S C N c0 c1 c2 d0 d1 d2 : Nat) (f rd ph nk cn cnt cnt2 ph2 : Int) (q adj M sb m mm : Nat) (g : Lit → Option Value) (rs rs2 hs : List Bool) (ds : List Nat) (tm x b1 b2 : Bool) (RR : Int) (AA : Nat) (w : World)
    (r0 : -9223372036854775808 ≤ rd) (r1 : rd ≤ 9223372036854775807) (n0 : -9223372036854775808 ≤ nk) (n1 : nk ≤ 9223372036854775807) (hnk : nk ≠ rd)
    (hS : Box w S (sc m f q rd ph adj M sb m) 36) (hM : HasMap Yba.prog 2 w M mm g) (hgc : g (kl rd) = some (.pointer (some ⟨C, 0, none⟩))) (hgn : g (kl nk) = some (.pointer (some ⟨N, 0, none⟩))) (hgo : ∀ l v, g l = some v → l = kl rd ∨ l = kl nk)
    (hC : Box w C (rc c0 c1 c2 m cnt) 29) (hR : Box w c2 (bools rs) 4)
    (hN : Box w N (rc d0 d1 d2 m cn) 29) (hD0 : Box w d0 (floats ds) 25) (hD1 : Box w d1 (bools hs) 4) (hCN : C ≠ N) (h21 : c2 ≠ d1)
    (hrs : rs.length = m) (hds : ds.length = m) (hhs : hs.length = m) (hfin : ∀ x ∈ ds, Fin64 x) (hadj : Fin64 adj) (hm : m ≤ 1000)
    (f0 : 0 ≤ f) (f1 : f ≤ 1000) (p0 : 0 ≤ ph) (p1 : ph ≤ 3) (t0 : 0 ≤ cnt) (t1 : cnt ≤ 1000) (hx : rs[q]? = some x)
    (hb1 : b1 = decide (ph = 2 ∧ (tm = true ∨ f < cnt))) (hc2 : cnt2 = if b1 = true ∧ x = false then cnt + 1 else cnt) (hp2 : ph2 = if b1 = true then 3 else ph) (hb2 : b2 = decide (ph2 = 3 ∧ (m : Int) - f ≤ cnt2)) (hrs2 : rs2 = if b1 = true then rs.set q true else rs) (hRR : RR = if b1 = true ∨ b2 = true then rd else 0) (hAA : AA = if b2 = true then adj else 0) :
    Calls Yba.prog 5 #[.pointer (some ⟨S, 0, none⟩), .bool tm] w fun e w' => e = .returned (.agg (tc RR b1 b2 AA)) ∧
      Box w' C (rc c0 c1 c2 m cnt2) 29 ∧ Box w' c2 (bools rs2) 4 ∧
      (b2 = false → Box w' S (sc m f q rd ph2 adj M sb m) 36 ∧ HasMap Yba.prog 2 w' M mm g ∧ Box w' d0 (floats ds) 25) ∧
      (b2 = true → Box w' S (sc m f q (wrap64 (rd + 1)) 0 adj M sb m) 36 ∧ HasMap Yba.prog 2 w' M mm (turnAt g (kl rd) none) ∧ ∃ ds', Upto adj hs ds m ds' ∧ Box w' d0 (floats ds') 25) ∧
      But (fun k => k = S ∨ k = M ∨ k = d0 ∨ k = C ∨ k = c2) w w' := by
  have hsf := fun w a x m => run_store Yba.prog w a (.float .f64 x) m rfl
  have hSl := hS.lt
  have hCl := hC.lt
  have hRl := hR.lt
  have hSC := hS.ne hC (by decide)
  have hSR := hS.ne hR (by decide)
  have hST : S ≠ w.heap.size := by omega
  have hT0 := Box.new w (tc 0 false false 0) 38
  have hS0 := hS.alloc (.cells (tc 0 false false 0) 38)
  have hM0 := hM.alloc (.cells (tc 0 false false 0) 38)
  have hC0 := hC.alloc (.cells (tc 0 false false 0) 38)
  have hR0 := hR.alloc (.cells (tc 0 false false 0) 38)
  have hB0 : But (fun k => k = S ∨ k = M ∨ k = d0 ∨ k = C ∨ k = c2) w (w.alloc (.cells (tc 0 false false 0) 38)) := (But.refl _ w).alloc _
  have a10 : ∀ o, (w.alloc o).cell? ⟨S, 10, none⟩ = some (.int .i64 rd) := fun o => (hS.alloc o).cell 10 rfl
  have a11 : ∀ o, (w.alloc o).cell? ⟨S, 11, none⟩ = some (.int .u8 ph) := fun o => (hS.alloc o).cell 11 rfl
  have a1 : ∀ o, (w.alloc o).cell? ⟨S, 1, none⟩ = some (.int .i64 f) := fun o => (hS.alloc o).cell 1 rfl
  have a8 : ∀ o, (w.alloc o).cell? ⟨S, 8, none⟩ = some (.int .i64 q) := fun o => (hS.alloc o).cell 8 rfl
  have a3 : ∀ o, (w.alloc o).cell? ⟨C, 3, none⟩ = some (.int .i64 cnt) := fun o => (hC.alloc o).cell 3 rfl
  have HX : Hid (rs[q]? = some x ∧ rs.length = m) := ⟨hx, hrs⟩
  have HC2 : Hid _ := hc2
  have HP2 : Hid _ := hp2
  have HB2 : Hid _ := hb2
  have HB1 : Hid _ := hb1
  have HRR : Hid _ := hRR
  have HAA : Hid _ := hAA
  have HRS : Hid _ := hrs2
  clear hx hrs hc2 hp2 hb2 hb1 hRR hAA hrs2
  obtain ⟨R0, hR00⟩ : ∃ R0, R0 = if b1 = true then rd else 0 := ⟨_, rfl⟩
  have HR0 : Hid _ := hR00
  clear hR00
  go_enter Yba.func5, Yba.ntmps5
  go_upto_region 2 with (go_at_call 9; go_must (refine (of_9 S C _ _ _ rd _ _ M _ _ mm g _ r0 r1 hS0 hM0 hgc).mono ?_); rintro e w' ⟨rfl, rfl⟩)
  go_cut [31] (fun s31 wc => s31 = .bool b1 ∧ Box wc w.heap.size (tc 0 false false 0) 38 ∧ Box wc S (sc m f q rd ph adj M sb m) 36 ∧ Box wc C (rc c0 c1 c2 m cnt) 29 ∧ Box wc c2 (bools rs) 4 ∧ But (fun k => k = S ∨ k = C ∨ k = c2) w wc)
  case first =>
    have hb1 := HB1.out
    by_cases hph : ph = 2
    · subst hph
      cases tm with
      | true =>
        obtain rfl : b1 = true := by simpa using hb1
        clear hb1 HB1 HB2 HP2 HC2 HRR HAA HR0 HRS
        go_quiet (fail)
        go_wp2_with fail
        go_meet
        exact ⟨rfl, hT0, hS0, hC0, hR0, ((But.refl _ w).alloc _).drewN _⟩
      | false =>
        by_cases hfc : f < cnt
        · obtain rfl : b1 = true := by simpa [hfc] using hb1
          clear hb1 HB1 HB2 HP2 HC2 HRR HAA HR0 HRS
          go_quiet (fail)
          go_wp2_with fail
          go_meet
          exact ⟨rfl, hT0, hS0, hC0, hR0, ((But.refl _ w).alloc _).drewN _⟩
        · obtain rfl : b1 = false := by simpa [hfc] using hb1
          have hd : decide (f < cnt) = false := by simpa using hfc
          clear hb1 HB1 HB2 HP2 HC2 HRR HAA HR0 HRS hfc
          go_quiet (fail)
          go_wp2_with fail
          go_meet
          exact ⟨rfl, hT0, hS0, hC0, hR0, ((But.refl _ w).alloc _).drewN _⟩
    · obtain rfl : b1 = false := by simpa [hph] using hb1
      have hd : (ph == 2) = false := by simpa using hph
      have hdd : decide (ph = 2) = false := by simpa using hph
      clear hb1 HB1 HB2 HP2 HC2 HRR HAA HR0 HRS
      go_quiet (fail)
      go_wp2_with fail
      go_meet
      exact ⟨rfl, hT0, hS0, hC0, hR0, ((But.refl _ w).alloc _).drewN _⟩
  case rest =>
  obtain ⟨rfl, hT1, hS1, hC1, hR1, hB1⟩ := hcut
  clear hT0 hS0 hM0 hC0 hR0 hB0 a10 a11 a1 a8 a3
  have a8 : wc.cell? ⟨S, 8, none⟩ = some (.int .i64 q) := hS1.cell 8 rfl
  go_upto_if 31 with fail
  go_cut [] (fun wc => Box wc w.heap.size (tc R0 b1 false 0) 38 ∧ Box wc S (sc m f q rd ph2 adj M sb m) 36 ∧ Box wc C (rc c0 c1 c2 m cnt2) 29 ∧ Box wc c2 (bools rs2) 4 ∧ But (fun k => k = S ∨ k = C ∨ k = c2) w wc)
  case first =>
    have hc2 := HC2.out
    have hp2 := HP2.out
    have hr0 := HR0.out
    have hrs2 := HRS.out
    cases b1 with
    | false =>
      simp at hc2 hp2 hr0 hrs2
      subst hc2
      subst hp2
      subst hr0
      subst hrs2
      clear HC2 HP2 HB1 HB2 HRR HAA HR0 HRS
      go_wp2_with fail
      go_meet
      exact ⟨hT1, hS1, hC1, hR1, hB1⟩
    | true =>
      simp at hc2 hp2 hr0 hrs2
      subst hp2
      obtain rfl := hr0.symm
      subst hrs2
      clear HC2 HP2 HB1 HB2 HRR HAA HR0 HRS
      go_wp2_with fail
      refine (hold_10 C c0 c1 c2 m cnt q rs x _ hC1 hR1 HX.out.1 HX.out.2 t0 t1 hm).mono ?_
      rintro e w2 ⟨rfl, hC2, hR2, hB2⟩
      have hS2 := hS1.but hB2 (by rintro (e | e); exact hSC e; exact hSR e)
      have hT2 := hT1.but hB2 (by rintro (e | e) <;> omega)
      have b10 : w2.cell? ⟨S, 10, none⟩ = some (.int .i64 rd) := hS2.cell 10 rfl
      have b11 : w2.cell? ⟨S, 11, none⟩ = some (.int .u8 ph) := hS2.cell 11 rfl
      have v11 := hS2.free 11
      have hS3 := hS2.set 11 (.int .u8 3)
      have hT3 := hT2.other (a := ⟨S, 11, none⟩) (fun e => hST e.symm) (.int .u8 3)
      have c10 : (w2.setCell ⟨S, 11, none⟩ (.int .u8 3)).cell? ⟨S, 10, none⟩ = some (.int .i64 rd) := hS3.cell 10 rfl
      have u0 : (w2.setCell ⟨S, 11, none⟩ (.int .u8 3)).cell? ⟨w.heap.size, 0, none⟩ = some (.int .i64 0) := hT3.cell 0 rfl
      have v0 := hT3.free 0
      have hT4 := hT3.set 0 (.int .i64 rd)
      have u1 : ((w2.setCell ⟨S, 11, none⟩ (.int .u8 3)).setCell ⟨w.heap.size, 0, none⟩ (.int .i64 rd)).cell? ⟨w.heap.size, 1, none⟩ = some (.bool false) := hT4.cell 1 rfl
      have v1 := hT4.free 1
      go_wp2_with fail
      go_meet
      have e : (if x = true then cnt else cnt + 1) = cnt2 := by rw [hc2]; cases x <;> rfl
      rw [e] at hC2
      refine ⟨hT4.set 1 (.bool true), ?_, ?_, ?_, ?_⟩
      · exact (hS3.other (a := ⟨w.heap.size, 0, none⟩) hST (.int .i64 rd)).other (a := ⟨w.heap.size, 1, none⟩) hST (.bool true)
      · exact ((hC2.other (a := ⟨S, 11, none⟩) (fun e => hSC e.symm) _).other (a := ⟨w.heap.size, 0, none⟩) (by show C ≠ w.heap.size; omega) _).other (a := ⟨w.heap.size, 1, none⟩) (by show C ≠ w.heap.size; omega) _
      · exact ((hR2.other (a := ⟨S, 11, none⟩) (fun e => hSR e.symm) _).other (a := ⟨w.heap.size, 0, none⟩) (by show c2 ≠ w.heap.size; omega) _).other (a := ⟨w.heap.size, 1, none⟩) (by show c2 ≠ w.heap.size; omega) _
      · have h1 : But (fun k => k = S ∨ k = C ∨ k = c2) w (w2.setCell ⟨S, 11, none⟩ (.int .u8 3)) := (hB1.trans (hB2.mono (fun k h => .inr h))).setCell (.inl rfl) _
        refine ⟨h1.os, h1.tape, h1.output, by have := h1.size; simpa [World.setCell] using this, fun k hk hn => ?_⟩
        rw [Below.heap_setCell _ _ _ _ (by show k ≠ w.heap.size; omega), Below.heap_setCell _ _ _ _ (by show k ≠ w.heap.size; omega)]
        exact h1.block k hk hn
  case rest =>
  obtain ⟨hT3, hS3, hC3, hR3, hB3⟩ := hcut
  clear hT1 hS1 hC1 hR1 hB1 a8
  have e11 : wc.cell? ⟨S, 11, none⟩ = some (.int .u8 ph2) := hS3.cell 11 rfl
  have e3 : wc.cell? ⟨C, 3, none⟩ = some (.int .i64 cnt2) := hC3.cell 3 rfl
  have e0 : wc.cell? ⟨S, 0, none⟩ = some (.int .i64 m) := hS3.cell 0 rfl
  have e1 : wc.cell? ⟨S, 1, none⟩ = some (.int .i64 f) := hS3.cell 1 rfl
  go_upto_region 6 with fail
  go_cut [69] (fun s69 wd => s69 = .bool b2 ∧ Box wd w.heap.size (tc R0 b1 false 0) 38 ∧ Box wd S (sc m f q rd ph2 adj M sb m) 36 ∧ Box wd C (rc c0 c1 c2 m cnt2) 29 ∧ Box wd c2 (bools rs2) 4 ∧ But (fun k => k = S ∨ k = C ∨ k = c2) w wd)
  case first =>
    have hb2 := HB2.out
    by_cases hph : ph2 = 3
    · subst hph
      by_cases hfc : (m : Int) - f ≤ cnt2
      · obtain rfl : b2 = true := by simpa [hfc] using hb2
        clear hb2 HB1 HB2 HP2 HC2 HRR HAA HR0 HRS
        go_quiet (fail)
        go_wp2_with fail
        go_meet
        exact ⟨rfl, hT3, hS3, hC3, hR3, hB3.drewN _⟩
      · obtain rfl : b2 = false := by simpa [hfc] using hb2
        have hd : decide ((m : Int) - f ≤ cnt2) = false := by simpa using hfc
        clear hb2 HB1 HB2 HP2 HC2 HRR HAA HR0 HRS hfc
        go_quiet (fail)
        go_wp2_with fail
        go_meet
        exact ⟨rfl, hT3, hS3, hC3, hR3, hB3.drewN _⟩
    · obtain rfl : b2 = false := by simpa [hph] using hb2
      have hd : (ph2 == 3) = false := by simpa using hph
      have hdd : decide (ph2 = 3) = false := by simpa using hph
      clear hb2 HB1 HB2 HP2 HC2 HRR HAA HR0 HRS
      go_quiet (fail)
      go_wp2_with fail
      go_meet
      exact ⟨rfl, hT3, hS3, hC3, hR3, hB3.drewN _⟩
  case rest =>
  clear e11 e3 e0 e1 hT3 hS3 hC3 hR3 hB3
  obtain ⟨rfl, hT4, hS4, hC4, hR4, hB4⟩ := hcut
  have hMl := hM.lt
  have h0l := hD0.lt
  have h1l := hD1.lt
  have hNl := hN.lt
  have hSM := hS.ne_map hM
  have hCM := hC.ne_map hM
  have hRM := hR.ne_map hM
  have hM4 : HasMap Yba.prog 2 wc M mm g := hM.but hB4 (by rintro (e | e | e); exact hSM e.symm; exact hCM e.symm; exact hRM e.symm)
  have hN4 := hN.but hB4 (by rintro (e | e | e); exact hS.ne hN (by decide) e.symm; exact hCN e.symm; exact hN.ne hR (by decide) e)
  have hD04 := hD0.but hB4 (by rintro (e | e | e); exact hS.ne hD0 (by decide) e.symm; exact hC.ne hD0 (by decide) e.symm; exact hR.ne hD0 (by decide) e.symm)
  have hD14 := hD1.but hB4 (by rintro (e | e | e); exact hS.ne hD1 (by decide) e.symm; exact hC.ne hD1 (by decide) e.symm; exact h21 e.symm)
  have hB4' : But (fun k => k = S ∨ k = M ∨ k = d0 ∨ k = C ∨ k = c2) w wc := hB4.mono (by rintro k (e | e | e); exact .inl e; exact .inr (.inr (.inr (.inl e))); exact .inr (.inr (.inr (.inr e))))
  have hd0C := hC.ne hD0 (by decide)
  have hd0R := hR.ne hD0 (by decide)
  have hd0S := hS.ne hD0 (by decide)
  clear HC2 HP2 HB1 HB2 hS hM hC hR hN hD0 hD1
  have t0' : wc.cell? ⟨w.heap.size, 0, none⟩ = some (.int .i64 R0) := hT4.cell 0 rfl
  have t1' : wc.cell? ⟨w.heap.size, 1, none⟩ = some (.bool b1) := hT4.cell 1 rfl
  have t2' : wc.cell? ⟨w.heap.size, 2, none⟩ = some (.bool false) := hT4.cell 2 rfl
  have t3' : wc.cell? ⟨w.heap.size, 3, none⟩ = some (.float .f64 0) := hT4.cell 3 rfl
  have v0' := hT4.free 0
  have v1' := hT4.free 1
  have v2' := hT4.free 2
  have v3' := hT4.free 3
  go_upto_if 69 with fail
  cases b2 with
  | false =>
    go_wp2_with fail
    have hr : RR = R0 := by rw [HRR.out, HR0.out]; simp
    have ha : AA = 0 := by rw [HAA.out]; simp
    subst hr
    subst ha
    have hT5 := (((hT4.set 0 (.int .i64 RR)).set 1 (.bool b1)).set 2 (.bool false)).set 3 (.float .f64 0)
    have z0 := hT5.cell 0 (v := .int .i64 RR) rfl
    have z1 := hT5.cell 1 (v := .bool b1) rfl
    have z2 := hT5.cell 2 (v := .bool false) rfl
    have z3 := hT5.cell 3 (v := .float .f64 0) rfl
    have ot : ∀ {b : Nat} {cs : Array Value} {t : TypeId}, b < w.heap.size → Box wc b cs t → Box ((((wc.setCell ⟨w.heap.size, 0, none⟩ (.int .i64 RR)).setCell ⟨w.heap.size, 1, none⟩ (.bool b1)).setCell ⟨w.heap.size, 2, none⟩ (.bool false)).setCell ⟨w.heap.size, 3, none⟩ (.float .f64 0)) b cs t := fun hb h =>
      (((h.other (by show _ ≠ w.heap.size; omega) _).other (by show _ ≠ w.heap.size; omega) _).other (by show _ ≠ w.heap.size; omega) _).other (by show _ ≠ w.heap.size; omega) _
    refine bodyPost_ret (v := .agg (tc RR b1 false 0)) (by simp [results, Yba.results5, go_sem, z0, z1, z2, z3]; rfl) rfl ⟨rfl, ot hCl hC4, ot hRl hR4, ?_, ?_⟩
    · exact ⟨ot hSl hS4, (((hM4.setCell (by show M ≠ w.heap.size; omega) _).setCell (by show M ≠ w.heap.size; omega) _).setCell (by show M ≠ w.heap.size; omega) _).setCell (by show M ≠ w.heap.size; omega) _, ot h0l hD04⟩
    · refine ⟨hB4'.os, hB4'.tape, hB4'.output, by have := hB4'.size; simpa [World.setCell] using this, fun k hk hn => ?_⟩
      rw [Below.heap_setCell _ _ _ _ (by show k ≠ w.heap.size; omega), Below.heap_setCell _ _ _ _ (by show k ≠ w.heap.size; omega), Below.heap_setCell _ _ _ _ (by show k ≠ w.heap.size; omega), Below.heap_setCell _ _ _ _ (by show k ≠ w.heap.size; omega)]
      exact hB4'.block k hk hn
  | true =>
    have s10' : wc.cell? ⟨S, 10, none⟩ = some (.int .i64 rd) := hS4.cell 10 rfl
    have s13' : wc.cell? ⟨S, 13, none⟩ = some (.float .f64 adj) := hS4.cell 13 rfl
    go_upto_region 7 with fail
    go_cut [] (fun we => Box we w.heap.size (tc rd b1 true adj) 38 ∧ Box we S (sc m f q rd ph2 adj M sb m) 36 ∧ (∀ k, k < w.heap.size → we.heap[k]? = wc.heap[k]?) ∧ we.heap.size = wc.heap.size ∧ we.os = wc.os ∧ we.tape = wc.tape ∧ we.output = wc.output)
    case first =>
      go_region
      all_goals
        go_wp2_with fail
        go_meet
        refine ⟨(((hT4.set 0 (.int .i64 rd)).set 2 (.bool true)).set 3 (.float .f64 adj)).drew, (((hS4.other (a := ⟨w.heap.size, 0, none⟩) hST _).other (a := ⟨w.heap.size, 2, none⟩) hST _).other (a := ⟨w.heap.size, 3, none⟩) hST _).drew, fun k hk => ?_, by simp [World.setCell], rfl, rfl, rfl⟩
        show (((wc.setCell ⟨w.heap.size, 0, none⟩ (.int .i64 rd)).setCell ⟨w.heap.size, 2, none⟩ (.bool true)).setCell ⟨w.heap.size, 3, none⟩ (.float .f64 adj)).heap[k]? = _
        rw [Below.heap_setCell _ _ _ _ (by show k ≠ w.heap.size; omega), Below.heap_setCell _ _ _ _ (by show k ≠ w.heap.size; omega), Below.heap_setCell _ _ _ _ (by show k ≠ w.heap.size; omega)]
    case rest =>
    obtain ⟨hT5, hS5, hbk, hz5, ho5, ht5, hu5⟩ := hcut
    have hC5 := hC4.block (hbk C hCl)
    have hR5 := hR4.block (hbk c2 hRl)
    have hN5 := hN4.block (hbk N hNl)
    have hD05 := hD04.block (hbk d0 h0l)
    have hD15 := hD14.block (hbk d1 h1l)
    have hM5 := hM4.block (hbk M hMl)
    have hB5 : But (fun k => k = S ∨ k = M ∨ k = d0 ∨ k = C ∨ k = c2) w wc := ⟨ho5.trans hB4'.os, ht5.trans hB4'.tape, hu5.trans hB4'.output, by rw [hz5]; exact hB4'.size, fun k h1 h2 => (hbk k h1).trans (hB4'.block k h1 h2)⟩
    clear hT4 hS4 hC4 hR4 hN4 hD04 hD14 hM4 hB4 hB4' t0' t1' t2' t3' v0' v1' v2' v3' s10' s13' hbk hz5 ho5 ht5 hu5
    go_wp2_with fail
    refine (complete_11 S N d0 d1 d2 m f q rd ph2 nk cn adj M sb m mm g hs ds _ r0 r1 n0 n1 hnk hS5 hM5 hgn hgo hN5 hD05 hD15 hds hhs hfin hadj hm).mono ?_
    rintro e w6 ⟨rfl, ds', hup, hS6, hM6, hD06, hB6⟩
    have hn : ∀ b, b ≠ S → b ≠ M → b ≠ d0 → ¬ (b = S ∨ b = M ∨ b = d0) := fun b h1 h2 h3 => by rintro (e | e | e); exact h1 e; exact h2 e; exact h3 e
    have hT6 := hT5.but hB6 (hn _ (fun e => hST e.symm) (by omega) (by omega))
    have hC6 := hC5.but hB6 (hn _ (fun e => hSC e.symm) hCM hd0C)
    have hR6 := hR5.but hB6 (hn _ (fun e => hSR e.symm) hRM hd0R)
    have hB6' : But (fun k => k = S ∨ k = M ∨ k = d0 ∨ k = C ∨ k = c2) w w6 := hB5.trans (hB6.mono (by rintro k (e | e | e); exact .inl e; exact .inr (.inl e); exact .inr (.inr (.inl e))))
    have t0' : w6.cell? ⟨w.heap.size, 0, none⟩ = some (.int .i64 rd) := hT6.cell 0 rfl
    have t1' : w6.cell? ⟨w.heap.size, 1, none⟩ = some (.bool b1) := hT6.cell 1 rfl
    have t2' : w6.cell? ⟨w.heap.size, 2, none⟩ = some (.bool true) := hT6.cell 2 rfl
    have t3' : w6.cell? ⟨w.heap.size, 3, none⟩ = some (.float .f64 adj) := hT6.cell 3 rfl
    have v0' := hT6.free 0
    have v1' := hT6.free 1
    have v2' := hT6.free 2
    have v3' := hT6.free 3
    have HU : Hid _ := hup
    clear hup
    go_wp2_with fail
    have hr : RR = rd := by rw [HRR.out]; simp
    have ha : AA = adj := by rw [HAA.out]; simp
    obtain rfl := hr.symm
    obtain rfl := ha.symm
    have hT7 := (((hT6.set 0 (.int .i64 rd)).set 1 (.bool b1)).set 2 (.bool true)).set 3 (.float .f64 adj)
    have z0 := hT7.cell 0 (v := .int .i64 rd) rfl
    have z1 := hT7.cell 1 (v := .bool b1) rfl
    have z2 := hT7.cell 2 (v := .bool true) rfl
    have z3 := hT7.cell 3 (v := .float .f64 adj) rfl
    have ot : ∀ {b : Nat} {cs : Array Value} {t : TypeId}, b < w.heap.size → Box w6 b cs t → Box ((((w6.setCell ⟨w.heap.size, 0, none⟩ (.int .i64 rd)).setCell ⟨w.heap.size, 1, none⟩ (.bool b1)).setCell ⟨w.heap.size, 2, none⟩ (.bool true)).setCell ⟨w.heap.size, 3, none⟩ (.float .f64 adj)) b cs t := fun hb h =>
      (((h.other (by show _ ≠ w.heap.size; omega) _).other (by show _ ≠ w.heap.size; omega) _).other (by show _ ≠ w.heap.size; omega) _).other (by show _ ≠ w.heap.size; omega) _
    refine bodyPost_ret (v := .agg (tc rd b1 true adj)) (by simp [results, Yba.results5, go_sem, z0, z1, z2, z3]; rfl) rfl ⟨rfl, ot hCl hC6, ot hRl hR6, ?_, ?_⟩
    · exact ⟨ot hSl hS6, (((hM6.setCell (by show M ≠ w.heap.size; omega) _).setCell (by show M ≠ w.heap.size; omega) _).setCell (by show M ≠ w.heap.size; omega) _).setCell (by show M ≠ w.heap.size; omega) _, ds', HU.out, ot h0l hD06⟩
    · refine ⟨hB6'.os, hB6'.tape, hB6'.output, by have := hB6'.size; simpa [World.setCell] using this, fun k hk hn => ?_⟩
      rw [Below.heap_setCell _ _ _ _ (by show k ≠ w.heap.size; omega), Below.heap_setCell _ _ _ _ (by show k ≠ w.heap.size; omega), Below.heap_setCell _ _ _ _ (by show k ≠ w.heap.size; omega), Below.heap_setCell _ _ _ _ (by show k ≠ w.heap.size; omega)]
      exact hB6'.block k hk hn
end Go.Proofs.Ybulkbapc

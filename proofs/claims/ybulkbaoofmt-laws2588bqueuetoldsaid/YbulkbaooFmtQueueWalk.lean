/- LawS2588BQueue: the walk. -/
import Derived.Test.YbulkbaooFmtOpen
namespace Go.Proofs.YbulkbaooFmt.lawS2588BQueue
open Go.ChangeShapes Go.WideShapes Go.ChangeAt Go.RowKit
set_option linter.unusedVariables false

def sumM (L : List Av) : Nat := (L.map Av.m).sum

theorem sumM_snoc (L : List Av) (k : Nat) (h : k < L.length) : sumM (L.take (k + 1)) = sumM (L.take k) + L[k].m := by
  unfold sumM
  rw [List.take_succ_eq_append_getElem h, List.map_append, List.sum_append]
  simp

theorem le_sumM : ∀ (L : List Av) (a : Av), a ∈ L → a.m ≤ sumM L
  | b :: L, a, h => by
    rcases List.mem_cons.1 h with rfl | h
    · simp [sumM]
    · have := le_sumM L a h
      simp [sumM] at this ⊢
      omega

theorem enc_len (a : Av) (h : a.ys.length = a.m) : a.enc.length ≤ 15 + a.m := by
  simp only [Av.enc, encA, List.length_append, b32, b24, List.length_cons, List.length_nil, List.length_replicate]
  split <;> simp <;> omega

theorem flat_len : ∀ (L : List Av), (∀ a ∈ L, a.ys.length = a.m) → (L.flatMap Av.enc).length ≤ 15 * L.length + sumM L
  | [], _ => by simp
  | a :: L, h => by
    have h1 := enc_len a (h a (by simp))
    have h2 := flat_len L (fun b hb => h b (by simp [hb]))
    simp only [List.flatMap_cons, List.length_append, List.length_cons]
    simp only [sumM, List.map_cons, List.sum_cons] at h2 ⊢
    omega

set_option maxRecDepth 100000 in
set_option maxHeartbeats 2000000 in
theorem walk (a0 : Option Addr) (len0 cap0 : Nat) (z0 : List Int) (fl cd ap : Int) (pa : Option Addr) (no ca : Nat) (L : List Av) (st : Int) (w : World) (w0 : IsRow .u8 w a0 len0 cap0 z0)
    (k0 : 0 ≤ cd) (k1 : cd ≤ 4294967295) (k2 : 0 ≤ ap) (k3 : ap ≤ 4294967295) (k4 : 0 ≤ fl) (k5 : fl ≤ 255) (k6 : 0 ≤ st) (k7 : st ≤ 255)
    (hL : InRow w.heap.size w pa L) (hno : L.length = no) (hok : ∀ a ∈ L, a.ok0 ∧ BytesUnder w.heap.size w a.q a.ys ∧ a.m ≤ 140737488355328) :
    Calls Ybaf.prog 3 #[.slice a0 len0 cap0, .int .u8 fl, .int .u32 cd, .int .u32 ap, .slice pa no ca, .int .u8 st] w fun e w' => e = .returned (.bool true) ∧ Below w.heap.size w w' := by
  obtain ⟨hlen, hat⟩ := BytesAt.of_row w0
  clear w0
  generalize z0.take len0 = xs at hlen hat
  by_cases hq : 1048576 < (len0 : Int)
  · go_enter Ybaf.func3, Ybaf.ntmps3
    go_wp2
    go_ret
    exact ⟨rfl, Below.refl _ _⟩
  by_cases hn : 1024 < (no : Int)
  · go_enter Ybaf.func3, Ybaf.ntmps3
    go_wp2
    go_ret
    exact ⟨rfl, Below.refl _ _⟩
  go_enter Ybaf.func3, Ybaf.ntmps3
  go_wp2_with fail
  go_loop [13, 14] (fun t i => ∃ k : Nat, k ≤ no ∧ i = .int .i64 (k : Int) ∧ t = .int .i64 (sumM (L.take k) : Int) ∧ sumM (L.take k) ≤ 1048576) (fun _ i => no - (intOf i).toNat)
  case atStart => exact ⟨0, Nat.zero_le _, rfl, rfl, by simp [sumM]⟩
  case round =>
    obtain ⟨k, hk, rfl, rfl, hs⟩ := hrel
    by_cases hlt : k < no
    · have hkl : k < L.length := by omega
      have ha : L[k]? = some L[k] := List.getElem?_eq_getElem hkl
      obtain ⟨_, _, hm⟩ := hok L[k] (List.getElem_mem hkl)
      obtain ⟨g, og, hpo, hgB, hcur⟩ := hL (by intro h; rw [h] at hkl; simp at hkl)
      obtain ⟨_, _, _, q3⟩ := hcur k _ ha
      have HS : Hid (sumM (L.take (k + 1)) = sumM (L.take k) + L[k].m) := sumM_snoc L k hkl
      generalize sumM (L.take k) = S at hs HS
      generalize L[k] = av at hm q3 HS
      obtain ⟨acd, afl, avi, aq, am, ad, ays⟩ := av
      dsimp only at hm q3
      have HS' : Hid (sumM (L.take (k + 1)) = S + am) := HS
      clear HS
      subst hpo
      have hki : (k : Int) < (no : Int) := by omega
      clear hcur ha
      go_wp2
      · go_ret
        exact ⟨rfl, Below.refl _ _⟩
      · have hle : (S : Int) + (am : Int) ≤ 1048576 := by assumption
        go_round
        case rel => exact ⟨k + 1, by omega, by go_num, by rw [HS'.out]; go_num, by rw [HS'.out]; omega⟩
        case measure => simp [intOf]; omega
    · have hsum : sumM L ≤ 1048576 := by rwa [List.take_of_length_le (by omega)] at hs
      have hok1 : ∀ a ∈ L, a.ok ∧ BytesUnder w.heap.size w a.q a.ys := fun a ha => ⟨(hok a ha).1.ok (by have := le_sumM L a ha; omega), (hok a ha).2.1⟩
      have hbig : 20 + (L.flatMap Av.enc).length ≤ 16777215 := by
        have := flat_len L (fun a ha => (hok a ha).1.len)
        omega
      generalize sumM (L.take k) = S at hs
      clear hs hsum hok
      have hno1 : no ≤ 1024 := by omega
      go_wp2_with (at_builtin; go_must (refine wpList_app2 rfl _ _ rfl w.heap.size (.slice none 0 0) 0 [] rfl a0 len0 cap0 xs rfl hlen (Owns.nil _ _) hat (by omega) (Nat.le_refl _) ?_))
      intro p1 c1 w1 hown1 happ1 hc1
      have hbel1 : Below w.heap.size w w1 := happ1.below (Nat.le_refl _) (fun k hk => by cases hk)
      have hz1 := hbel1.size
      clear happ1
      go_wp2_with fail
      go_loopg [17, 18] st.toNat (fun gj i d wr => ∃ j : Nat, (gj : Int) + (j : Int) = st ∧ i = .int .i64 (j : Int) ∧ Box wr w1.heap.size (conn j j (.slice p1 len0 c1)) 39 ∧ Below w1.heap.size w1 wr)
      case atStart => exact ⟨0, by omega, rfl, Box.new w1 _ 39, (Below.refl _ _).alloc (Nat.le_refl _) _⟩
      case round =>
        obtain ⟨j, hj, rfl, hbx, hbel2⟩ := hrel
        by_cases hjs : (j : Int) < st
        · have hlt2 := hbx.lt
          obtain ⟨s4, s5, s7, s8⟩ := hbx.c9
          have f4 := hbx.free 4
          have f5 := hbx.free 5
          go_wp2_with fail
          refine (stamp w1.heap.size 4 wr.heap.size j j (.int .u32 0) (.int .u32 0) _ (by omega) ?_ ?_ ?_ ?_ ?_ ?_ ?_ ?_).mono ?_
          · exact (hbx.alloc _).cell 4 rfl
          · exact (hbx.alloc _).cell 5 rfl
          · exact (Box.new wr _ 43).cell 3 rfl
          · exact (Box.new wr _ 43).cell 4 rfl
          · exact (hbx.alloc _).free 4
          · exact (hbx.alloc _).free 5
          · exact (Box.new wr _ 43).free 3
          · exact (Box.new wr _ 43).free 4
          rintro e wn ⟨rfl, hwn⟩
          have hbn : Box wn w1.heap.size (conn ((j + 1 : Nat) : Int) ((j + 1 : Nat) : Int) (.slice p1 len0 c1)) 39 := by
            rw [hwn]
            have hb := (((hbx.alloc (.cells #[.int .u8 0, .int .u32 0, .int .u32 0, .int .u32 0, .int .u32 0, .slice none 0 0] 43)).other (a := ⟨wr.heap.size, 3, none⟩) (by show w1.heap.size ≠ wr.heap.size; omega) (.int .u32 j)).other (a := ⟨wr.heap.size, 4, none⟩) (by show w1.heap.size ≠ wr.heap.size; omega) (.int .u32 j)).set 4 (.int .u32 ((j + 1 : Nat) : Int)) |>.set 5 (.int .u32 ((j + 1 : Nat) : Int))
            rw [show ((j : Int) + 1) % 4294967296 = ((j + 1 : Nat) : Int) by omega]
            exact hb.drew
          have hbeln : Below w1.heap.size w1 wn := by
            rw [hwn]
            exact (((((hbel2.alloc (by omega) _).setCell (by show w1.heap.size ≤ wr.heap.size; omega) _).setCell (by show w1.heap.size ≤ wr.heap.size; omega) _).setCell (Nat.le_refl _) _).setCell (Nat.le_refl _) _).drew
          clear hwn s4 s5 s7 s8 f4 f5
          go_wp2_with fail
          go_roundg (gk - 1)
          case measure => omega
          case rel => exact ⟨j + 1, by omega, by go_num, hbn, hbeln⟩
        · have hje : Hid ((j : Int) = st) := by show (j : Int) = st; omega
          have hC0 : Box wr w1.heap.size (conn st st (.slice p1 len0 c1)) 39 := hje.out ▸ hbx
          have hlt2 := hbx.lt
          clear hbx
          have hownr : Owns wr w.heap.size (.slice p1 len0 c1) len0 xs := hown1.block (fun k hk => hbel2.block k (hown1.lt k hk).2)
          have hneC := hown1.fresh
          have hltq : ∀ k, (Value.slice p1 len0 c1).ownBlock = some k → w.heap.size ≤ k ∧ k < w1.heap.size := hown1.lt
          have hbr : Below w.heap.size w wr := hbel1.trans (hbel2.mono hz1)
          have hLr := hL.later hbr
          clear hown1 hbel1 hbel2
          go_wp2_with fail
          refine (avps_6 pa no ca L wr w.heap.size (by omega) hLr hno hno1).mono ?_
          rintro e w3 ⟨v, rfl, hrow, hbel3⟩
          obtain ⟨po, co, hv, hpog, hav⟩ := avrow_of hrow
          subst hv
          have hz3 := hbel3.size
          have hC3 : Box w3 w1.heap.size (conn st st (.slice p1 len0 c1)) 39 := (hbel3.block _ hlt2).trans hC0
          have hown3 : Owns w3 w.heap.size (.slice p1 len0 c1) len0 xs := hownr.block (fun k hk => hbel3.block k (by have := (hltq k hk).2; omega))
          have hav3 := hav (.slice p1 len0 c1) (fun k hk => by have := (hltq k hk).2; omega)
          have hb3 : Below w.heap.size w w3 := hbr.trans (hbel3.mono (by omega))
          clear hav hrow hownr hC0 hLr hbr
          go_wp2_with fail
          refine (send_7 w1.heap.size w3.heap.size st st fl cd ap 3735928559 4277009102 po no co L p1 len0 c1 xs _ w.heap.size k0 k1 k2 k3 k4 k5 k6 (by omega) k6 (by omega) (hC3.alloc _) (Box.new w3 _ 43) (by omega) hz1 (by omega) hneC (fun e => by have := (hltq _ e.symm).2; omega) (hown3.alloc _) (by omega) (by simp; omega) ?_ ?_ hno hno1 ?_ hbig).mono ?_
          · intro h0
            obtain ⟨g, cur, e, hbx, hne, hc⟩ := hav3 h0
            exact ⟨g, cur, e, hbx.alloc _, hne, hc⟩
          · intro g e
            have := hpog g e
            omega
          · exact fun a ha => ⟨(hok1 a ha).1, (hok1 a ha).2.later (hb3.alloc (by omega) _)⟩
          rintro e w5 ⟨rfl, p5, n5, c5, hC5, hR5, hown5, hfr5, hlies5⟩
          rw [show (st + 1) % 4294967296 = st + 1 by omega] at hC5
          have hz5 : w3.heap.size < w5.heap.size := by have := hfr5.size; simp at this; omega
          have hb5 : Below w.heap.size w w5 := (hb3.alloc (by omega) _).trans (hfr5.below (by simp; omega) hz1 (by omega) (fun k hk => (hltq k hk).1))
          have hltq5 : ∀ k, (Value.slice p5 n5 c5).ownBlock = some k → w.heap.size ≤ k ∧ k < w5.heap.size := hown5.lt
          have hneC5 : some w1.heap.size ≠ (Value.slice p5 n5 c5).ownBlock := by
            rcases hlies5 with e | ⟨k, e, hk⟩
            · rw [e]; exact hneC
            · rw [e]; intro h; simp at h hk; omega
          obtain ⟨t0, t1, t2, t3, t4, t5⟩ := hR5.c6
          clear hC3 hown3 hav3 hpog hbel3 hfr5 hlies5 hneC hltq hb3
          have hat5 : BytesAt w5 a0 xs := hat.later hb5
          go_wp2_with (at_builtin; go_must (refine wpList_app2 rfl _ _ rfl w.heap.size (.slice none 0 0) 0 [] rfl a0 len0 cap0 xs rfl hlen (Owns.nil _ _) hat5 (by omega) (by omega) ?_))
          intro p6 c6 w6 hown6 happ6 hc6
          have hb56 : Below w5.heap.size w5 w6 := happ6.below (Nat.le_refl _) (fun k hk => by cases hk)
          have hz6 := hb56.size
          have hlt6 : ∀ k, (Value.slice p6 len0 c6).ownBlock = some k → w5.heap.size ≤ k := by
            intro k hk
            rcases happ6.lies with e | ⟨q, e, hq⟩
            · rw [hk] at e; cases e
            · rw [hk] at e
              simp at e
              omega
          have hb6 : Below w.heap.size w w6 := hb5.trans (hb56.mono (by omega))
          have hC6 : Box w6 w1.heap.size (conn (st + 1) (st + 1) (.slice p5 n5 c5)) 39 := (hb56.block _ hC5.lt).trans hC5
          have hq6 : Owns w6 w.heap.size (.slice p5 n5 c5) n5 (xs ++ encM fl cd ap st st L) := hown5.block (fun k hk => hb56.block k (hltq5 k hk).2)
          clear happ6 hC5 hown5 hat5 t0 t1 t2 t3 t4 t5 hR5
          go_wp2_with fail
          refine (benc_8 fl cd ap st st pa no ca L p6 len0 c6 xs w6 w.heap.size k0 k1 k2 k3 k4 k5 k6 (by omega) k6 (by omega) hown6 (by omega) (by omega) (hL.later hb6) hno hno1 (fun a ha => ⟨(hok1 a ha).1, (hok1 a ha).2.later hb6⟩) hbig).mono ?_
          rintro e w7 ⟨p7, n7, c7, rfl, hown7, happ7, hc7⟩
          obtain rfl : n7 = n5 := by rw [← hown7.len, ← hq6.len]
          have hz7 := happ7.grew.size
          have hC7 : Box w7 w1.heap.size (conn (st + 1) (st + 1) (.slice p5 n7 c5)) 39 := hC6.kept happ7.grew (fun e => by have := hlt6 _ e.symm; have := hC6.lt; omega)
          have hq7 : Owns w7 w.heap.size (.slice p5 n7 c5) n7 (xs ++ encM fl cd ap st st L) := hq6.kept happ7.grew (by
            cases hk : (Value.slice p5 n7 c5).ownBlock with
            | none => exact .inl rfl
            | some k => exact .inr (fun e => by have := hlt6 k e.symm; have := (hltq5 k hk).2; omega))
          have hb7 : Below w.heap.size w w7 := hb6.trans (hown6.under (by omega) happ7)
          have hlt7 : ∀ k, (Value.slice p7 n7 c7).ownBlock = some k → w5.heap.size ≤ k ∧ k < w7.heap.size := by
            intro k hk
            refine ⟨?_, (hown7.lt k hk).2⟩
            rcases happ7.lies with e | ⟨q, e, hq⟩
            · exact hlt6 k (by rw [← e, hk])
            · rw [hk] at e
              simp at e
              omega
          obtain ⟨s4, s5, s7, s8⟩ := hC7.c9
          clear happ7 hC6 hq6 hown6 hlt6
          go_wp2_with fail
          refine (equal_same p5 p7 n7 c5 c7 _ w7 hq7.len hq7.at hown7.at).mono ?_
          rintro e w' ⟨rfl, hw⟩
          obtain rfl := hw.symm
          clear s4 s5 s7 s8
          go_wp2_with fail
          refine (send_7 w1.heap.size w7.heap.size (st + 1) (st + 1) 0 0 0 0 0 none 0 0 [] p5 n7 c5 (xs ++ encM fl cd ap st st L) _ w.heap.size (by omega) (by omega) (by omega) (by omega) (by omega) (by omega) (by omega) (by omega) (by omega) (by omega) (hC7.alloc _) (Box.new w7 _ 43) (by have := hC7.lt; omega) hz1 (by omega) hneC5 (fun e => by have := (hltq5 _ e.symm).2; omega) (hq7.alloc _) ?_ (by simp; omega) (fun h => absurd rfl h) (fun g e => (by cases e)) rfl (by omega) (fun a ha => by cases ha) (by simp)).mono ?_
          · have h1 := hq7.len
            have h2 : (encM fl cd ap st st L).length = 20 + (L.flatMap Av.enc).length := by
              simp only [encM, List.length_append, b32, b24, List.length_cons, List.length_nil]
            rw [List.length_append, h2, hlen] at h1
            omega
          rintro e w9 ⟨rfl, p9, n9, c9, hC9, hR9, hown9, hfr9, hlies9⟩
          have hz9 : w7.heap.size < w9.heap.size := by have := hfr9.size; simp at this; omega
          have hb9 : Below w.heap.size w w9 := (hb7.alloc (by omega) _).trans (hfr9.below (by simp; omega) hz1 (by omega) (fun k hk => (hltq5 k hk).1))
          have hneC9 : some w1.heap.size ≠ (Value.slice p7 n7 c7).ownBlock := fun e => by
            have := (hlt7 _ e.symm).1
            omega
          have hw9 : Owns w9 w.heap.size (.slice p7 n7 c7) n7 (xs ++ encM fl cd ap st st L) := (hown7.alloc _).block (fun k hk => hfr9.block k (by have := (hlt7 k hk).2; simp; omega) (fun e => hneC9 (by rw [hk, e])) (by have := (hlt7 k hk).2; omega) (fun e => by have := (hltq5 k e.symm).2; have := (hlt7 k hk).1; omega))
          have hdis : (Value.slice p9 n9 c9).ownBlock = none ∨ (Value.slice p9 n9 c9).ownBlock ≠ (Value.slice p7 n7 c7).ownBlock := by
            rcases hlies9 with e | ⟨k, e, hk⟩
            · cases hk : (Value.slice p5 n7 c5).ownBlock with
              | none => exact .inl (by rw [e, hk])
              | some k => exact .inr (fun e' => by
                  rw [e, hk] at e'
                  have := (hlt7 k e'.symm).1
                  have := (hltq5 k hk).2
                  omega)
            · exact .inr (fun e' => by
                rw [e] at e'
                have := (hlt7 k e'.symm).2
                simp at hk
                omega)
          obtain ⟨t0, t1, t2, t3, t4, t5⟩ := hR9.c6
          clear hC7 hq7 hown7 hfr9 hlies9
          have hn7 : n7 ≤ 100000000 := by
            have h1 := hw9.len
            have h2 : (encM fl cd ap st st L).length = 20 + (L.flatMap Av.enc).length := by
              simp only [encM, List.length_append, b32, b24, List.length_cons, List.length_nil]
            rw [List.length_append, h2, hlen] at h1
            omega
          go_wp2_with fail
          refine (benc_8 0 0 0 (st + 1) (st + 1) none 0 0 [] p7 n7 c7 (xs ++ encM fl cd ap st st L) w9 w.heap.size (by omega) (by omega) (by omega) (by omega) (by omega) (by omega) (by omega) (by omega) (by omega) (by omega) hw9 hn7 (by omega) (fun h => absurd rfl h) rfl (by omega) (fun a ha => by cases ha) (by simp)).mono ?_
          rintro e w10 ⟨p10, n10, c10, rfl, hown10, happ10, hc10⟩
          obtain rfl : n10 = n9 := by rw [← hown10.len, ← hown9.len]
          have hC10 := hC9.kept happ10.grew hneC9
          have hq10 := hown9.kept happ10.grew hdis
          have hb10 : Below w.heap.size w w10 := hb9.trans (hw9.under (by omega) happ10)
          obtain ⟨s4, s5, s7, s8⟩ := hC10.c9
          go_wp2_with fail
          refine (equal_same p9 p10 n10 c9 c10 _ w10 hq10.len hq10.at hown10.at).mono ?_
          rintro e w' ⟨rfl, hw⟩
          obtain rfl := hw.symm
          go_wp2
          go_ret
          exact ⟨rfl, hb10⟩

end Go.Proofs.YbulkbaooFmt.lawS2588BQueue

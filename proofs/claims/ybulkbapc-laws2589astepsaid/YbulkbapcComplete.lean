/- (*Startup).complete. -/
import Derived.Test.YbulkbapcHold
namespace Go.Proofs.Ybulkbapc
open Go.ChangeShapes Go.WideShapes Go.ChangeAt Go.RowKit
set_option linter.unusedVariables false

def subOr (x a : Nat) : Nat := (floatBits .sub .f64 x a).getD 0
theorem subOr_run {x a : Nat} (hx : Fin64 x) (ha : Fin64 a) (w : World) : (binOp .sub 25 (.float .f64 x) (.float .f64 a)).run Yba.prog w = .ok (.float .f64 (subOr x a)) w := by
  obtain ⟨r, h, _⟩ := sub_fin hx ha
  refine run_float_arith w .sub 25 .f64 x a _ ?_
  simp [subOr, h]
theorem subOr_nan {x a : Nat} (hx : Fin64 x) (ha : Fin64 a) : nanB (subOr x a) = false := by
  obtain ⟨r, h, h'⟩ := sub_fin hx ha
  simp [subOr, h, h']

/-- The row ds, the entries below k taken down by adj where hs says so. -/
def Upto (adj : Nat) (hs : List Bool) (ds : List Nat) (k : Nat) (ds' : List Nat) : Prop :=
  ds'.length = ds.length ∧ ∀ i x h, ds[i]? = some x → hs[i]? = some h → ds'[i]? = some (if i < k ∧ h = true then subOr x adj else x)

theorem Upto.start (adj : Nat) (hs : List Bool) (ds : List Nat) : Upto adj hs ds 0 ds := ⟨rfl, fun i x h hx _ => by simp [hx]⟩
theorem Upto.skip {adj : Nat} {hs : List Bool} {ds ds' : List Nat} {k : Nat} (h : Upto adj hs ds k ds') (hk : hs[k]? = some false) : Upto adj hs ds (k + 1) ds' := by
  refine ⟨h.1, fun i x b hx hb => ?_⟩
  rw [h.2 i x b hx hb]
  by_cases e : i = k
  · subst e
    rw [hk] at hb
    cases hb
    simp
  · have : (i < k + 1) ↔ (i < k) := by omega
    simp [this]
theorem Upto.step {adj : Nat} {hs : List Bool} {ds ds' : List Nat} {k x : Nat} (h : Upto adj hs ds k ds') (hk : hs[k]? = some true) (hx : ds[k]? = some x) : ds'[k]? = some x ∧ Upto adj hs ds (k + 1) (ds'.set k (subOr x adj)) := by
  have h1 := h.2 k x true hx hk
  simp at h1
  have hl : k < ds'.length := (List.getElem?_eq_some_iff.1 h1).1
  refine ⟨h1, by simp [h.1], fun i y b hy hb => ?_⟩
  by_cases e : i = k
  · subst e
    rw [hx] at hy
    rw [hk] at hb
    cases hy
    cases hb
    rw [List.getElem?_set_self hl]
    simp
  · rw [List.getElem?_set_ne (fun e' => e e'.symm), h.2 i y b hy hb]
    have : (i < k + 1) ↔ (i < k) := by omega
    simp [this]

theorem ranges_blocks {w w' : World} {b r n : Nat} {D : DataW Value} {left : Lit → Bool} {cnt : Nat} (h : w.ranges Yba.prog 2 RV b r n D left cnt) (hb : w'.heap[b]? = w.heap[b]?) (hr : w'.heap[r]? = w.heap[r]?) : w'.ranges Yba.prog 2 RV b r n D left cnt := by
  obtain ⟨es, clock, since, seen, c0, h1, h2, h3, h4, h5, h6⟩ := h
  exact ⟨es, clock, since, seen, c0, hb.trans h1, h2, h3, h4, hr.trans h5, h6⟩

theorem HasMap.of_ranges {w : World} {b r n : Nat} {D : DataW Value} {left : Lit → Bool} {cnt : Nat} {f : Lit → Option Value} (h : w.ranges Yba.prog 2 RV b r n D left cnt) (hD : ∀ kl, WideAt.IsKeyLit kl → Maps.has D kl = (f kl).isSome ∧ ∀ v, f kl = some v → ∀ z, D.atKey kl z = .held v) : HasMap Yba.prog 2 w b n f := ⟨D, h.owns, hD⟩

set_option maxRecDepth 100000 in
set_option maxHeartbeats 2000000 in
theorem complete_11 (S N d0 d1 d2 : Nat) (n f self rd ph nk cn : Int) (adj M sb m mm : Nat) (g : Lit → Option Value) (hs : List Bool) (ds : List Nat) (w : World)
    (r0 : -9223372036854775808 ≤ rd) (r1 : rd ≤ 9223372036854775807) (n0 : -9223372036854775808 ≤ nk) (n1 : nk ≤ 9223372036854775807) (hnk : nk ≠ rd)
    (hS : Box w S (sc n f self rd ph adj M sb m) 36) (hM : HasMap Yba.prog 2 w M mm g) (hgn : g (kl nk) = some (.pointer (some ⟨N, 0, none⟩))) (hgo : ∀ l v, g l = some v → l = kl rd ∨ l = kl nk)
    (hN : Box w N (rc d0 d1 d2 m cn) 29) (hD0 : Box w d0 (floats ds) 25) (hD1 : Box w d1 (bools hs) 4) (hds : ds.length = m) (hhs : hs.length = m) (hfin : ∀ x ∈ ds, Fin64 x) (hadj : Fin64 adj) (hm : m ≤ 1000) :
    Calls Yba.prog 11 #[.pointer (some ⟨S, 0, none⟩)] w fun e w' => e = .returned (.tuple #[]) ∧ ∃ ds', Upto adj hs ds m ds' ∧ Box w' S (sc n f self (wrap64 (rd + 1)) 0 adj M sb m) 36 ∧ HasMap Yba.prog 2 w' M mm (turnAt g (kl rd) none) ∧ Box w' d0 (floats ds') 25 ∧ But (fun k => k = S ∨ k = M ∨ k = d0) w w' := by
  have hsf := fun w a x m => run_store Yba.prog w a (.float .f64 x) m rfl
  have s14 : w.cell? ⟨S, 14, none⟩ = some (.map (some M)) := hS.cell 14 rfl
  have s10 : w.cell? ⟨S, 10, none⟩ = some (.int .i64 rd) := hS.cell 10 rfl
  have hSM := hS.ne_map hM
  have hNM := hN.ne_map hM
  have h0M := hD0.ne_map hM
  have h1M := hD1.ne_map hM
  have hS0 := hS.ne hD0 (by decide)
  have hN0 := hN.ne hD0 (by decide)
  have h10 := hD1.ne hD0 (by decide)
  have hSN := hS.ne hN (by decide)
  have hS1 := hS.ne hD1 (by decide)
  obtain ⟨w1, hdel, hM1, hg1, hz1⟩ := hM.drew.drop (t := 34) (e := 26) law2 Yba.underlying34 (key_ok rd r0 r1) 0 (turnAt g (kl rd) none) (turnAt_same g (kl_key rd r0 r1) none) (fun l h => turnAt_other g (kl rd) none l h)
  have hB1 : But (fun k => k = S ∨ k = M ∨ k = d0) w w1 := ((But.refl _ w).drew).grown hg1 (.inr (.inl rfl))
  have hSb : Box w1 S (sc n f self rd ph adj M sb m) 36 := hS.block (hg1.block S hS.lt (by simpa using hSM))
  have hNb : Box w1 N (rc d0 d1 d2 m cn) 29 := hN.block (hg1.block N hN.lt (by simpa using hNM))
  have hD0b : Box w1 d0 (floats ds) 25 := hD0.block (hg1.block d0 hD0.lt (by simpa using h0M))
  have hD1b : Box w1 d1 (bools hs) 4 := hD1.block (hg1.block d1 hD1.lt (by simpa using h1M))
  have t10 : w1.cell? ⟨S, 10, none⟩ = some (.int .i64 rd) := hSb.cell 10 rfl
  have t14 : w1.cell? ⟨S, 14, none⟩ = some (.map (some M)) := hSb.cell 14 rfl
  go_enter Yba.func11, Yba.ntmps11
  go_wp2_with fail
  go_region_held3 (fun w' => w'.cell? ⟨S, 14, none⟩ = some (.map (some M)) ∧ w'.cell? ⟨S, 10, none⟩ = some (.int .i64 rd)) (go_keep) (fail)
  obtain ⟨D, hown, hD⟩ := hM1
  have HM : Hid (∀ kl', WideAt.IsKeyLit kl' → Maps.has D kl' = (turnAt g (kl rd) none kl').isSome ∧ ∀ v, turnAt g (kl rd) none kl' = some v → ∀ z, D.atKey kl' z = .held v) := hD
  clear hD hdel hS hN hD0 hD1 hM s14 s10
  go_wp2_with (first | (at_range; refine wpList_range_own _ rfl _ 34 rfl 2 26 law2 Yba.underlying34 RV M mm D rfl hown ?_; intro w0 hrg0 hg0 hs0) | go_in)
  go_frame
  have hzz : w1.heap.size = w.heap.size := hz1
  rw [hzz] at hrg0
  have lS : S < w1.heap.size := hSb.lt
  have lN : N < w1.heap.size := hNb.lt
  have l0 : d0 < w1.heap.size := hD0b.lt
  have l1 : d1 < w1.heap.size := hD1b.lt
  have lM : M < w1.heap.size := hown.lt
  have hkn := kl_key nk n0 n1
  have HN : Hid (Maps.has D (kl nk) = true ∧ ∀ z, D.atKey (kl nk) z = .held (.pointer (some ⟨N, 0, none⟩))) := by
    have e : turnAt g (kl rd) none (kl nk) = some (.pointer (some ⟨N, 0, none⟩)) := by rw [turnAt_other _ _ _ _ (kl_ne hnk)]; exact hgn
    have := HM.out (kl nk) hkn
    rw [e] at this
    exact ⟨this.1, fun z => this.2 _ rfl z⟩
  have HO : Hid (∀ l, WideAt.IsKeyLit l → Maps.has D l = true → l = kl nk) := by
    intro l hl h
    rw [(HM.out l hl).1] at h
    by_cases e : l = kl rd
    · subst e
      rw [turnAt_same g hl none] at h
      cases h
    · rw [turnAt_other _ _ _ _ e] at h
      cases h' : g l with
      | none => rw [h'] at h; cases h
      | some v => rcases hgo l v h' with e' | e'; exact absurd e' e; exact e'
  have HG : Hid _ := hgo
  clear hgo hgn
  rw [hzz]
  go_loopg [3] 1 (fun gk _ wr => ∃ left cnt ds1, wr.ranges Yba.prog 2 RV M w.heap.size mm D left cnt ∧ ((gk = 1 ∧ left = Maps.has D ∧ ds1 = ds) ∨ (gk = 0 ∧ left = (fun z => Maps.has D z && !z.sameKey (kl nk)) ∧ Upto adj hs ds m ds1)) ∧
    Box wr S (sc n f self rd ph adj M sb m) 36 ∧ Box wr N (rc d0 d1 d2 m cn) 29 ∧ Box wr d0 (floats ds1) 25 ∧ Box wr d1 (bools hs) 4 ∧ But (fun k => k = S ∨ k = M ∨ k = d0) w wr)
  case atStart =>
    have bk := fun k (hk : k < w1.heap.size) => hg0.block k hk (by simp)
    exact ⟨_, _, ds, hrg0, .inl ⟨rfl, rfl, rfl⟩, hSb.block (bk S lS), hNb.block (bk N lN), hD0b.block (bk d0 l0), hD1b.block (bk d1 l1), hB1.grown0 hg0⟩
  case round =>
    obtain ⟨left, cnt, ds1, hrg, hst, hS2, hN2, hD02, hD12, hB2⟩ := hrel
    clear hrg0 hg0 hs0 hSb hNb hD0b hD1b hB1 hown t10 t14
    rcases hst with ⟨rfl, rfl, hds1⟩ | ⟨rfl, rfl, hup⟩
    · obtain rfl := hds1.symm
      go_wp2_with (first | (at_next; refine wpList_next_ranges _ rfl _ rfl 2 law2 RV (Value.int .i64) (fun v : Value => v) (fun key kl hk => by obtain ⟨x, rfl, _⟩ := Maps.keyOf_int_inv Yba.underlying2 hk; exact ⟨x, rfl⟩) (fun v y hv => ⟨v, rfl⟩) M w.heap.size mm D _ cnt rfl hrg ?_ ?_) | go_in)
      · intro hc0 hl0
        have := HN.out.1
        rw [hl0] at this
        cases this
      · intro x c kl0 yd yp w2 cnt2 hkey hlk hv hat hrg2 hlt hg2 hs2 hen
        obtain rfl : kl0 = kl nk := HO.out _ (law2.key hkey) hlk
        obtain rfl : c = .pointer (some ⟨N, 0, none⟩) := by
          have e1 := hat (.held .nilFunc)
          rw [HN.out.2] at e1
          simp only [RV, Option.some.injEq, Prod.mk.injEq] at hv
          rw [← hv.1] at e1
          simp at e1
          exact e1.symm
        have bk := fun k (hk : k < w.heap.size) => hg2.block k (Nat.lt_of_lt_of_le hk hB2.size) (by simp; omega)
        have hS3 := hS2.block (bk S (by omega))
        have hN3 := hN2.block (bk N (by omega))
        have hD03 := hD02.block (bk d0 (by omega))
        have hD13 := hD12.block (bk d1 (by omega))
        have hB3 : But (fun k => k = S ∨ k = M ∨ k = d0) w w2 := ⟨hg2.os.trans hB2.os, hg2.tape.trans hB2.tape, hg2.output.trans hB2.output, Nat.le_trans hB2.size hg2.size, fun k h1 h2 => (bk k h1).trans (hB2.block k h1 h2)⟩
        clear hrg hS2 hN2 hD02 hD12 hB2 hlk hv hat hkey hg2 bk
        have x1 : w2.cell? ⟨N, 1, none⟩ = some (.slice (some ⟨d1, 0, none⟩) m m) := hN3.cell 1 rfl
        go_wp2_with fail
        go_loopg [28] m (fun gk q wq => ∃ k ds2, gk + k = m ∧ q = .int .i64 (k : Nat) ∧ Upto adj hs ds k ds2 ∧ wq.ranges Yba.prog 2 RV M w.heap.size mm D (fun z => Maps.has D z && !z.sameKey (kl nk)) cnt2 ∧ Box wq S (sc n f self rd ph adj M sb m) 36 ∧ Box wq N (rc d0 d1 d2 m cn) 29 ∧ Box wq d0 (floats ds2) 25 ∧ Box wq d1 (bools hs) 4 ∧ But (fun k => k = S ∨ k = M ∨ k = d0) w wq)
        case atStart => exact ⟨0, ds, rfl, rfl, Upto.start adj hs ds, hrg2, hS3, hN3, hD03, hD13, hB3⟩
        case round =>
          obtain ⟨k, ds2, hk, rfl, hup, hrg4, hS4, hN4, hD04, hD14, hB4⟩ := hrel
          clear hrg2 hS3 hN3 hD03 hD13 hB3 x1 hen
          have hz4 := hB4.size
          by_cases hkm : k < m
          · have hki : (k : Int) < (m : Int) := by omega
            obtain ⟨h, hh⟩ : ∃ h, hs[k]? = some h := ⟨_, List.getElem?_eq_getElem (by omega)⟩
            obtain ⟨x, hx⟩ : ∃ x, ds[k]? = some x := ⟨_, List.getElem?_eq_getElem (by omega)⟩
            have c1 : wr.cell? ⟨d1, k, none⟩ = some (.bool h) := hD14.cell k (bools_at hh)
            cases h with
            | false =>
              have HU : Hid _ := hup.skip hh
              clear hup hh hx
              go_wp2_with fail
              go_roundg (gk - 1)
              case measure => omega
              case rel => exact ⟨k + 1, ds2, by omega, by go_num, HU.out, hrg4, hS4, hN4, hD04, hD14, hB4⟩
            | true =>
              obtain ⟨hx2, hup'⟩ := hup.step hh hx
              have HU : Hid _ := hup'
              have hsub := fun w => subOr_run (hfin x (List.mem_of_getElem? hx)) hadj w
              have c0 : wr.cell? ⟨d0, k, none⟩ = some (.float .f64 x) := hD04.cell k (floats_at hx2)
              have v0 := hD04.free k
              have c2 : wr.cell? ⟨N, 0, none⟩ = some (.slice (some ⟨d0, 0, none⟩) m m) := hN4.cell 0 rfl
              have c3 : wr.cell? ⟨S, 13, none⟩ = some (.float .f64 adj) := hS4.cell 13 rfl
              have e2 : (wr.setCell ⟨d0, k, none⟩ (.float .f64 (subOr x adj))).cell? ⟨N, 0, none⟩ = some (.slice (some ⟨d0, 0, none⟩) m m) := (hN4.other hN0 _).cell 0 rfl
              have e3 : (wr.setCell ⟨d0, k, none⟩ (.float .f64 (subOr x adj))).cell? ⟨S, 13, none⟩ = some (.float .f64 adj) := (hS4.other hS0 _).cell 13 rfl
              clear hup hup' hh hx hx2
              go_wp2_with fail
              go_region
              all_goals
                go_wp2_with fail
                go_roundg (gk - 1)
                case measure => omega
                case rel =>
                  refine ⟨k + 1, _, by omega, by go_num, HU.out, ?_, (hS4.other hS0 _).drew, (hN4.other hN0 _).drew, ?_, (hD14.other h10 _).drew, (hB4.setCell (.inr (.inr rfl)) _).drew⟩
                  · exact ranges_blocks (w := wr) hrg4 (Below.heap_setCell _ _ _ _ (fun e => h0M e.symm)) (Below.heap_setCell _ _ _ _ (by show w.heap.size ≠ d0; omega))
                  · have := hD04.set k (.float .f64 (subOr x adj))
                    rw [floats_set] at this
                    exact this.drew
          · obtain rfl : k = m := by omega
            have HU : Hid _ := hup
            clear hup
            go_wp2_with fail
            go_roundg 0
            case measure => omega
            case rel => exact ⟨_, _, ds2, hrg4, .inr ⟨rfl, rfl, HU.out⟩, hS4, hN4, hD04, hD14, hB4⟩
    · go_wp2_with (first | (at_next; refine wpList_next_ranges _ rfl _ rfl 2 law2 RV (Value.int .i64) (fun v : Value => v) (fun key kl hk => by obtain ⟨x, rfl, _⟩ := Maps.keyOf_int_inv Yba.underlying2 hk; exact ⟨x, rfl⟩) (fun v y hv => ⟨v, rfl⟩) M w.heap.size mm D _ cnt rfl hrg ?_ ?_) | go_in)
      · intro hc0 hl0
        have u10 : wr.cell? ⟨S, 10, none⟩ = some (.int .i64 rd) := hS2.cell 10 rfl
        have u11 : wr.cell? ⟨S, 11, none⟩ = some (.int .u8 ph) := hS2.cell 11 rfl
        have v10 := hS2.free 10
        have v11 := hS2.free 11
        go_wp2_with fail
        go_end0
        refine ⟨rfl, ds1, hup, ?_, ?_, ?_, ?_⟩
        · exact (hS2.set 10 (.int .i64 (wrap64 (rd + 1)))).set 11 (.int .u8 0)
        · exact HasMap.of_ranges (ranges_blocks hrg (by rw [Below.heap_setCell _ _ _ _ (by show M ≠ S; exact fun e => hSM e.symm), Below.heap_setCell _ _ _ _ (by show M ≠ S; exact fun e => hSM e.symm)]) (by rw [Below.heap_setCell _ _ _ _ (by show w.heap.size ≠ S; omega), Below.heap_setCell _ _ _ _ (by show w.heap.size ≠ S; omega)])) HM.out
        · exact (hD02.other (fun e => hS0 e.symm) _).other (fun e => hS0 e.symm) _
        · exact (hB2.setCell (.inl rfl) _).setCell (.inl rfl) _
      · intro x c kl0 yd yp w2 cnt2 hkey hlk hl2 hv hat hrg2 hlt hg2 hs2 hen
        obtain rfl := HO.out _ (law2.key hkey) hlk
        rw [WideAt.sameKey_self hkn] at hl2
        cases hl2
end Go.Proofs.Ybulkbapc

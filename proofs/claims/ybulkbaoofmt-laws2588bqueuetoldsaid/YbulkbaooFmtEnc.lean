/- zzs2588benc. -/
import Derived.Test.YbulkbaooFmtSend
namespace Go.Proofs.YbulkbaooFmt
open Go.ChangeShapes Go.WideShapes Go.ChangeAt Go.RowKit
set_option linter.unusedVariables false

/-- The AVPs that came in: below block B. -/
def InRow (B : Nat) (w : World) (pa : Option Addr) (L : List Av) : Prop :=
  L ≠ [] → ∃ b o, pa = some ⟨b, o, none⟩ ∧ b < B ∧
    ∀ k a, L[k]? = some a → w.cell? ⟨b, o + k * 4, none⟩ = some (.int .u32 a.cd) ∧ w.cell? ⟨b, o + k * 4 + 1, none⟩ = some (.int .u8 a.fl) ∧ w.cell? ⟨b, o + k * 4 + 2, none⟩ = some (.int .u32 a.vi) ∧ w.cell? ⟨b, o + k * 4 + 3, none⟩ = some (.slice a.q a.m a.d)

theorem InRow.later {B : Nat} {w w' : World} {pa : Option Addr} {L : List Av} (h : InRow B w pa L) (hb : Below B w w') : InRow B w' pa L := fun h0 => by
  obtain ⟨b, o, hp, hlt, hc⟩ := h h0
  refine ⟨b, o, hp, hlt, fun k a ha => ?_⟩
  obtain ⟨c0, c1, c2, c3⟩ := hc k a ha
  exact ⟨(hb.cell (p := ⟨b, _, none⟩) hlt).trans c0, (hb.cell (p := ⟨b, _, none⟩) hlt).trans c1, (hb.cell (p := ⟨b, _, none⟩) hlt).trans c2, (hb.cell (p := ⟨b, _, none⟩) hlt).trans c3⟩

theorem b24_small (x : Int) (h0 : 0 ≤ x) (h1 : x ≤ 16777215) : [x / 65536, x / 256 % 256, x % 256] = b24 x := by
  unfold b24
  rw [show x / 65536 % 256 = x / 65536 by omega]

theorem pd_more {m j : Nat} (h : j < (4 - m % 4) % 4) : (((m : Int) + (j : Int)) % 4 != 0) = true := by
  simp; omega
theorem pd_done {m j : Nat} (h : j = (4 - m % 4) % 4) : (((m : Int) + (j : Int)) % 4 != 0) = false := by
  simp; omega

set_option maxRecDepth 100000 in
set_option maxHeartbeats 1000000 in
theorem benc_8 (fl cd ap hh ee : Int) (pa : Option Addr) (no ca : Nat) (L : List Av) (p : Option Addr) (n c : Nat) (xs : List Int) (w : World) (B : Nat)
    (k0 : 0 ≤ cd) (k1 : cd ≤ 4294967295) (k2 : 0 ≤ ap) (k3 : ap ≤ 4294967295) (k4 : 0 ≤ fl) (k5 : fl ≤ 255) (k6 : 0 ≤ hh) (k7 : hh ≤ 4294967295) (k8 : 0 ≤ ee) (k9 : ee ≤ 4294967295)
    (hown : Owns w B (.slice p n c) n xs) (hn : n ≤ 100000000) (hB : B ≤ w.heap.size)
    (hL : InRow B w pa L) (hno : L.length = no) (hno1 : no ≤ 1024) (hok : ∀ a ∈ L, a.ok ∧ BytesUnder B w a.q a.ys) (hbig : 20 + (L.flatMap Av.enc).length ≤ 16777215) :
    Calls Ybaf.prog 8 #[.slice p n c, .int .u8 fl, .int .u32 cd, .int .u32 ap, .int .u32 hh, .int .u32 ee, .slice pa no ca] w fun e w' => ∃ p' n' c', e = .returned (.slice p' n' c') ∧ Owns w' B (.slice p' n' c') n' (xs ++ encM fl cd ap hh ee L) ∧ App w (.slice p n c) w' (.slice p' n' c') ∧ n' ≤ c' := by
  go_enter Ybaf.func8, Ybaf.ntmps8
  go_wp2_with (at_builtin; go_must (refine wpList_app2 rfl _ _ rfl B (.slice p n c) n xs rfl (some ⟨w.heap.size, 0, none⟩) 8 8 ([1, 0, 0, 0, fl] ++ b24 cd) rfl rfl (hown.alloc _) (BytesAt.lit _ ([1, 0, 0, 0, fl] ++ b24 cd) _) (by omega) (by simp; omega) ?_))
  intro p1 c1 w1 hown1 happ1 hc1
  have hA1 := (App.alloc w (.slice p n c) _).trans happ1
  have hz1 : w.heap.size ≤ w1.heap.size := hA1.grew.size
  clear happ1
  go_wp2_with fail
  refine (u32_12 _ _ _ _ _ _ B k2 k3 hown1 (by omega) (by omega)).mono ?_
  rintro e w2 ⟨p2, c2, rfl, hown2, happ2, hc2⟩
  have hA2 := hA1.trans happ2
  have hz2 : w.heap.size ≤ w2.heap.size := hA2.grew.size
  clear hA1 hown1 hc1 happ2
  go_wp2_with fail
  refine (u32_12 _ _ _ _ _ _ B k6 k7 hown2 (by omega) (by omega)).mono ?_
  rintro e w3 ⟨p3, c3, rfl, hown3, happ3, hc3⟩
  have hA3 := hA2.trans happ3
  have hz3 : w.heap.size ≤ w3.heap.size := hA3.grew.size
  clear hA2 hown2 hc2 happ3
  go_wp2_with fail
  refine (u32_12 _ _ _ _ _ _ B k8 k9 hown3 (by omega) (by omega)).mono ?_
  rintro e w4 ⟨p4, c4, rfl, hown4, happ4, hc4⟩
  have hA4 := hA3.trans happ4
  have hz4 : w.heap.size ≤ w4.heap.size := hA4.grew.size
  clear hA3 hown3 hc3 happ4
  go_wp2_with fail
  go_loopg [0, 16] L.length (fun gk b i wr => ∃ (k : Nat) (p' : Option Addr) (n' c' : Nat), gk + k = L.length ∧ i = .int .i64 (k : Int) ∧ b = .slice p' n' c' ∧
    Owns wr B (.slice p' n' c') n' (xs ++ ([1, 0, 0, 0, fl] ++ b24 cd ++ b32 ap ++ b32 hh ++ b32 ee) ++ (L.take k).flatMap Av.enc) ∧ App w (.slice p n c) wr (.slice p' n' c') ∧ n' ≤ c')
  case atStart => exact ⟨0, _, _, _, rfl, rfl, rfl, by simpa [List.append_assoc] using hown4, hA4, hc4⟩
  case round =>
    obtain ⟨k, p', n', c', hk, rfl, rfl, hown', hA', hc'⟩ := hrel
    obtain ⟨wo, rfl⟩ : ∃ wo, wo = wr := ⟨wr, rfl⟩
    obtain ⟨go, rfl⟩ : ∃ go, go = gk := ⟨gk, rfl⟩
    have hzr : w.heap.size ≤ wo.heap.size := hA'.grew.size
    by_cases hlt : k < L.length
    · have ha : L[k]? = some L[k] := List.getElem?_eq_getElem hlt
      obtain ⟨hka, hkb⟩ := hok L[k] (List.getElem_mem hlt)
      have hL' := hL.later (hown.under hB hA')
      obtain ⟨g, og, hpo, hgB, hcur⟩ := hL' (by intro h; rw [h] at hlt; simp at hlt)
      obtain ⟨q0, q1, q2, q3⟩ := hcur k _ ha
      generalize L[k] = av at hka hkb q0 q1 q2 q3 ha
      obtain ⟨acd, afl, avi, aq, am, ad, ays⟩ := av
      obtain ⟨a0, a1, a2, a3, a4, a5, alen, asm⟩ := hka
      dsimp only at a0 a1 a2 a3 a4 a5 alen asm q0 q1 q2 q3 hkb
      subst hpo
      clear hcur hL' hL
      have hki : (k : Int) < (no : Int) := by omega
      have hgl : g < wo.heap.size := by omega
      have hnm : n' ≤ 1000000000 := by
        have h1 := hown'.len
        have h2 : ((L.take k).flatMap Av.enc).length ≤ (L.flatMap Av.enc).length := by
          conv => rhs; rw [← List.take_append_drop k L]
          rw [List.flatMap_append, List.length_append]
          omega
        have h3 := hown.len
        simp only [List.length_append, b24, b32, List.length_cons, List.length_nil] at h1
        omega
      cases hv : (bits BinOp.and IntKind.u8 afl 128 != 0) with
      | true =>
        go_wp2_with fail
        refine (u32_12 _ _ _ _ _ _ B a0 a1 (Owns.alloc hown' _) (by omega) (by simp; omega)).mono ?_
        rintro e w5 ⟨p5, c5, rfl, hown5, happ5, hc5⟩
        have hA5 := hA'.trans ((App.alloc _ _ _).trans happ5)
        obtain ⟨hT5, hne5⟩ := (Box.new wo #[.int .u32 acd, .int .u8 afl, .int .u32 avi, .slice aq am ad] 26).app hown'.fresh happ5
        clear happ5 q0 q1 q2 q3
        obtain ⟨t0, t1, t2, t3⟩ := hT5.c4
        have hz5 : wo.heap.size < w5.heap.size := hT5.lt
        go_wp2_with (at_builtin; go_must (refine wpList_app2 rfl _ _ rfl B _ _ _ rfl (some ⟨w5.heap.size, 0, none⟩) 4 4 [afl, (12 + (am : Int)) / 65536, (12 + (am : Int)) / 256 % 256, (12 + (am : Int)) % 256] rfl rfl (hown5.alloc _) (BytesAt.lit _ [afl, (12 + (am : Int)) / 65536, (12 + (am : Int)) / 256 % 256, (12 + (am : Int)) % 256] _) (by omega) (by simp; omega) ?_))
        intro p6 c6 w6 hown6 happ6 hc6
        have hA6 := hA5.trans ((App.alloc _ _ _).trans happ6)
        obtain ⟨hT6, hne6⟩ := hT5.app hne5 ((App.alloc _ _ _).trans happ6)
        clear happ6 t0 t1 t2 t3 hA5 hown5 hc5 hT5 hne5
        obtain ⟨t0, t1, t2, t3⟩ := hT6.c4
        have hz6 : wo.heap.size < w6.heap.size := hT6.lt
        go_wp2_with fail
        refine (u32_12 _ _ _ _ _ _ B a4 a5 hown6 (by omega) (by omega)).mono ?_
        rintro e w7 ⟨p7, c7, rfl, hown7, happ7, hc7⟩
        have hA7 := hA6.trans happ7
        obtain ⟨hT7, hne7⟩ := hT6.app hne6 happ7
        clear happ7 t0 t1 t2 t3 hA6 hown6 hc6 hT6 hne6
        obtain ⟨t0, t1, t2, t3⟩ := hT7.c4
        have hz7 : wo.heap.size < w7.heap.size := hT7.lt
        have hd7 : BytesAt w7 aq ays := (hkb.later (hown.under hB hA7)).at (by omega)
        go_wp2_with (at_builtin; go_must (refine wpList_app2 rfl _ _ rfl B _ _ _ rfl aq am ad ays rfl alen hown7 hd7 (by omega) (by omega) ?_))
        intro p8 c8 w8 hown8 happ8 hc8
        have hA8 := hA7.trans happ8
        obtain ⟨hT8, hne8⟩ := hT7.app hne7 happ8
        clear happ8 t0 t1 t2 t3 hA7 hown7 hc7 hT7 hne7 hd7
        have hz8 : wo.heap.size < w8.heap.size := hT8.lt
        obtain ⟨zs, hzs, hown9⟩ : ∃ zs, Hid (zs = xs ++ ([1, 0, 0, 0, fl] ++ b24 cd ++ b32 ap ++ b32 hh ++ b32 ee) ++ (L.take k).flatMap Av.enc ++ (b32 acd ++ [afl] ++ b24 (12 + (am : Int)) ++ b32 avi ++ ays)) ∧ Owns w8 B (.slice p8 (n' + 4 + 4 + 4 + am) c8) (n' + 4 + 4 + 4 + am) zs :=
          ⟨_, rfl, by rw [← b24_small (12 + (am : Int)) (by omega) (by omega)]; simpa [List.append_assoc] using hown8⟩
        clear hown8
        go_wp2_with fail
        go_loopg [0, 20] ((4 - am % 4) % 4) (fun gj b i wi => ∃ (j : Nat) (p9 : Option Addr) (n9 c9 : Nat), gj + j = (4 - am % 4) % 4 ∧ i = .int .i64 (j : Int) ∧ b = .slice p9 n9 c9 ∧
          Owns wi B (.slice p9 n9 c9) n9 (zs ++ List.replicate j 0) ∧ App w (.slice p n c) wi (.slice p9 n9 c9) ∧ n9 ≤ c9 ∧ n9 ≤ 1000000000 + 4 + 4 + 4 + am + j ∧ Box wi wo.heap.size #[.int .u32 acd, .int .u8 afl, .int .u32 avi, .slice aq am ad] 26 ∧ some wo.heap.size ≠ (Value.slice p9 n9 c9).ownBlock)
        case atStart => exact ⟨0, _, _, _, rfl, rfl, rfl, by simpa using hown9, hA8, hc8, by omega, hT8, hne8⟩
        case round =>
          obtain ⟨j, p9, n9, c9, hj, rfl, rfl, hown', hA', hc', hn9, hT9, hne9⟩ := hrel
          clear hown9 hA8 hc8 hT8 hne8 hz8
          obtain ⟨t0, t1, t2, t3⟩ := hT9.c4
          have hz9 : w.heap.size ≤ wr.heap.size := hA'.grew.size
          by_cases hjl : j < (4 - am % 4) % 4
          · have ht := pd_more hjl
            go_wp2_with (at_builtin; go_must (refine wpList_app2 rfl _ _ rfl B _ _ _ rfl (some ⟨wr.heap.size, 0, none⟩) 1 1 [0] rfl rfl (Owns.alloc hown' _) (BytesAt.lit _ [0] _) (by omega) (by simp; omega) ?_))
            intro p10 c10 w10 hown10 happ10 hc10
            have hA10 := hA'.trans ((App.alloc _ _ _).trans happ10)
            obtain ⟨hT10, hne10⟩ := hT9.app hne9 ((App.alloc _ _ _).trans happ10)
            go_wp2_with fail
            go_roundg (gk - 1)
            case measure => omega
            case rel => exact ⟨j + 1, p10, n9 + 1, c10, by omega, by go_num, rfl, by rw [List.replicate_succ', ← List.append_assoc]; simpa using hown10, hA10, hc10, by omega, hT10, hne10⟩
          · have hje : j = (4 - am % 4) % 4 := by omega
            have ht := pd_done hje
            go_wp2_with fail
            go_roundg (go - 1)
            case measure => omega
            case rel =>
              refine ⟨k + 1, p9, n9, c9, by omega, by go_num, rfl, ?_, hA', hc'⟩
              rw [List.take_succ_eq_append_getElem hlt, List.flatMap_append, ← List.append_assoc]
              have ha' : L[k] = ⟨acd, afl, avi, aq, am, ad, ays⟩ := by
                have := List.getElem?_eq_getElem hlt
                rw [ha] at this
                exact (Option.some.inj this).symm
              rw [ha']
              have hv' : vend afl = true := hv
              rw [hzs.out, hje] at hown'
              simpa [Av.enc, encA, hl, hv', alen, List.append_assoc] using hown'
      | false =>
        go_wp2_with fail
        refine (u32_12 _ _ _ _ _ _ B a0 a1 (Owns.alloc hown' _) (by omega) (by simp; omega)).mono ?_
        rintro e w5 ⟨p5, c5, rfl, hown5, happ5, hc5⟩
        have hA5 := hA'.trans ((App.alloc _ _ _).trans happ5)
        obtain ⟨hT5, hne5⟩ := (Box.new wo #[.int .u32 acd, .int .u8 afl, .int .u32 avi, .slice aq am ad] 26).app hown'.fresh happ5
        clear happ5 q0 q1 q2 q3
        obtain ⟨t0, t1, t2, t3⟩ := hT5.c4
        have hz5 : wo.heap.size < w5.heap.size := hT5.lt
        go_wp2_with (at_builtin; go_must (refine wpList_app2 rfl _ _ rfl B _ _ _ rfl (some ⟨w5.heap.size, 0, none⟩) 4 4 [afl, (8 + (am : Int)) / 65536, (8 + (am : Int)) / 256 % 256, (8 + (am : Int)) % 256] rfl rfl (hown5.alloc _) (BytesAt.lit _ [afl, (8 + (am : Int)) / 65536, (8 + (am : Int)) / 256 % 256, (8 + (am : Int)) % 256] _) (by omega) (by simp; omega) ?_))
        intro p6 c6 w6 hown6 happ6 hc6
        have hA6 := hA5.trans ((App.alloc _ _ _).trans happ6)
        obtain ⟨hT6, hne6⟩ := hT5.app hne5 ((App.alloc _ _ _).trans happ6)
        clear happ6 t0 t1 t2 t3 hA5 hown5 hc5 hT5 hne5
        obtain ⟨t0, t1, t2, t3⟩ := hT6.c4
        have hz6 : wo.heap.size < w6.heap.size := hT6.lt
        have hd7 : BytesAt w6 aq ays := (hkb.later (hown.under hB hA6)).at (by omega)
        go_wp2_with (at_builtin; go_must (refine wpList_app2 rfl _ _ rfl B _ _ _ rfl aq am ad ays rfl alen hown6 hd7 (by omega) (by omega) ?_))
        intro p8 c8 w8 hown8 happ8 hc8
        have hA8 := hA6.trans happ8
        obtain ⟨hT8, hne8⟩ := hT6.app hne6 happ8
        clear happ8 t0 t1 t2 t3 hA6 hown6 hc6 hT6 hne6 hd7
        have hz8 : wo.heap.size < w8.heap.size := hT8.lt
        obtain ⟨zs, hzs, hown9⟩ : ∃ zs, Hid (zs = xs ++ ([1, 0, 0, 0, fl] ++ b24 cd ++ b32 ap ++ b32 hh ++ b32 ee) ++ (L.take k).flatMap Av.enc ++ (b32 acd ++ [afl] ++ b24 (8 + (am : Int)) ++ ays)) ∧ Owns w8 B (.slice p8 (n' + 4 + 4 + am) c8) (n' + 4 + 4 + am) zs :=
          ⟨_, rfl, by rw [← b24_small (8 + (am : Int)) (by omega) (by omega)]; simpa [List.append_assoc] using hown8⟩
        clear hown8
        go_wp2_with fail
        go_loopg [0, 20] ((4 - am % 4) % 4) (fun gj b i wi => ∃ (j : Nat) (p9 : Option Addr) (n9 c9 : Nat), gj + j = (4 - am % 4) % 4 ∧ i = .int .i64 (j : Int) ∧ b = .slice p9 n9 c9 ∧
          Owns wi B (.slice p9 n9 c9) n9 (zs ++ List.replicate j 0) ∧ App w (.slice p n c) wi (.slice p9 n9 c9) ∧ n9 ≤ c9 ∧ n9 ≤ 1000000000 + 4 + 4 + am + j ∧ Box wi wo.heap.size #[.int .u32 acd, .int .u8 afl, .int .u32 avi, .slice aq am ad] 26 ∧ some wo.heap.size ≠ (Value.slice p9 n9 c9).ownBlock)
        case atStart => exact ⟨0, _, _, _, rfl, rfl, rfl, by simpa using hown9, hA8, hc8, by omega, hT8, hne8⟩
        case round =>
          obtain ⟨j, p9, n9, c9, hj, rfl, rfl, hown', hA', hc', hn9, hT9, hne9⟩ := hrel
          clear hown9 hA8 hc8 hT8 hne8 hz8
          obtain ⟨t0, t1, t2, t3⟩ := hT9.c4
          have hz9 : w.heap.size ≤ wr.heap.size := hA'.grew.size
          by_cases hjl : j < (4 - am % 4) % 4
          · have ht := pd_more hjl
            go_wp2_with (at_builtin; go_must (refine wpList_app2 rfl _ _ rfl B _ _ _ rfl (some ⟨wr.heap.size, 0, none⟩) 1 1 [0] rfl rfl (Owns.alloc hown' _) (BytesAt.lit _ [0] _) (by omega) (by simp; omega) ?_))
            intro p10 c10 w10 hown10 happ10 hc10
            have hA10 := hA'.trans ((App.alloc _ _ _).trans happ10)
            obtain ⟨hT10, hne10⟩ := hT9.app hne9 ((App.alloc _ _ _).trans happ10)
            go_wp2_with fail
            go_roundg (gk - 1)
            case measure => omega
            case rel => exact ⟨j + 1, p10, n9 + 1, c10, by omega, by go_num, rfl, by rw [List.replicate_succ', ← List.append_assoc]; simpa using hown10, hA10, hc10, by omega, hT10, hne10⟩
          · have hje : j = (4 - am % 4) % 4 := by omega
            have ht := pd_done hje
            go_wp2_with fail
            go_roundg (go - 1)
            case measure => omega
            case rel =>
              refine ⟨k + 1, p9, n9, c9, by omega, by go_num, rfl, ?_, hA', hc'⟩
              rw [List.take_succ_eq_append_getElem hlt, List.flatMap_append, ← List.append_assoc]
              have ha' : L[k] = ⟨acd, afl, avi, aq, am, ad, ays⟩ := by
                have := List.getElem?_eq_getElem hlt
                rw [ha] at this
                exact (Option.some.inj this).symm
              rw [ha']
              have hv' : vend afl = false := hv
              rw [hzs.out, hje] at hown'
              simpa [Av.enc, encA, hl, hv', alen, List.append_assoc] using hown'
    · have hn1 : n + 20 ≤ n' := by
        have h1 := hown'.len
        have h3 := hown.len
        simp only [List.length_append, b24, b32, List.length_cons, List.length_nil] at h1
        omega
      have hn2 : n' ≤ n + 16777215 := by
        have h1 := hown'.len
        have h3 := hown.len
        rw [List.take_of_length_le (by omega)] at h1
        simp only [List.length_append, b24, b32, List.length_cons, List.length_nil] at h1
        omega
      obtain ⟨gq, cur, rfl, hgB, hBx, hcs, hnc, hcm, htk⟩ := hown'.row (by omega)
      have hcl : ∀ i, i < n' → wo.cell? ⟨gq, i, none⟩ = some (cur[i]?.getD .nilIface) := fun i hi => by
        rw [cell_of_row _ _ _ _ _ _ hBx]
        rw [Array.getElem?_eq_getElem (by omega)]
        rfl
      have hcl1 := hcl (n + 1) (by omega)
      have hcl2 := hcl (n + 2) (by omega)
      have hcl3 := hcl (n + 3) (by omega)
      have hf1 := hBx.free (n + 1)
      have hf2 := hBx.free (n + 2)
      have hf3 := hBx.free (n + 3)
      clear hcl htk
      go_wp2
      go_ret
      have hNn : (n' : Int) - (n : Int) = 20 + ((L.flatMap Av.enc).length : Int) := by
        have h1 := hown'.len
        have h3 := hown.len
        rw [List.take_of_length_le (by omega)] at h1
        simp only [List.length_append, b24, b32, List.length_cons, List.length_nil] at h1
        omega
      refine ⟨_, n', c', rfl, ?_, ((hA'.setOwn rfl _ _).setOwn rfl _ _).setOwn rfl _ _, hc'⟩
      rw [List.take_of_length_le (by omega)] at hown'
      have hset := ((hown'.set (n + 1) (((n' : Int) - n) / 65536)).set (n + 1 + 1) (((n' : Int) - n) / 256 % 256)).set (n + 1 + 2) (((n' : Int) - n) % 256)
      rw [List.append_assoc, show ([1, 0, 0, 0, fl] ++ b24 cd ++ b32 ap ++ b32 hh ++ b32 ee ++ L.flatMap Av.enc) = 1 :: 0 :: 0 :: 0 :: ([fl] ++ b24 cd ++ b32 ap ++ b32 hh ++ b32 ee ++ L.flatMap Av.enc) from rfl, set3 _ _ _ hown.len, hNn] at hset
      rw [hNn]
      exact hset
end Go.Proofs.YbulkbaooFmt

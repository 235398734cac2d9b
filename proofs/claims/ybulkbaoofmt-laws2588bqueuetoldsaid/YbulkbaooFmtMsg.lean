/- (*Message).AppendBinary. -/
import Derived.Test.YbulkbaooFmtAvp
import Derived.Deep.LoopGhost
namespace Go.Proofs.YbulkbaooFmt
open Go.ChangeShapes Go.WideShapes Go.ChangeAt Go.RowKit
set_option linter.unusedVariables false

/-- One AVP: its numbers, where its data lie, the data. -/
structure Av where
  cd : Int
  fl : Int
  vi : Int
  q : Option Addr
  m : Nat
  d : Nat
  ys : List Int

structure Av.ok (a : Av) : Prop where
  cd0 : 0 ≤ a.cd
  cd1 : a.cd ≤ 4294967295
  fl0 : 0 ≤ a.fl
  fl1 : a.fl ≤ 255
  vi0 : 0 ≤ a.vi
  vi1 : a.vi ≤ 4294967295
  len : a.ys.length = a.m
  small : a.m ≤ 1048576

def Av.enc (a : Av) : List Int := encA a.cd a.fl a.vi a.ys

/-- The AVPs of a message: a row of the call's own, beside v's block. -/
def AvRow (w : World) (po : Option Addr) (v : Value) (L : List Av) : Prop :=
  L ≠ [] → ∃ g cur, po = some ⟨g, 0, none⟩ ∧ Box w g cur 56 ∧ some g ≠ v.ownBlock ∧
    ∀ k a, L[k]? = some a → cur[k * 4]? = some (.int .u32 a.cd) ∧ cur[k * 4 + 1]? = some (.int .u8 a.fl) ∧ cur[k * 4 + 2]? = some (.int .u32 a.vi) ∧ cur[k * 4 + 3]? = some (.slice a.q a.m a.d)

theorem AvRow.app {w w1 : World} {po : Option Addr} {v v1 : Value} {L : List Av} (h : AvRow w po v L) (ha : App w v w1 v1) : AvRow w1 po v1 L := fun h0 => by
  obtain ⟨g, cur, hp, hB, hne, hc⟩ := h h0
  obtain ⟨h1, h2⟩ := hB.app hne ha
  exact ⟨g, cur, hp, h1, h2, hc⟩

theorem Box.c6 {w : World} {b : Nat} {a0 a1 a2 a3 a4 a5 : Value} {t : TypeId} (h : Box w b #[a0, a1, a2, a3, a4, a5] t) :
    w.cell? ⟨b, 0, none⟩ = some a0 ∧ w.cell? ⟨b, 1, none⟩ = some a1 ∧ w.cell? ⟨b, 2, none⟩ = some a2 ∧ w.cell? ⟨b, 3, none⟩ = some a3 ∧ w.cell? ⟨b, 4, none⟩ = some a4 ∧ w.cell? ⟨b, 5, none⟩ = some a5 :=
  ⟨h.cell 0 rfl, h.cell 1 rfl, h.cell 2 rfl, h.cell 3 rfl, h.cell 4 rfl, h.cell 5 rfl⟩

theorem hl_lo (fl : Int) : 8 ≤ hl fl := by unfold hl; split <;> omega
theorem hl_hi (fl : Int) : hl fl ≤ 12 := by unfold hl; split <;> omega
theorem head_any (cd fl vi : Int) (d : Value) (w : World) :
    Calls Ybaf.prog 15 #[.agg #[.int .u32 cd, .int .u8 fl, .int .u32 vi, d]] w fun e w' => e = .returned (.int .i64 (hl fl)) ∧ w' = w.alloc (.cells #[.int .u32 cd, .int .u8 fl, .int .u32 vi, d] 56) := by
  cases hv : vend fl with
  | true => rw [show hl fl = 12 by simp [hl, hv]]; exact head_v cd fl vi d w hv
  | false => rw [show hl fl = 8 by simp [hl, hv]]; exact head_n cd fl vi d w hv

theorem len_wrap64 (h : Int) (m : Nat) (h0 : 0 ≤ h) (h1 : h ≤ 12) (hm : m ≤ 10000000) : IntKind.i64.wrap (h + (m : Int)) = h + (m : Int) := by
  rw [IntKind.wrap_i64]; omega

theorem Owns.row {w : World} {base : Nat} {p : Option Addr} {n c : Nat} {xs : List Int} (h : Owns w base (.slice p n c) n xs) (h0 : 0 < n) :
    ∃ g cur, p = some ⟨g, 0, none⟩ ∧ base ≤ g ∧ Box w g cur 5 ∧ cur.size = c ∧ n ≤ c ∧ c ≤ maxLen ∧ cur.toList.take n = xs.map (Value.int .u8) := by
  rcases h.2 with ⟨e, h1⟩ | ⟨g, cap, cur, e, hb, hg, hn, hm, hs, ht⟩
  · omega
  · simp only [Value.slice.injEq] at e
    obtain ⟨rfl, _, rfl⟩ := e
    exact ⟨g, cur, rfl, hb, hg, by omega, hn, hm, by simpa using ht⟩

/-- A byte of the call's own is written. -/
theorem Owns.set {w : World} {base : Nat} {g n c : Nat} {xs : List Int} (h : Owns w base (.slice (some ⟨g, 0, none⟩) n c) n xs) (i : Nat) (y : Int) :
    Owns (w.setCell ⟨g, i, none⟩ (.int .u8 y)) base (.slice (some ⟨g, 0, none⟩) n c) n (xs.set i y) := by
  rcases h.2 with ⟨e, h1⟩ | ⟨g', cap, cur, e, hb, hg, hn, hm, hs, ht⟩
  · cases e
  · simp only [Value.slice.injEq, Option.some.injEq, Addr.mk.injEq] at e
    obtain ⟨⟨rfl, _⟩, _, rfl⟩ := e
    have hbx : Box w g cur 5 := hg
    refine ⟨by simpa using h.1, .inr ⟨g, c, _, rfl, hb, hbx.set i (.int .u8 y), hn, hm, by simpa using hs, ?_⟩⟩
    rw [Array.toList_setIfInBounds, List.map_set, List.take_set, ht]

theorem App.setOwn {w w1 : World} {v v1 : Value} (h : App w v w1 v1) {g : Nat} (hg : v1.ownBlock = some g) (i : Nat) (u : Value) : App w v (w1.setCell ⟨g, i, none⟩ u) v1 := by
  refine ⟨⟨h.grew.os, h.grew.tape, h.grew.output, Nat.le_trans h.grew.size (by simp [World.setCell]), fun k hk hne => ?_⟩, h.lies⟩
  rw [Below.heap_setCell _ _ _ _ ?_]
  · exact h.grew.block k hk hne
  · intro e
    have e' : k = g := e
    rcases h.lies with e1 | ⟨q, e1, hq⟩
    · exact hne (by rw [← e1, hg, e'])
    · rw [hg] at e1
      simp at e1
      omega

theorem set3 (xs r : List Int) (n : Nat) (hn : xs.length = n) (x0 x1 x2 x3 a b c : Int) :
    (((xs ++ x0 :: x1 :: x2 :: x3 :: r).set (n + 1) a).set (n + 1 + 1) b).set (n + 1 + 2) c = xs ++ x0 :: a :: b :: c :: r := by
  subst hn
  rw [List.set_append_right _ _ (by omega), List.set_append_right _ _ (by omega), List.set_append_right _ _ (by omega)]
  simp [show xs.length + 1 - xs.length = 1 by omega, show xs.length + 1 + 1 - xs.length = 2 by omega, show xs.length + 1 + 2 - xs.length = 3 by omega]

/-- A message's bytes. -/
def encM (fl cd ap hh ee : Int) (L : List Av) : List Int :=
  [1, (20 + ((L.flatMap Av.enc).length : Int)) / 65536, (20 + ((L.flatMap Av.enc).length : Int)) / 256 % 256, (20 + ((L.flatMap Av.enc).length : Int)) % 256, fl] ++ b24 cd ++ b32 ap ++ b32 hh ++ b32 ee ++ L.flatMap Av.enc

set_option maxRecDepth 100000 in
set_option maxHeartbeats 1000000 in
theorem msg_11 (R : Nat) (fl cd ap hh ee : Int) (po : Option Addr) (no co : Nat) (L : List Av) (p : Option Addr) (n c : Nat) (xs : List Int) (w : World) (B : Nat)
    (k0 : 0 ≤ cd) (k1 : cd ≤ 4294967295) (k2 : 0 ≤ ap) (k3 : ap ≤ 4294967295) (k4 : 0 ≤ fl) (k5 : fl ≤ 255) (k6 : 0 ≤ hh) (k7 : hh ≤ 4294967295) (k8 : 0 ≤ ee) (k9 : ee ≤ 4294967295)
    (hR : Box w R #[.int .u8 fl, .int .u32 cd, .int .u32 ap, .int .u32 hh, .int .u32 ee, .slice po no co] 43) (hneR : some R ≠ (Value.slice p n c).ownBlock)
    (hown : Owns w B (.slice p n c) n xs) (hn : n ≤ 100000000) (hB : B ≤ w.heap.size)
    (hL : AvRow w po (.slice p n c) L) (hno : L.length = no) (hno1 : no ≤ 1024) (hok : ∀ a ∈ L, a.ok ∧ BytesUnder B w a.q a.ys) (hbig : 20 + (L.flatMap Av.enc).length ≤ 16777215) :
    Calls Ybaf.prog 11 #[.pointer (some ⟨R, 0, none⟩), .slice p n c] w fun e w' => ∃ p' n' c', e = .returned (.tuple #[.slice p' n' c', .nilIface]) ∧ Owns w' B (.slice p' n' c') n' (xs ++ encM fl cd ap hh ee L) ∧ App w (.slice p n c) w' (.slice p' n' c') ∧ n' ≤ c' := by
  obtain ⟨t0, t1, t2, t3, t4, t5⟩ := hR.c6
  go_enter Ybaf.func11, Ybaf.ntmps11
  go_wp2_with (at_builtin; go_must (refine wpList_app2 rfl _ _ rfl B (.slice p n c) n xs rfl (some ⟨w.heap.size, 0, none⟩) 5 5 [1, 0, 0, 0, fl] rfl rfl (hown.alloc _) (BytesAt.lit _ [1, 0, 0, 0, fl] _) (by omega) (by simp; omega) ?_))
  intro p1 c1 w1 hown1 happ1 hc1
  have hA1 := (App.alloc w (.slice p n c) _).trans happ1
  obtain ⟨hR1, hne1⟩ := hR.app hneR hA1
  have hz1 : w.heap.size ≤ w1.heap.size := hA1.grew.size
  clear happ1 t0 t1 t2 t3 t4 t5 hR hneR
  obtain ⟨t0, t1, t2, t3, t4, t5⟩ := hR1.c6
  go_wp2_with fail
  refine (u24_13 _ _ _ _ _ _ B k0 k1 hown1 (by omega) (by omega)).mono ?_
  rintro e w2 ⟨p2, c2, rfl, hown2, happ2, hc2⟩
  have hA2 := hA1.trans happ2
  obtain ⟨hR2, hne2⟩ := hR1.app hne1 happ2
  have hz2 : w.heap.size ≤ w2.heap.size := hA2.grew.size
  clear happ2 t0 t1 t2 t3 t4 t5 hR1 hne1 hA1 hown1 hc1
  obtain ⟨t0, t1, t2, t3, t4, t5⟩ := hR2.c6
  go_wp2_with fail
  go_region_held3 (fun w' => w'.cell? ⟨R, 2, none⟩ = some (.int .u32 ap)) (go_keep)
    (first | (go_at_call 14; refine (u32_14 _ _ _ _ _ _ B k2 k3 (Owns.drew hown2) (by omega) (by simp; omega)).mono ?_; rintro e w3 ⟨p3, c3, rfl, hown3, happ3, hc3⟩; obtain ⟨hR3, hne3⟩ := hR2.app hne2 ((App.drew _ _).trans happ3); obtain ⟨t0, t1, t2, t3, t4, t5⟩ := hR3.c6))
  have hA3 := hA2.trans ((App.drew _ _).trans happ3)
  have hz3 : w.heap.size ≤ w3.heap.size := hA3.grew.size
  clear happ3 hR2 hne2 hA2 hown2 hc2
  go_wp2_with fail
  go_region_held3 (fun w' => w'.cell? ⟨R, 3, none⟩ = some (.int .u32 hh)) (go_keep)
    (first | (go_at_call 14; refine (u32_14 _ _ _ _ _ _ B k6 k7 (Owns.drew hown3) (by omega) (by simp; omega)).mono ?_; rintro e w4 ⟨p4, c4, rfl, hown4, happ4, hc4⟩; obtain ⟨hR4, hne4⟩ := hR3.app hne3 ((App.drew _ _).trans happ4); obtain ⟨t0, t1, t2, t3, t4, t5⟩ := hR4.c6))
  have hA4 := hA3.trans ((App.drew _ _).trans happ4)
  have hz4 : w.heap.size ≤ w4.heap.size := hA4.grew.size
  clear happ4 hR3 hne3 hA3 hown3 hc3
  go_wp2_with fail
  go_region_held3 (fun w' => w'.cell? ⟨R, 4, none⟩ = some (.int .u32 ee)) (go_keep)
    (first | (go_at_call 14; refine (u32_14 _ _ _ _ _ _ B k8 k9 (Owns.drew hown4) (by omega) (by simp; omega)).mono ?_; rintro e w5 ⟨p5, c5, rfl, hown5, happ5, hc5⟩; obtain ⟨hR5, hne5⟩ := hR4.app hne4 ((App.drew _ _).trans happ5); obtain ⟨t0, t1, t2, t3, t4, t5⟩ := hR5.c6))
  have hA5 := hA4.trans ((App.drew _ _).trans happ5)
  have hz5 : w.heap.size ≤ w5.heap.size := hA5.grew.size
  clear happ5 hR4 hne4 hA4 hown4 hc4
  have hx5 := hown5.len
  go_wp2_with fail
  go_loopg [1, 52] L.length (fun gk b i wr => ∃ (k : Nat) (p' : Option Addr) (n' c' : Nat), gk + k = L.length ∧ i = .int .i64 (k : Int) ∧ b = .slice p' n' c' ∧
    Owns wr B (.slice p' n' c') n' (xs ++ ([1, 0, 0, 0, fl] ++ b24 cd ++ b32 ap ++ b32 hh ++ b32 ee) ++ (L.take k).flatMap Av.enc) ∧ App w (.slice p n c) wr (.slice p' n' c') ∧ n' ≤ c')
  case atStart => exact ⟨0, _, _, _, rfl, rfl, rfl, by simpa [List.append_assoc] using hown5, hA5, hc5⟩
  case round =>
    obtain ⟨k, p', n', c', hk, rfl, rfl, hown', hA', hc'⟩ := hrel
    have hzr : w.heap.size ≤ wr.heap.size := hA'.grew.size
    by_cases hlt : k < L.length
    · have ha : L[k]? = some L[k] := List.getElem?_eq_getElem hlt
      obtain ⟨hka, hkb⟩ := hok L[k] (List.getElem_mem hlt)
      have hL' := hL.app hA'
      obtain ⟨g, cur, hpo, hBx, hneG, hcur⟩ := hL' (by intro h; rw [h] at hlt; simp at hlt)
      obtain ⟨e0, e1, e2, e3⟩ := hcur k _ ha
      have q0 := hBx.cell _ e0
      have q1 := hBx.cell _ e1
      have q2 := hBx.cell _ e2
      have q3 := hBx.cell _ e3
      generalize L[k] = av at hka hkb q0 q1 q2 q3 ha
      obtain ⟨acd, afl, avi, aq, am, ad, ays⟩ := av
      obtain ⟨a0, a1, a2, a3, a4, a5, alen, asm⟩ := hka
      dsimp only at a0 a1 a2 a3 a4 a5 alen asm q0 q1 q2 q3 hkb
      subst hpo
      clear e0 e1 e2 e3 hcur hL' hL
      have hki : (k : Int) < (no : Int) := by omega
      have hgl := hBx.lt
      have hl0 := hl_lo afl
      have hl1 := hl_hi afl
      go_wp2_with fail
      go_region_held3 (fun w' => w'.cell? ⟨wr.heap.size, 0, none⟩ = some (.int .u32 acd) ∧ w'.cell? ⟨wr.heap.size, 1, none⟩ = some (.int .u8 afl) ∧ w'.cell? ⟨wr.heap.size, 2, none⟩ = some (.int .u32 avi) ∧ w'.cell? ⟨wr.heap.size, 3, none⟩ = some (.slice aq am ad)) (go_keep)
        (first | (go_at_call 15; refine (head_any _ _ _ _ _).mono ?_; rintro e w' ⟨rfl, rfl⟩))
      rw [len_wrap64 (hl afl) am (by omega) (by omega) (by omega)]
      clear q0 q1 q2 q3
      have hnm : n' ≤ 1000000000 := by
        have h1 := hown'.len
        have h2 : ((L.take k).flatMap Av.enc).length ≤ (L.flatMap Av.enc).length := by
          conv => rhs; rw [← List.take_append_drop k L]
          rw [List.flatMap_append, List.length_append]
          omega
        have h3 := hown.len
        simp only [List.length_append, b24, b32, List.length_cons, List.length_nil] at h1
        omega
      go_wp2_with fail
      refine (avp_17 p' n' c' _ acd afl avi aq am ad ays _ B a0 a1 a4 a5 a2 a3 (Owns.drew (Owns.alloc (Owns.alloc hown' _) _)) hnm (by omega) (by simp; omega) ?_ alen).mono ?_
      · exact hkb.later ((hown.under hB hA').trans (((Below.refl _ _).alloc (by have := hA'.grew.size; omega) _).alloc (by have := hA'.grew.size; simp; omega) _).drew)
      rintro e w6 ⟨p6, n6, c6, rfl, hown6, happ6, hc6⟩
      have hA6 := hA'.trans ((App.alloc _ _ _).trans ((App.alloc _ _ _).trans ((App.drew _ _).trans happ6)))
      go_wp2_with fail
      go_roundg (gk - 1)
      case measure => omega
      case rel =>
        refine ⟨k + 1, p6, n6, c6, by omega, by go_num, rfl, ?_, hA6, hc6⟩
        rw [List.take_succ_eq_append_getElem hlt, List.flatMap_append, ← List.append_assoc]
        have ha' : L[k] = ⟨acd, afl, avi, aq, am, ad, ays⟩ := by
          have := List.getElem?_eq_getElem hlt
          rw [ha] at this
          exact (Option.some.inj this).symm
        rw [ha']
        simpa [Av.enc] using hown6
    · have hn1 : n + 20 ≤ n' := by
        have h1 := hown'.len
        have h3 := hown.len
        simp only [List.length_append, b24, b32, List.length_cons, List.length_nil] at h1
        omega
      have hn2 : n' ≤ n + 16777215 := by
        have h1 := hown'.len
        have h3 := hown.len
        rw [List.take_of_length_le (by omega)] at h1
        simp only [List.length_append, b24, b32, List.length_cons, List.length_nil] at h1
        omega
      obtain ⟨gq, cur, rfl, hgB, hBx, hcs, hnc, hcm, htk⟩ := hown'.row (by omega)
      have hcl : ∀ i, i < n' → wr.cell? ⟨gq, i, none⟩ = some (cur[i]?.getD .nilIface) := fun i hi => by
        rw [cell_of_row _ _ _ _ _ _ hBx]
        rw [Array.getElem?_eq_getElem (by omega)]
        rfl
      have hfr := fun i => hBx.free i
      have hcl1 := hcl (n + 1) (by omega)
      have hcl2 := hcl (n + 1 + 1) (by omega)
      have hcl3 := hcl (n + 1 + 2) (by omega)
      clear hcl
      go_wp2_with fail
      refine (put_18 gq (n + 1) _ _ _ _ _ _ wr (by omega) (by omega) (by omega) hcl1 hcl2 hcl3 (hfr _) (hfr _) (hfr _)).mono ?_
      rintro e w6 ⟨rfl, rfl⟩
      go_wp2
      go_ret2
      have hNn : (n' : Int) - (n : Int) = 20 + ((L.flatMap Av.enc).length : Int) := by
        have h1 := hown'.len
        have h3 := hown.len
        rw [List.take_of_length_le (by omega)] at h1
        simp only [List.length_append, b24, b32, List.length_cons, List.length_nil] at h1
        omega
      refine ⟨_, n', c', rfl, ?_, ((hA'.setOwn rfl _ _).setOwn rfl _ _).setOwn rfl _ _, hc'⟩
      rw [List.take_of_length_le (by omega)] at hown'
      have hset := ((hown'.set (n + 1) (((n' : Int) - n) / 65536)).set (n + 1 + 1) (((n' : Int) - n) / 256 % 256)).set (n + 1 + 2) (((n' : Int) - n) % 256)
      rw [List.append_assoc, show ([1, 0, 0, 0, fl] ++ b24 cd ++ b32 ap ++ b32 hh ++ b32 ee ++ L.flatMap Av.enc) = 1 :: 0 :: 0 :: 0 :: ([fl] ++ b24 cd ++ b32 ap ++ b32 hh ++ b32 ee ++ L.flatMap Av.enc) from rfl, set3 _ _ _ hown.len, hNn] at hset
      rw [hNn]
      exact hset
end Go.Proofs.YbulkbaooFmt

/- appendAVP. -/
import Derived.Test.YbulkbaooFmtLeaf
import Derived.Deep.RegionHeld3
import Derived.Deep.DeepFit
import Derived.Outline
namespace Go.Proofs.YbulkbaooFmt
open Go.ChangeShapes Go.WideShapes Go.ChangeAt Go.RowKit
set_option linter.unusedVariables false

theorem Box.c4 {w : World} {b : Nat} {a0 a1 a2 a3 : Value} {t : TypeId} (h : Box w b #[a0, a1, a2, a3] t) :
    w.cell? ⟨b, 0, none⟩ = some a0 ∧ w.cell? ⟨b, 1, none⟩ = some a1 ∧ w.cell? ⟨b, 2, none⟩ = some a2 ∧ w.cell? ⟨b, 3, none⟩ = some a3 :=
  ⟨h.cell 0 rfl, h.cell 1 rfl, h.cell 2 rfl, h.cell 3 rfl⟩

theorem len_wrap (h : Int) (m : Nat) (h0 : 0 ≤ h) (h1 : h ≤ 12) (hm : m ≤ 10000000) : IntKind.u32.wrap (IntKind.i64.wrap (h + (m : Int))) = h + (m : Int) := by
  have e : IntKind.i64.wrap (h + (m : Int)) = h + (m : Int) := by rw [IntKind.wrap_i64]; omega
  rw [e]
  simp [IntKind.wrap, IntKind.signed, IntKind.bits]
  omega

set_option maxRecDepth 100000 in
set_option maxHeartbeats 1000000 in
theorem avp_v (p : Option Addr) (n c : Nat) (xs : List Int) (cd fl vi : Int) (q : Option Addr) (m d : Nat) (ys : List Int) (w : World) (B : Nat)
    (k0 : 0 ≤ cd) (k1 : cd ≤ 4294967295) (k2 : 0 ≤ vi) (k3 : vi ≤ 4294967295) (k4 : 0 ≤ fl) (k5 : fl ≤ 255)
    (hown : Owns w B (.slice p n c) n xs) (hn : n ≤ 1000000000) (hm : m ≤ 10000000) (hB : B ≤ w.heap.size) (hy : BytesUnder B w q ys) (hlen : ys.length = m) (hv : (bits BinOp.and IntKind.u8 fl 128 != 0) = true) :
    Calls Ybaf.prog 17 #[.slice p n c, .agg #[.int .u32 cd, .int .u8 fl, .int .u32 vi, .slice q m d]] w fun e w' => ∃ p' n' c', e = .returned (.slice p' n' c') ∧ Owns w' B (.slice p' n' c') n' (xs ++ encA cd fl vi ys) ∧ App w (.slice p n c) w' (.slice p' n' c') ∧ n' ≤ c' := by
  go_enter Ybaf.func17, Ybaf.ntmps17
  go_wp2_with fail
  refine (u32_14 _ _ _ xs _ _ B k0 k1 (hown.alloc _) (by omega) (by simp; omega)).mono ?_
  rintro e w1 ⟨p1, c1, rfl, hown1, happ1, hc1⟩
  have hA1 := (App.alloc w (.slice p n c) _).trans happ1
  obtain ⟨hT1, hne1⟩ := (Box.new w #[.int .u32 cd, .int .u8 fl, .int .u32 vi, .slice q m d] 56).app hown.fresh happ1
  clear happ1
  obtain ⟨t0, t1, t2, t3⟩ := hT1.c4
  have hz1 : w.heap.size < w1.heap.size := hT1.lt
  go_wp2_with (at_builtin; go_must (refine wpList_app2 rfl _ _ rfl B (.slice p1 (n + 4) c1) (n + 4) (xs ++ b32 cd) rfl (some ⟨w1.heap.size, 0, none⟩) 1 1 [fl] rfl rfl (hown1.alloc _) (BytesAt.lit _ [fl] _) (by omega) (by simp; omega) ?_))
  intro p2 c2 w2 hown2 happ2 hc2
  have hA2 := hA1.trans ((App.alloc w1 (.slice p1 (n + 4) c1) _).trans happ2)
  obtain ⟨hT2, hne2⟩ := hT1.app hne1 ((App.alloc w1 (.slice p1 (n + 4) c1) _).trans happ2)
  clear t0 t1 t2 t3 hA1 hT1 hne1 happ2 hown1 hc1
  obtain ⟨t0, t1, t2, t3⟩ := hT2.c4
  have hz2 : w.heap.size < w2.heap.size := hT2.lt
  go_wp2_with fail
  go_region_held3 (fun w' => w'.cell? ⟨w.heap.size, 0, none⟩ = some (.int .u32 cd) ∧ w'.cell? ⟨w.heap.size, 1, none⟩ = some (.int .u8 fl) ∧ w'.cell? ⟨w.heap.size, 2, none⟩ = some (.int .u32 vi) ∧ w'.cell? ⟨w.heap.size, 3, none⟩ = some (.slice q m d)) (go_keep)
    (first | (go_at_call 15; refine (head_v _ _ _ _ _ hv).mono ?_; rintro e w' ⟨rfl, rfl⟩) | (go_at_call 13; rw [len_wrap 12 m (by omega) (by omega) hm]; refine (u24_13 _ _ _ _ _ _ B (by omega) (by omega) (Owns.drew (Owns.alloc hown2 _)) (by omega) (by simp; omega)).mono ?_; rintro e w3 ⟨p3, c3, rfl, hown3, happ3, hc3⟩; obtain ⟨hT3, hne3⟩ := hT2.app hne2 ((App.alloc _ _ _).trans ((App.drew _ _).trans happ3)); obtain ⟨t0, t1, t2, t3⟩ := hT3.c4))
  have hA3 := hA2.trans ((App.alloc _ _ _).trans ((App.drew _ _).trans happ3))
  have hz3 : w.heap.size < w3.heap.size := hT3.lt
  clear hown2 hT2 hne2 hc2 hA2 happ3
  go_wp2_with fail
  refine (u32_14 _ _ _ _ _ _ B k2 k3 hown3 (by omega) (by omega)).mono ?_
  rintro e w4 ⟨p4, c4, rfl, hown4, happ4, hc4⟩
  have hA4 := hA3.trans happ4
  obtain ⟨hT4, hne4⟩ := hT3.app hne3 happ4
  clear hA3 hT3 hne3 happ4 hown3 hc3
  obtain ⟨t0, t1, t2, t3⟩ := hT4.c4
  have hz4 : w.heap.size < w4.heap.size := hT4.lt
  have hy4 : BytesAt w4 q ys := (hy.later (hown.under hB hA4)).at (by omega)
  go_wp2_with (at_builtin; go_must (refine wpList_app2 rfl _ _ rfl B _ _ _ rfl q m d ys rfl hlen hown4 hy4 (by omega) (by omega) ?_))
  intro p5 c5 w5 hown5 happ5 hc5
  have hA5 := hA4.trans happ5
  obtain ⟨hT5, hne5⟩ := hT4.app hne4 happ5
  clear hA4 hT4 hne4 happ5 hown4 hc4
  obtain ⟨t0, t1, t2, t3⟩ := hT5.c4
  have hz5 : w.heap.size < w5.heap.size := hT5.lt
  go_wp2_with fail
  refine (pad_20 m _ (by omega)).mono ?_
  rintro e w' ⟨rfl, rfl⟩
  go_wp2_with (at_builtin; go_must (refine wpList_zeros rfl _ _ rfl B _ _ _ rfl ((4 - m % 4) % 4) rfl hown5 (by omega) (by omega) ?_))
  intro p6 c6 w6 hown6 happ6 hc6
  have hA6 := hA5.trans happ6
  go_wp2
  go_ret
  refine ⟨p6, _, c6, rfl, ?_, hA6, hc6⟩
  have e : encA cd fl vi ys = b32 cd ++ [fl] ++ b24 (12 + (m : Int)) ++ b32 vi ++ ys ++ List.replicate ((4 - m % 4) % 4) 0 := by
    have hv' : vend fl = true := hv
    simp [encA, hl, hv', hlen]
  rw [e]
  simpa [List.append_assoc] using hown6

set_option maxRecDepth 100000 in
set_option maxHeartbeats 1000000 in
theorem avp_n (p : Option Addr) (n c : Nat) (xs : List Int) (cd fl vi : Int) (q : Option Addr) (m d : Nat) (ys : List Int) (w : World) (B : Nat)
    (k0 : 0 ≤ cd) (k1 : cd ≤ 4294967295) (k2 : 0 ≤ vi) (k3 : vi ≤ 4294967295) (k4 : 0 ≤ fl) (k5 : fl ≤ 255)
    (hown : Owns w B (.slice p n c) n xs) (hn : n ≤ 1000000000) (hm : m ≤ 10000000) (hB : B ≤ w.heap.size) (hy : BytesUnder B w q ys) (hlen : ys.length = m) (hv : (bits BinOp.and IntKind.u8 fl 128 != 0) = false) :
    Calls Ybaf.prog 17 #[.slice p n c, .agg #[.int .u32 cd, .int .u8 fl, .int .u32 vi, .slice q m d]] w fun e w' => ∃ p' n' c', e = .returned (.slice p' n' c') ∧ Owns w' B (.slice p' n' c') n' (xs ++ encA cd fl vi ys) ∧ App w (.slice p n c) w' (.slice p' n' c') ∧ n' ≤ c' := by
  go_enter Ybaf.func17, Ybaf.ntmps17
  go_wp2_with fail
  refine (u32_14 _ _ _ xs _ _ B k0 k1 (hown.alloc _) (by omega) (by simp; omega)).mono ?_
  rintro e w1 ⟨p1, c1, rfl, hown1, happ1, hc1⟩
  have hA1 := (App.alloc w (.slice p n c) _).trans happ1
  obtain ⟨hT1, hne1⟩ := (Box.new w #[.int .u32 cd, .int .u8 fl, .int .u32 vi, .slice q m d] 56).app hown.fresh happ1
  clear happ1
  obtain ⟨t0, t1, t2, t3⟩ := hT1.c4
  have hz1 : w.heap.size < w1.heap.size := hT1.lt
  go_wp2_with (at_builtin; go_must (refine wpList_app2 rfl _ _ rfl B (.slice p1 (n + 4) c1) (n + 4) (xs ++ b32 cd) rfl (some ⟨w1.heap.size, 0, none⟩) 1 1 [fl] rfl rfl (hown1.alloc _) (BytesAt.lit _ [fl] _) (by omega) (by simp; omega) ?_))
  intro p2 c2 w2 hown2 happ2 hc2
  have hA2 := hA1.trans ((App.alloc w1 (.slice p1 (n + 4) c1) _).trans happ2)
  obtain ⟨hT2, hne2⟩ := hT1.app hne1 ((App.alloc w1 (.slice p1 (n + 4) c1) _).trans happ2)
  clear t0 t1 t2 t3 hA1 hT1 hne1 happ2 hown1 hc1
  obtain ⟨t0, t1, t2, t3⟩ := hT2.c4
  have hz2 : w.heap.size < w2.heap.size := hT2.lt
  go_wp2_with fail
  go_region_held3 (fun w' => w'.cell? ⟨w.heap.size, 0, none⟩ = some (.int .u32 cd) ∧ w'.cell? ⟨w.heap.size, 1, none⟩ = some (.int .u8 fl) ∧ w'.cell? ⟨w.heap.size, 2, none⟩ = some (.int .u32 vi) ∧ w'.cell? ⟨w.heap.size, 3, none⟩ = some (.slice q m d)) (go_keep)
    (first | (go_at_call 15; refine (head_n _ _ _ _ _ hv).mono ?_; rintro e w' ⟨rfl, rfl⟩) | (go_at_call 13; rw [len_wrap 8 m (by omega) (by omega) hm]; refine (u24_13 _ _ _ _ _ _ B (by omega) (by omega) (Owns.drew (Owns.alloc hown2 _)) (by omega) (by simp; omega)).mono ?_; rintro e w3 ⟨p3, c3, rfl, hown3, happ3, hc3⟩; obtain ⟨hT3, hne3⟩ := hT2.app hne2 ((App.alloc _ _ _).trans ((App.drew _ _).trans happ3)); obtain ⟨t0, t1, t2, t3⟩ := hT3.c4))
  have hA3 := hA2.trans ((App.alloc _ _ _).trans ((App.drew _ _).trans happ3))
  have hz3 : w.heap.size < w3.heap.size := hT3.lt
  clear hown2 hT2 hne2 hc2 hA2 happ3
  have hy4 : BytesAt w3 q ys := (hy.later (hown.under hB hA3)).at (by omega)
  go_wp2_with (at_builtin; go_must (refine wpList_app2 rfl _ _ rfl B _ _ _ rfl q m d ys rfl hlen hown3 hy4 (by omega) (by omega) ?_))
  intro p5 c5 w5 hown5 happ5 hc5
  have hA5 := hA3.trans happ5
  obtain ⟨hT5, hne5⟩ := hT3.app hne3 happ5
  clear hA3 hT3 hne3 happ5 hown3 hc3
  obtain ⟨t0, t1, t2, t3⟩ := hT5.c4
  have hz5 : w.heap.size < w5.heap.size := hT5.lt
  go_wp2_with fail
  refine (pad_20 m _ (by omega)).mono ?_
  rintro e w' ⟨rfl, rfl⟩
  go_wp2_with (at_builtin; go_must (refine wpList_zeros rfl _ _ rfl B _ _ _ rfl ((4 - m % 4) % 4) rfl hown5 (by omega) (by omega) ?_))
  intro p6 c6 w6 hown6 happ6 hc6
  have hA6 := hA5.trans happ6
  go_wp2
  go_ret
  refine ⟨p6, _, c6, rfl, ?_, hA6, hc6⟩
  have e : encA cd fl vi ys = b32 cd ++ [fl] ++ b24 (8 + (m : Int)) ++ ys ++ List.replicate ((4 - m % 4) % 4) 0 := by
    have hv' : vend fl = false := hv
    simp [encA, hl, hv', hlen]
  rw [e]
  simpa [List.append_assoc] using hown6


/-- appendAVP: the bytes of one AVP behind what was there. -/
theorem avp_17 (p : Option Addr) (n c : Nat) (xs : List Int) (cd fl vi : Int) (q : Option Addr) (m d : Nat) (ys : List Int) (w : World) (B : Nat)
    (k0 : 0 ≤ cd) (k1 : cd ≤ 4294967295) (k2 : 0 ≤ vi) (k3 : vi ≤ 4294967295) (k4 : 0 ≤ fl) (k5 : fl ≤ 255)
    (hown : Owns w B (.slice p n c) n xs) (hn : n ≤ 1000000000) (hm : m ≤ 10000000) (hB : B ≤ w.heap.size) (hy : BytesUnder B w q ys) (hlen : ys.length = m) :
    Calls Ybaf.prog 17 #[.slice p n c, .agg #[.int .u32 cd, .int .u8 fl, .int .u32 vi, .slice q m d]] w fun e w' => ∃ p' n' c', e = .returned (.slice p' n' c') ∧ Owns w' B (.slice p' n' c') n' (xs ++ encA cd fl vi ys) ∧ App w (.slice p n c) w' (.slice p' n' c') ∧ n' ≤ c' := by
  cases hv : (bits BinOp.and IntKind.u8 fl 128 != 0) with
  | true => exact avp_v p n c xs cd fl vi q m d ys w B k0 k1 k2 k3 k4 k5 hown hn hm hB hy hlen hv
  | false => exact avp_n p n c xs cd fl vi q m d ys w B k0 k1 k2 k3 k4 k5 hown hn hm hB hy hlen hv

end Go.Proofs.YbulkbaooFmt

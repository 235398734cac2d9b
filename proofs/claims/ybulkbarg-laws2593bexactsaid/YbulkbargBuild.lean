/- zzs2593bbuild. -/
import Derived.Test.YbulkbargRest
namespace Go.Proofs.Ybulkbarg
open Go.ChangeShapes Go.WideShapes Go.ChangeAt Go.RowKit
set_option linter.unusedVariables false

set_option maxRecDepth 100000 in
set_option maxHeartbeats 8000000 in
theorem build_5 (hb rs ns : Int) (p0 p1 p2 p3 : Bool) (a0 a1 a2 a3 c0 c1 c2 c3 : Int) (pb : List Bool) (al cl : List Int) (hpb : pb = [p0, p1, p2, p3]) (hal : al = [a0, a1, a2, a3]) (hcl : cl = [c0, c1, c2, c3]) (pa : Option Addr) (np ca kk : Nat) (ys : List Int) (w : World) (B : Nat)
    (g0 : 0 ≤ ns) (g1 : ns ≤ 255) (hkk : ns % 3 = (kk : Int)) (hB : B ≤ w.heap.size) (hy : BytesIn B w pa ys) (hyl : ys.length = np) (hyb : ∀ y ∈ ys, 0 ≤ y ∧ y ≤ 255) (hn1 : np ≤ 1024) :
    Calls Yba.prog 5 #[.int .u64 hb, .int .u64 rs, .agg #[.bool p0, .bool p1, .bool p2, .bool p3], .agg #[.int .u64 a0, .int .u64 a1, .int .u64 a2, .int .u64 a3], .agg #[.int .u64 c0, .int .u64 c1, .int .u64 c2, .int .u64 c3], .slice pa np ca, .int .u8 ns] w fun e w' =>
      ∃ (A R MW ML MA La : Nat) (p : Option Addr) (cap : Nat) (g fl fa : Lit → Option Value), e = .returned (.tuple #[.pointer (some ⟨A, 0, none⟩), .pointer (some ⟨R, 0, none⟩)]) ∧
        Box w' A (ac MW ML) 65 ∧ Box w' La (lk hb rs) 71 ∧ Box w' R (rd (.slice p np cap) MA) 74 ∧ HasMap Yba.prog 9 w' MW 4 g ∧ Watched pb al cl g ∧
        HasMap Yba.prog 9 w' ML 2 fl ∧ fl (ks 0) = some (.pointer (some ⟨La, 0, none⟩)) ∧ HasMapN Yba.prog 9 w' MA kk fa kk ∧ (kk = 1 → fa (ks 0) = some (.bool true) ∧ ∀ l v, fa l = some v → l = ks 0) ∧
        WaitsIn w'.heap.size w' p ys ∧ np ≤ cap ∧ Below w.heap.size w w' := by
  have hmm := @run_makeMap Yba.prog
  have hkk2 : kk ≤ 2 := by omega
  have lpb : pb.length = 4 := by rw [hpb]; rfl
  have lal : al.length = 4 := by rw [hal]; rfl
  have lcl : cl.length = 4 := by rw [hcl]; rfl
  obtain ⟨W1, e1⟩ : ∃ W1, W1 = w.alloc (.cells #[.bool p0, .bool p1, .bool p2, .bool p3] 23) := ⟨_, rfl⟩
  have z1 : W1.heap.size = w.heap.size + 1 := by rw [e1]; simp
  have b1 : Below w.heap.size w W1 := by rw [e1]; exact (Below.refl _ w).alloc (Nat.le_refl _) _
  have hP1 : Box W1 (w.heap.size) (bools pb) 23 := by
    have h := Box.new w #[.bool p0, .bool p1, .bool p2, .bool p3] 23
    rw [← e1] at h
    rw [show bools pb = (#[.bool p0, .bool p1, .bool p2, .bool p3] : Array Value) by rw [hpb]; rfl]
    exact h
  obtain ⟨W2, e2⟩ : ∃ W2, W2 = W1.alloc (.cells #[.int .u64 a0, .int .u64 a1, .int .u64 a2, .int .u64 a3] 24) := ⟨_, rfl⟩
  have z2 : W2.heap.size = w.heap.size + 1 + 1 := by rw [e2]; simp [z1]
  have b2 : Below w.heap.size w W2 := by rw [e2]; exact b1.alloc (by omega) _
  have hP2 := by have h := hP1.alloc (.cells #[.int .u64 a0, .int .u64 a1, .int .u64 a2, .int .u64 a3] 24); rw [← e2] at h; exact h
  have hAS2 : Box W2 (w.heap.size + 1) (u64s al) 24 := by
    have h := Box.new W1 #[.int .u64 a0, .int .u64 a1, .int .u64 a2, .int .u64 a3] 24
    rw [← e2, z1] at h
    rw [show u64s al = (#[.int .u64 a0, .int .u64 a1, .int .u64 a2, .int .u64 a3] : Array Value) by rw [hal]; rfl]
    exact h
  obtain ⟨W3, e3⟩ : ∃ W3, W3 = W2.alloc (.cells #[.int .u64 c0, .int .u64 c1, .int .u64 c2, .int .u64 c3] 24) := ⟨_, rfl⟩
  have z3 : W3.heap.size = w.heap.size + 1 + 1 + 1 := by rw [e3]; simp [z2]
  have b3 : Below w.heap.size w W3 := by rw [e3]; exact b2.alloc (by omega) _
  have hP3 := by have h := hP2.alloc (.cells #[.int .u64 c0, .int .u64 c1, .int .u64 c2, .int .u64 c3] 24); rw [← e3] at h; exact h
  have hAS3 := by have h := hAS2.alloc (.cells #[.int .u64 c0, .int .u64 c1, .int .u64 c2, .int .u64 c3] 24); rw [← e3] at h; exact h
  have hCH3 : Box W3 (w.heap.size + 1 + 1) (u64s cl) 24 := by
    have h := Box.new W2 #[.int .u64 c0, .int .u64 c1, .int .u64 c2, .int .u64 c3] 24
    rw [← e3, z2] at h
    rw [show u64s cl = (#[.int .u64 c0, .int .u64 c1, .int .u64 c2, .int .u64 c3] : Array Value) by rw [hcl]; rfl]
    exact h
  obtain ⟨W4, e4⟩ : ∃ W4, W4 = W3.alloc (.cells #[.string ⟨#[112]⟩, .string ⟨#[113]⟩, .string ⟨#[114]⟩, .string ⟨#[115]⟩] 33) := ⟨_, rfl⟩
  have z4 : W4.heap.size = w.heap.size + 1 + 1 + 1 + 1 := by rw [e4]; simp [z3]
  have b4 : Below w.heap.size w W4 := by rw [e4]; exact b3.alloc (by omega) _
  have hP4 := by have h := hP3.alloc (.cells #[.string ⟨#[112]⟩, .string ⟨#[113]⟩, .string ⟨#[114]⟩, .string ⟨#[115]⟩] 33); rw [← e4] at h; exact h
  have hAS4 := by have h := hAS3.alloc (.cells #[.string ⟨#[112]⟩, .string ⟨#[113]⟩, .string ⟨#[114]⟩, .string ⟨#[115]⟩] 33); rw [← e4] at h; exact h
  have hCH4 := by have h := hCH3.alloc (.cells #[.string ⟨#[112]⟩, .string ⟨#[113]⟩, .string ⟨#[114]⟩, .string ⟨#[115]⟩] 33); rw [← e4] at h; exact h
  have hNB4 : Box W4 (w.heap.size + 1 + 1 + 1) (nms) 33 := by
    have h := Box.new W3 #[.string ⟨#[112]⟩, .string ⟨#[113]⟩, .string ⟨#[114]⟩, .string ⟨#[115]⟩] 33
    rw [← e4, z3] at h
    rw [show nms = (#[.string ⟨#[112]⟩, .string ⟨#[113]⟩, .string ⟨#[114]⟩, .string ⟨#[115]⟩] : Array Value) by rfl]
    exact h
  obtain ⟨W5, e5⟩ : ∃ W5, W5 = W4.alloc (.cells #[.string ⟨#[97]⟩, .string ⟨#[98]⟩] 34) := ⟨_, rfl⟩
  have z5 : W5.heap.size = w.heap.size + 1 + 1 + 1 + 1 + 1 := by rw [e5]; simp [z4]
  have b5 : Below w.heap.size w W5 := by rw [e5]; exact b4.alloc (by omega) _
  have hP5 := by have h := hP4.alloc (.cells #[.string ⟨#[97]⟩, .string ⟨#[98]⟩] 34); rw [← e5] at h; exact h
  have hAS5 := by have h := hAS4.alloc (.cells #[.string ⟨#[97]⟩, .string ⟨#[98]⟩] 34); rw [← e5] at h; exact h
  have hCH5 := by have h := hCH4.alloc (.cells #[.string ⟨#[97]⟩, .string ⟨#[98]⟩] 34); rw [← e5] at h; exact h
  have hNB5 := by have h := hNB4.alloc (.cells #[.string ⟨#[97]⟩, .string ⟨#[98]⟩] 34); rw [← e5] at h; exact h
  have hSB5 : Box W5 (w.heap.size + 1 + 1 + 1 + 1) (sts) 34 := by
    have h := Box.new W4 #[.string ⟨#[97]⟩, .string ⟨#[98]⟩] 34
    rw [← e5, z4] at h
    rw [show sts = (#[.string ⟨#[97]⟩, .string ⟨#[98]⟩] : Array Value) by rfl]
    exact h
  obtain ⟨W6, e6⟩ : ∃ W6, W6 = W5.alloc (.map #[] 0) := ⟨_, rfl⟩
  have z6 : W6.heap.size = w.heap.size + 1 + 1 + 1 + 1 + 1 + 1 := by rw [e6]; simp [z5]
  have b6 : Below w.heap.size w W6 := by rw [e6]; exact b5.alloc (by omega) _
  have hP6 := by have h := hP5.alloc (.map #[] 0); rw [← e6] at h; exact h
  have hAS6 := by have h := hAS5.alloc (.map #[] 0); rw [← e6] at h; exact h
  have hCH6 := by have h := hCH5.alloc (.map #[] 0); rw [← e6] at h; exact h
  have hNB6 := by have h := hNB5.alloc (.map #[] 0); rw [← e6] at h; exact h
  have hSB6 := by have h := hSB5.alloc (.map #[] 0); rw [← e6] at h; exact h
  have hMW6 : HasMap Yba.prog 9 W6 (w.heap.size + 1 + 1 + 1 + 1 + 1) 0 (fun _ => none) := by
    have h := HasMap.made Yba.prog 9 W5
    rw [← e6, z5] at h
    exact h
  obtain ⟨W7, e7⟩ : ∃ W7, W7 = W6.alloc (.map #[] 0) := ⟨_, rfl⟩
  have z7 : W7.heap.size = w.heap.size + 1 + 1 + 1 + 1 + 1 + 1 + 1 := by rw [e7]; simp [z6]
  have b7 : Below w.heap.size w W7 := by rw [e7]; exact b6.alloc (by omega) _
  have hP7 := by have h := hP6.alloc (.map #[] 0); rw [← e7] at h; exact h
  have hAS7 := by have h := hAS6.alloc (.map #[] 0); rw [← e7] at h; exact h
  have hCH7 := by have h := hCH6.alloc (.map #[] 0); rw [← e7] at h; exact h
  have hNB7 := by have h := hNB6.alloc (.map #[] 0); rw [← e7] at h; exact h
  have hSB7 := by have h := hSB6.alloc (.map #[] 0); rw [← e7] at h; exact h
  have hMW7 := by have h := hMW6.alloc (.map #[] 0); rw [← e7] at h; exact h
  have hML7 : HasMap Yba.prog 9 W7 (w.heap.size + 1 + 1 + 1 + 1 + 1 + 1) 0 (fun _ => none) := by
    have h := HasMap.made Yba.prog 9 W6
    rw [← e7, z6] at h
    exact h
  obtain ⟨W8, e8⟩ : ∃ W8, W8 = W7.alloc (.cells (ac (w.heap.size + 1 + 1 + 1 + 1 + 1) (w.heap.size + 1 + 1 + 1 + 1 + 1 + 1)) 65) := ⟨_, rfl⟩
  have z8 : W8.heap.size = w.heap.size + 1 + 1 + 1 + 1 + 1 + 1 + 1 + 1 := by rw [e8]; simp [z7]
  have b8 : Below w.heap.size w W8 := by rw [e8]; exact b7.alloc (by omega) _
  have hP8 := by have h := hP7.alloc (.cells (ac (w.heap.size + 1 + 1 + 1 + 1 + 1) (w.heap.size + 1 + 1 + 1 + 1 + 1 + 1)) 65); rw [← e8] at h; exact h
  have hAS8 := by have h := hAS7.alloc (.cells (ac (w.heap.size + 1 + 1 + 1 + 1 + 1) (w.heap.size + 1 + 1 + 1 + 1 + 1 + 1)) 65); rw [← e8] at h; exact h
  have hCH8 := by have h := hCH7.alloc (.cells (ac (w.heap.size + 1 + 1 + 1 + 1 + 1) (w.heap.size + 1 + 1 + 1 + 1 + 1 + 1)) 65); rw [← e8] at h; exact h
  have hNB8 := by have h := hNB7.alloc (.cells (ac (w.heap.size + 1 + 1 + 1 + 1 + 1) (w.heap.size + 1 + 1 + 1 + 1 + 1 + 1)) 65); rw [← e8] at h; exact h
  have hSB8 := by have h := hSB7.alloc (.cells (ac (w.heap.size + 1 + 1 + 1 + 1 + 1) (w.heap.size + 1 + 1 + 1 + 1 + 1 + 1)) 65); rw [← e8] at h; exact h
  have hMW8 := by have h := hMW7.alloc (.cells (ac (w.heap.size + 1 + 1 + 1 + 1 + 1) (w.heap.size + 1 + 1 + 1 + 1 + 1 + 1)) 65); rw [← e8] at h; exact h
  have hML8 := by have h := hML7.alloc (.cells (ac (w.heap.size + 1 + 1 + 1 + 1 + 1) (w.heap.size + 1 + 1 + 1 + 1 + 1 + 1)) 65); rw [← e8] at h; exact h
  have hA8 : Box W8 (w.heap.size + 1 + 1 + 1 + 1 + 1 + 1 + 1) (ac (w.heap.size + 1 + 1 + 1 + 1 + 1) (w.heap.size + 1 + 1 + 1 + 1 + 1 + 1)) 65 := by
    have h := Box.new W7 (ac (w.heap.size + 1 + 1 + 1 + 1 + 1) (w.heap.size + 1 + 1 + 1 + 1 + 1 + 1)) 65
    rw [← e8, z7] at h
    exact h
  clear hpb hal hcl
  clear hP1 hP2 hP3 hP4 hP5 hP6 hP7 hAS2 hAS3 hAS4 hAS5 hAS6 hAS7 hCH3 hCH4 hCH5 hCH6 hCH7 hNB4 hNB5 hNB6 hNB7 hSB5 hSB6 hSB7 hMW6 hMW7 hML7 b1 b2 b3 b4 b5 b6 b7
  go_enter Yba.func5, Yba.ntmps5
  go_wp2_with fail
  have e8' : W7.alloc (.cells (ac (w.heap.size + 1 + 1 + 1 + 1 + 1) (w.heap.size + 1 + 1 + 1 + 1 + 1 + 1)) 65) = W8 := e8.symm
  unfold ac at e8'
  rw [← e1, ← e2, ← e3, ← e4, ← e5, ← e6, ← e7, e8']
  clear e8' e1 e2 e3 e4 e5 e6 e7 e8 z1 z2 z3 z4 z5 z6 z7
  go_loopg [19] 4 (fun gk iv wr => ∃ (k : Nat) (g : Lit → Option Value), gk + k = 4 ∧ iv = .int .i64 (k : Int) ∧ HasMap Yba.prog 9 wr (w.heap.size + 1 + 1 + 1 + 1 + 1) k g ∧ (∀ j, j < 4 → g (kn j) = if j < k ∧ pb.getD j false = true then some (wv al cl j) else none) ∧ But (fun b => b = w.heap.size + 1 + 1 + 1 + 1 + 1) W8 wr)
  case atStart => exact ⟨0, _, rfl, rfl, hMW8, (fun j hj => by rw [if_neg (by omega)]), But.refl _ _⟩
  case round =>
    obtain ⟨k, g, hk, rfl, hM, hgj, hbY⟩ := hrel
    have HG : Hid _ := hgj
    clear hgj hMW8
    by_cases hk4 : k < 4
    · have hki : (k : Int) < 4 := by omega
      have cP : wr.cell? ⟨w.heap.size, k, none⟩ = some (.bool (pb.getD k false)) := (hP8.but hbY (by omega)).cell _ (bools_at (at4 pb lpb false hk4))
      have cA : wr.cell? ⟨w.heap.size + 1, k, none⟩ = some (.int .u64 (al.getD k 0)) := (hAS8.but hbY (by omega)).cell _ (u64s_at (at4 al lal 0 hk4))
      have cC : wr.cell? ⟨w.heap.size + 1 + 1, k, none⟩ = some (.int .u64 (cl.getD k 0)) := (hCH8.but hbY (by omega)).cell _ (u64s_at (at4 cl lcl 0 hk4))
      have cN : wr.cell? ⟨w.heap.size + 1 + 1 + 1, k, none⟩ = some (.string (nm k)) := (hNB8.but hbY (by omega)).cell _ (nms_at k hk4)
      have cG : wr.cell? ⟨w.heap.size + 1 + 1 + 1 + 1 + 1 + 1 + 1, 11, none⟩ = some (.map (some (w.heap.size + 1 + 1 + 1 + 1 + 1))) := (hA8.but hbY (by omega)).cell 11 rfl
      cases hp : pb.getD k false with
      | true =>
        rw [hp] at cP
        obtain ⟨Z, hr, hm, hg, hz⟩ := hM.drew.store (t := 35) (e := 67) law9 Yba.underlying35 (by simp only [maxLen]; omega) (key_nm k) (val := wv al cl k) _ (turnAt_same g (kn_key k) _) (fun l h => turnAt_other g (kn k) _ l h)
        have HG' : Hid (∀ j, j < 4 → turnAt g (kn k) (some (wv al cl k)) (kn j) = if j < k + 1 ∧ pb.getD j false = true then some (wv al cl j) else none) := fun j hj => by
          by_cases e : j = k
          · subst e
            rw [turnAt_same g (kn_key j), if_pos ⟨by omega, hp⟩]
          · rw [turnAt_other g (kn k) _ _ (fun h => e (kn_inj hj hk4 h)), HG.out j hj]
            have : (j < k + 1) ↔ (j < k) := by omega
            simp only [this]
        have hbZ : But (fun b => b = w.heap.size + 1 + 1 + 1 + 1 + 1) W8 Z := (hbY.drew).grown hg rfl
        unfold wv at hr
        clear hg hz hM hbY hp
        generalize al.getD k 0 = ak at cA hr
        generalize cl.getD k 0 = ck at cC hr
        go_upto_region 8 with fail
        go_region
        all_goals
          go_wp2_with fail
          go_roundg (gk - 1)
          case measure => omega
          case rel => exact ⟨k + 1, _, by omega, by go_num, hm, HG'.out, hbZ⟩
      | false =>
        rw [hp] at cP
        have HG' : Hid (∀ j, j < 4 → g (kn j) = if j < k + 1 ∧ pb.getD j false = true then some (wv al cl j) else none) := fun j hj => by
          rw [HG.out j hj]
          by_cases e : j = k
          · subst e
            rw [if_neg (by simp only [hp]; simp), if_neg (by simp only [hp]; simp)]
          · have : (j < k + 1) ↔ (j < k) := by omega
            simp only [this]
        clear hp
        go_wp2_with fail
        go_roundg (gk - 1)
        case measure => omega
        case rel => exact ⟨k + 1, g, by omega, by go_num, hM.mono (by omega), HG'.out, hbY⟩
    · obtain rfl : k = 4 := by omega
      have hW : Watched pb al cl g := fun j hj => by
        rw [HG.out j hj]
        simp [hj]
      have HW : Hid _ := hW
      have jA := hA8.but hbY (by omega)
      have jN := hNB8.but hbY (by omega)
      have jS := hSB8.but hbY (by omega)
      have jL : HasMap Yba.prog 9 wr (w.heap.size + 1 + 1 + 1 + 1 + 1 + 1) 0 (fun _ => none) := hML8.but hbY (by omega)
      have hzr := hbY.size
      have bel : Below w.heap.size w wr := b8.trans (hbY.below (by omega) (by rintro k rfl; omega))
      clear hW HG
      go_upto_region 9 with fail
      refine region9 hb rs (w.heap.size + 1 + 1 + 1 + 1 + 1 + 1 + 1) _ _ 0 _ _ _ _ _ _ _ _ _ _ _ _ _ _ _ _ _ _ _ _ _ _ _ _ _ _ _ _ _ _ _ _ _ _ _ _ _ _ _ _ _ _ _ _ _ _ _ _ _ _ _ _ _ _ _ _ _ _ _ _ _ _ jA jL (by omega) (fun u52 u53 u54 u55 u56 u57 u58 u59 w' hLa hL' hb' => ?_)
      rename_i aK
      refine aK _ _ ?_
      have bel' : Below w.heap.size w w' := bel.trans (hb'.below (by omega) (by rintro k rfl; omega))
      refine rest10 hb rs ns (w.heap.size + 1 + 1 + 1 + 1 + 1 + 1 + 1) _ (w.heap.size + 1 + 1 + 1 + 1 + 1 + 1) wr.heap.size (w.heap.size + 1 + 1 + 1) (w.heap.size + 1 + 1 + 1 + 1) pa np ca kk ys _ w' B _ g0 g1 hkk (Nat.le_trans hB bel'.size) (hy.later (bel'.mono hB)) hyl hyb hn1 (jA.but hb' (by omega)) (jN.but hb' (by omega)) (jS.but hb' (by omega)) hL' (turnAt_same _ (ks_key 0) _) (by omega) ?_ _ _ _ _ _ _ _ _ _ _ _ _ _ _ _ _ _ _ _ _ _ _ _ _ _ _ _ _ _ _ _ _ _ _ _ _ _ _ _ _ _ _ _ _ _ _ _ _ _ _ _ _ _ _ _ _ _ _ _ _ _ _ _ _ _ _ _ _ _ _ _ _ _ _ _ _ _ _ _ _ _ _ _ _ _ _ _ _ _ _ _ _ _ _ _ _ _ _ _ _ _ _ _ _ _
      intro R MA p cap fl fa w2 qR qL qfl qA qfa qw qc qb
      refine ⟨_, R, _, _, MA, wr.heap.size, p, cap, g, fl, fa, rfl, (jA.but hb' (by omega)).but qb (by omega), hLa.but qb (by omega), qR, (hM.but hb' (by omega)).but qb (by omega), HW.out, qL, qfl, qA, qfa, qw, qc, ?_⟩
      exact bel'.trans (qb.below (by have := bel'.size; omega) (by rintro k rfl; omega))
end Go.Proofs.Ybulkbarg


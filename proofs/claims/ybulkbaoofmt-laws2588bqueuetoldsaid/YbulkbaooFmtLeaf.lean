/- The leaves of the road: what each small function does. -/
import Derived.Test.YbulkbaooFmtOwn
namespace Go.Proofs.YbulkbaooFmt
open Go.ChangeShapes Go.WideShapes Go.ChangeAt Go.RowKit
set_option linter.unusedVariables false

theorem ret_int {k : IntKind} {a b : Int} (h : a = b) : Ending.returned (.int k a) = .returned (.int k b) := by rw [h]

theorem BytesAt.lit_at (w : World) (B : Nat) (hB : w.heap.size = B) (xs : List Int) (t : TypeId) : BytesAt (w.alloc (.cells (xs.map (Value.int .u8)).toArray t)) (some ⟨B, 0, none⟩) xs := by
  subst hB; exact BytesAt.lit w xs t

def b32 (x : Int) : List Int := [x / 16777216, x / 65536 % 256, x / 256 % 256, x % 256]
def b24 (x : Int) : List Int := [x / 65536 % 256, x / 256 % 256, x % 256]

set_option maxHeartbeats 400000 in
theorem u32_12 (p : Option Addr) (n c : Nat) (xs : List Int) (x : Int) (w : World) (base : Nat) (h0 : 0 ≤ x) (h1 : x ≤ 4294967295) (hown : Owns w base (.slice p n c) n xs) (hn : n ≤ 1073741824) (hb : base ≤ w.heap.size) :
    Calls Ybaf.prog 12 #[.slice p n c, .int .u32 x] w fun e w' => ∃ p' c', e = .returned (.slice p' (n + 4) c') ∧ Owns w' base (.slice p' (n + 4) c') (n + 4) (xs ++ b32 x) ∧ App w (.slice p n c) w' (.slice p' (n + 4) c') ∧ n + 4 ≤ c' := by
  go_enter Ybaf.func12, Ybaf.ntmps12
  go_wp2_with (at_builtin; go_must (refine wpList_app2 rfl _ _ rfl base (.slice p n c) n xs rfl (some ⟨w.heap.size, 0, none⟩) 4 4 (b32 x) rfl rfl (hown.alloc _) (BytesAt.lit _ (b32 x) _) (by omega) (by simp; omega) ?K))
  intro p' c' w' hown' happ hcap
  go_wp2
  go_ret
  exact ⟨p', c', rfl, hown', (App.alloc _ _ _).trans happ, hcap⟩

set_option maxHeartbeats 400000 in
theorem u24_13 (p : Option Addr) (n c : Nat) (xs : List Int) (x : Int) (w : World) (base : Nat) (h0 : 0 ≤ x) (h1 : x ≤ 4294967295) (hown : Owns w base (.slice p n c) n xs) (hn : n ≤ 1073741824) (hb : base ≤ w.heap.size) :
    Calls Ybaf.prog 13 #[.slice p n c, .int .u32 x] w fun e w' => ∃ p' c', e = .returned (.slice p' (n + 3) c') ∧ Owns w' base (.slice p' (n + 3) c') (n + 3) (xs ++ b24 x) ∧ App w (.slice p n c) w' (.slice p' (n + 3) c') ∧ n + 3 ≤ c' := by
  go_enter Ybaf.func13, Ybaf.ntmps13
  go_wp2_with (at_builtin; go_must (refine wpList_app2 rfl _ _ rfl base (.slice p n c) n xs rfl (some ⟨w.heap.size, 0, none⟩) 3 3 (b24 x) rfl rfl (hown.alloc _) (BytesAt.lit _ (b24 x) _) (by omega) (by simp; omega) ?K))
  intro p' c' w' hown' happ hcap
  go_wp2
  go_ret
  exact ⟨p', c', rfl, hown', (App.alloc _ _ _).trans happ, hcap⟩

set_option maxHeartbeats 400000 in
theorem u32_14 (p : Option Addr) (n c : Nat) (xs : List Int) (x : Int) (w : World) (base : Nat) (h0 : 0 ≤ x) (h1 : x ≤ 4294967295) (hown : Owns w base (.slice p n c) n xs) (hn : n ≤ 1073741824) (hb : base ≤ w.heap.size) :
    Calls Ybaf.prog 14 #[.agg #[], .slice p n c, .int .u32 x] w fun e w' => ∃ p' c', e = .returned (.slice p' (n + 4) c') ∧ Owns w' base (.slice p' (n + 4) c') (n + 4) (xs ++ b32 x) ∧ App w (.slice p n c) w' (.slice p' (n + 4) c') ∧ n + 4 ≤ c' := by
  go_enter Ybaf.func14, Ybaf.ntmps14
  go_wp2_with (at_builtin; go_must (refine wpList_app2 rfl _ _ rfl base (.slice p n c) n xs rfl (some ⟨w.heap.size + 1, 0, none⟩) 4 4 (b32 x) rfl rfl ((hown.alloc _).alloc _) (BytesAt.lit_at (w.alloc _) _ (by simp) (b32 x) _) (by omega) (by simp; omega) ?K))
  intro p' c' w' hown' happ hcap
  go_wp2
  go_ret
  exact ⟨p', c', rfl, hown', (App.alloc _ _ _).trans ((App.alloc _ _ _).trans happ), hcap⟩

theorem pad_20 (n : Nat) (w : World) (hn : n ≤ 1073741824) :
    Calls Ybaf.prog 20 #[.int .i64 (n : Int)] w fun e w' => e = .returned (.int .i64 (((4 - n % 4) % 4 : Nat) : Int)) ∧ w' = w := by
  go_enter Ybaf.func20, Ybaf.ntmps20
  go_wp2
  go_ret
  exact ⟨ret_int (by omega), rfl⟩

theorem head_v (cd fl vi : Int) (d : Value) (w : World) (hv : (bits BinOp.and IntKind.u8 fl 128 != 0) = true) :
    Calls Ybaf.prog 15 #[.agg #[.int .u32 cd, .int .u8 fl, .int .u32 vi, d]] w fun e w' => e = .returned (.int .i64 12) ∧ w' = w.alloc (.cells #[.int .u32 cd, .int .u8 fl, .int .u32 vi, d] 56) := by
  go_enter Ybaf.func15, Ybaf.ntmps15
  go_wp2
  go_ret
  exact ⟨rfl, rfl⟩

theorem head_n (cd fl vi : Int) (d : Value) (w : World) (hv : (bits BinOp.and IntKind.u8 fl 128 != 0) = false) :
    Calls Ybaf.prog 15 #[.agg #[.int .u32 cd, .int .u8 fl, .int .u32 vi, d]] w fun e w' => e = .returned (.int .i64 8) ∧ w' = w.alloc (.cells #[.int .u32 cd, .int .u8 fl, .int .u32 vi, d] 56) := by
  go_enter Ybaf.func15, Ybaf.ntmps15
  go_wp2
  go_ret
  exact ⟨rfl, rfl⟩

/-- Three bytes stored into the call's own. -/
theorem put_18 (g o m c : Nat) (x : Int) (u0 u1 u2 : Value) (w : World) (hm : 3 ≤ m) (h0 : 0 ≤ x) (h1 : x ≤ 16777215)
    (c0 : w.cell? ⟨g, o, none⟩ = some u0) (c1 : w.cell? ⟨g, o + 1, none⟩ = some u1) (c2 : w.cell? ⟨g, o + 2, none⟩ = some u2)
    (f0 : w.frozen? ⟨g, o, none⟩ = false) (f1 : w.frozen? ⟨g, o + 1, none⟩ = false) (f2 : w.frozen? ⟨g, o + 2, none⟩ = false) :
    Calls Ybaf.prog 18 #[.slice (some ⟨g, o, none⟩) m c, .int .u32 x] w fun e w' => e = .returned (.tuple #[]) ∧ w' = ((w.setCell ⟨g, o, none⟩ (.int .u8 (x / 65536))).setCell ⟨g, o + 1, none⟩ (.int .u8 (x / 256 % 256))).setCell ⟨g, o + 2, none⟩ (.int .u8 (x % 256)) := by
  have hm0 : (0 : Int) < (m : Int) := by omega
  have hm1 : (1 : Int) < (m : Int) := by omega
  have hm2 : (2 : Int) < (m : Int) := by omega
  go_enter Ybaf.func18, Ybaf.ntmps18
  go_wp2
  go_end0
  exact ⟨rfl, rfl⟩

/-- Where bytes lie that were there before the call: below block B. -/
def BytesUnder (B : Nat) (w : World) (q : Option Addr) (ys : List Int) : Prop :=
  0 < ys.length → ∃ b o, q = some ⟨b, o, none⟩ ∧ b < B ∧ ∀ i, i < ys.length → w.cell? ⟨b, o + i, none⟩ = some (.int .u8 (ys.getD i 0))

theorem BytesUnder.later {B : Nat} {w w' : World} {q : Option Addr} {ys : List Int} (h : BytesUnder B w q ys) (hb : Below B w w') : BytesUnder B w' q ys := fun h0 => by
  obtain ⟨b, o, rfl, hlt, hc⟩ := h h0
  exact ⟨b, o, rfl, hlt, fun i hi => (hb.cell (p := ⟨b, o + i, none⟩) hlt).trans (hc i hi)⟩

theorem BytesUnder.at {B : Nat} {w : World} {q : Option Addr} {ys : List Int} (h : BytesUnder B w q ys) (hB : B ≤ w.heap.size) : BytesAt w q ys := fun h0 => by
  obtain ⟨b, o, rfl, hlt, hc⟩ := h h0
  exact ⟨b, o, rfl, Nat.lt_of_lt_of_le hlt hB, hc⟩

theorem Owns.lt {w : World} {base : Nat} {v : Value} {n : Nat} {xs : List Int} (h : Owns w base v n xs) : ∀ k, v.ownBlock = some k → base ≤ k ∧ k < w.heap.size := World.ownsRow.lt h

/-- A block beside the own one stays beside it. -/
theorem App.beside {w w1 : World} {v v1 : Value} (h : App w v w1 v1) {b : Nat} (hb : b < w.heap.size) (hne : some b ≠ v.ownBlock) : some b ≠ v1.ownBlock := by
  rcases h.lies with e | ⟨k, e, hk⟩
  · rw [e]; exact hne
  · rw [e]; intro h; simp at h; omega

theorem Box.app {w w1 : World} {v v1 : Value} {b : Nat} {cs : Array Value} {t : TypeId} (h : Box w b cs t) (hne : some b ≠ v.ownBlock) (ha : App w v w1 v1) : Box w1 b cs t ∧ some b ≠ v1.ownBlock :=
  ⟨h.kept ha.grew hne, ha.beside h.lt hne⟩

theorem Owns.fresh {w : World} {base : Nat} {v : Value} {n : Nat} {xs : List Int} (h : Owns w base v n xs) : some w.heap.size ≠ v.ownBlock := fun e => by
  have := (h.lt _ e.symm).2
  omega

theorem Owns.under {w w' : World} {base : Nat} {v v' : Value} {n : Nat} {xs : List Int} (h : Owns w base v n xs) (hb : base ≤ w.heap.size) (ha : App w v w' v') : Below base w w' :=
  ha.below hb (fun k hk => (h.lt k hk).1)

def vend (fl : Int) : Bool := bits BinOp.and IntKind.u8 fl 128 != 0
def hl (fl : Int) : Int := if vend fl = true then 12 else 8
def encA (cd fl vi : Int) (ys : List Int) : List Int :=
  b32 cd ++ [fl] ++ b24 (hl fl + ys.length) ++ (if vend fl = true then b32 vi else []) ++ ys ++ List.replicate ((4 - ys.length % 4) % 4) 0

end Go.Proofs.YbulkbaooFmt

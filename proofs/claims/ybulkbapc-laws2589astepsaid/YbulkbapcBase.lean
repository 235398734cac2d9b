/- LawS2589AStep: floats; boxes; rows; what a call may turn. -/
import Derived.Test.YbulkbapcMaps
import Derived.WalkSpells
import Derived.WalkLawsBesides
import Derived.ProofKit
import Derived.OpenShut
import Derived.Lib.Builder
import Derived.Maps.AppendAt
import Derived.Maps.RangeWalk
import Derived.RegionTactic
import Derived.ChangeAlike
import Derived.Deep.Draws
import Derived.Deep.RegionHeld3
import Derived.Deep.LoopGhost
import Derived.Deep.QuietTactic
import Derived.BigQuiet
import Derived.Deep.DeepCutAuto
namespace Go.Proofs.Ybulkbapc
open Go.ChangeShapes Go.WideShapes Go.ChangeAt Go.RowKit
set_option linter.unusedVariables false

theorem own : ownKnob Yba.prog.godebug = none := by kernel_rfl
theorem laidOut : laidOutB Yba.prog = true := by kernel_rfl

/-! ### floats -/
def nanB (x : Nat) : Bool := (Ieee.double.read x).isNaN
def Fin64 (x : Nat) : Prop := ∃ s m i, Ieee.double.read x = .number s m i

theorem order_self (x : Nat) (h : nanB x = false) : FloatKind.f64.format.order x x = some .eq := by
  show (Ieee.double.read x).order (Ieee.double.read x) = _
  unfold nanB at h
  cases hr : Ieee.double.read x with
  | number s m i => simp [Ieee.Datum.order]
  | infinity s => simp [Ieee.Datum.order]
  | nan s t => rw [hr] at h; simp [Ieee.Datum.isNaN] at h

theorem Fin64.not_nan {x : Nat} (h : Fin64 x) : nanB x = false := by
  obtain ⟨s, m, i, h⟩ := h
  unfold nanB
  rw [h]; rfl

theorem read_word (neg : Bool) (r : Nat) (h : r ≤ 9218868437227405312) : (Ieee.double.read (Ieee.double.word neg r)).isNaN = false ∧ (r < 9218868437227405312 → ∃ s m i, Ieee.double.read (Ieee.double.word neg r) = .number s m i) := by
  have e1 : Ieee.double.signWeight = 9223372036854775808 := by decide
  have e2 : Ieee.double.infRung = 9218868437227405312 := by decide
  have e3 : Ieee.double.binade = 4503599627370496 := by decide
  have hw : Ieee.double.word neg r % 9223372036854775808 = r := by
    unfold Ieee.Format.word
    rw [e1]
    cases neg <;> simp <;> omega
  unfold Ieee.Format.read
  rw [e1, e2, e3, hw]
  dsimp only
  split
  · exact ⟨rfl, fun _ => ⟨_, _, _, rfl⟩⟩
  · split
    · exact ⟨rfl, fun _ => ⟨_, _, _, rfl⟩⟩
    · split
      · exact ⟨rfl, fun h => by omega⟩
      · omega

theorem nearest_not_nan (neg : Bool) (m : Nat) (i : Int) : nanB (Ieee.double.nearest neg m i) = false := by
  unfold nanB Ieee.Format.nearest
  split
  · exact (read_word neg 0 (by omega)).1
  · exact (read_word neg _ (Nat.le_trans (Nat.min_le_right _ _) (by decide))).1

theorem sub_fin {x y : Nat} (hx : Fin64 x) (hy : Fin64 y) : ∃ r, floatBits .sub .f64 x y = some r ∧ nanB r = false := by
  obtain ⟨s, m, i, hx⟩ := hx
  obtain ⟨t, n, j, hy⟩ := hy
  show ∃ r, Ieee.double.sub x y = some r ∧ _
  unfold Ieee.Format.sub
  rw [hx, hy]
  simp only [Ieee.Datum.opposite, Ieee.Datum.sum, Option.map_some]
  exact ⟨_, rfl, nearest_not_nan _ _ _⟩

theorem zero_fin : Fin64 0 := ⟨_, _, _, rfl⟩

theorem ofInt_fin (n : Int) (h : n.natAbs ≤ 4294967296) : Fin64 (floatOfInt .f64 n) := by
  show Fin64 (Ieee.double.nearest (decide (n < 0)) n.natAbs 0)
  generalize n.natAbs = m at h
  generalize decide (n < 0) = neg
  unfold Ieee.Format.nearest
  split
  · exact (read_word neg 0 (by omega)).2 (by omega)
  · rename_i hm
    have hl : m.log2 ≤ 32 := by
      have := Nat.log2_lt (n := m) (k := 33) hm
      omega
    refine (read_word neg _ (Nat.le_trans (Nat.min_le_right _ _) (by decide))).2 ?_
    refine Nat.lt_of_le_of_lt (Nat.min_le_left _ _) ?_
    have e1 : Ieee.double.leastPlace = -1074 := by decide
    have e2 : Ieee.double.binade = 4503599627370496 := by decide
    have e3 : Ieee.double.fractionBits = 52 := rfl
    rw [e1, e2, e3]
    have el : max (0 + (m.log2 : Int) - (52 : Nat)) (-1074) = (m.log2 : Int) - 52 := by omega
    rw [el]
    have c1 : ((m.log2 : Int) - 52 - -1074).toNat = m.log2 + 1022 := by omega
    have c2 : ((0 : Int) - ((m.log2 : Int) - 52)).toNat = 52 - m.log2 := by omega
    have c3 : (((m.log2 : Int) - 52) - 0).toNat = 0 := by omega
    rw [c1, c2, c3]
    have hk : m <<< (52 - m.log2) < 9007199254740992 := by
      rw [Nat.shiftLeft_eq]
      have h1 : m < 2 ^ (m.log2 + 1) := Nat.lt_log2_self
      have h2 : 2 ^ (m.log2 + 1) * 2 ^ (52 - m.log2) = 2 ^ 53 := by rw [← Nat.pow_add]; congr 1; omega
      have h3 : 0 < 2 ^ (52 - m.log2) := Nat.pow_pos (by omega)
      have := Nat.mul_lt_mul_of_pos_right h1 h3
      rw [h2] at this
      exact this
    generalize m <<< (52 - m.log2) = q at hk
    have hc : Ieee.Toward.even.cut neg q 0 = q := by
      simp [Ieee.Toward.cut, Nat.mod_one]
    rw [hc]
    omega

/-! ### boxes -/
/-- A block of the call's own. -/
def Box (w : World) (b : Nat) (cs : Array Value) (t : TypeId) : Prop := w.heap[b]? = some (.cells cs t (0, 0))

section
variable {w w' : World} {b : Nat} {cs : Array Value} {t : TypeId}
theorem Box.lt (h : Box w b cs t) : b < w.heap.size := (Array.getElem?_eq_some_iff.1 h).1
theorem Box.cell (h : Box w b cs t) (i : Nat) {v : Value} (hv : cs[i]? = some v) : w.cell? ⟨b, i, none⟩ = some v := by
  rw [cell_of_row _ _ _ _ _ _ h]; exact hv
theorem Box.free (h : Box w b cs t) (i : Nat) : w.frozen? ⟨b, i, none⟩ = false := by
  unfold Box at h
  simp [World.frozen?, h]
theorem Box.new (w : World) (cs : Array Value) (t : TypeId) : Box (w.alloc (.cells cs t)) w.heap.size cs t := heap_alloc_new w _
theorem Box.alloc (h : Box w b cs t) (o : Obj) : Box (w.alloc o) b cs t := by
  have := h.lt
  exact (Below.heap_alloc w o b this).trans h
theorem Box.drew (h : Box w b cs t) : Box w.drew b cs t := h
theorem Box.set (h : Box w b cs t) (i : Nat) (v : Value) : Box (w.setCell ⟨b, i, none⟩ v) b (cs.setIfInBounds i v) t := by
  unfold Box at h ⊢
  simp [World.setCell, Array.getElem?_modify, h]
theorem Box.other (h : Box w b cs t) {a : Addr} (hne : b ≠ a.block) (v : Value) : Box (w.setCell a v) b cs t :=
  (Below.heap_setCell w a v b hne).trans h
theorem Box.block (h : Box w b cs t) (hb : w'.heap[b]? = w.heap[b]?) : Box w' b cs t := hb.trans h
theorem Box.below (h : Box w b cs t) (hb : Below w.heap.size w w') : Box w' b cs t := h.block (hb.block b h.lt)
theorem Box.ne {b' : Nat} {cs' : Array Value} {t' : TypeId} (h : Box w b cs t) (k : Box w b' cs' t') (ht : t ≠ t') : b ≠ b' := by
  rintro rfl
  unfold Box at h k
  rw [h] at k
  injection k with k
  injection k with _ k
  exact ht k
theorem Box.ne_map {n m : Nat} {k : TypeId} {f : Lit → Option Value} (h : Box w b cs t) (hm : HasMap Yba.prog k w m n f) : b ≠ m := by
  rintro rfl
  obtain ⟨D, ⟨es, clock, h1, _⟩, _⟩ := hm
  unfold Box at h
  rw [h1] at h
  cases h
end

/-! ### rows -/
def bools (bs : List Bool) : Array Value := (bs.map Value.bool).toArray
def floats (ds : List Nat) : Array Value := (ds.map (Value.float .f64)).toArray
theorem bools_at {bs : List Bool} {i : Nat} {x : Bool} (h : bs[i]? = some x) : (bools bs)[i]? = some (.bool x) := by simp [bools, h]
theorem floats_at {ds : List Nat} {i : Nat} {x : Nat} (h : ds[i]? = some x) : (floats ds)[i]? = some (.float .f64 x) := by simp [floats, h]
theorem bools_set (bs : List Bool) (i : Nat) (x : Bool) : (bools bs).setIfInBounds i (.bool x) = bools (bs.set i x) := by simp [bools, List.map_set]
theorem floats_set (ds : List Nat) (i : Nat) (x : Nat) : (floats ds).setIfInBounds i (.float .f64 x) = floats (ds.set i x) := by simp [floats, List.map_set]

/-! ### what may have turned -/
structure But (K : Nat → Prop) (w w' : World) : Prop where
  os : w'.os = w.os
  tape : w'.tape = w.tape
  output : w'.output = w.output
  size : w.heap.size ≤ w'.heap.size
  block : ∀ k, k < w.heap.size → ¬ K k → w'.heap[k]? = w.heap[k]?

section
variable {K K' : Nat → Prop} {w w' w2 : World}
theorem But.refl (K : Nat → Prop) (w : World) : But K w w := ⟨rfl, rfl, rfl, Nat.le_refl _, fun _ _ _ => rfl⟩
theorem But.mono (h : But K w w') (hk : ∀ k, K k → K' k) : But K' w w' := ⟨h.os, h.tape, h.output, h.size, fun k h1 h2 => h.block k h1 fun e => h2 (hk k e)⟩
theorem But.trans (h : But K w w') (h' : But K w' w2) : But K w w2 := ⟨h'.os.trans h.os, h'.tape.trans h.tape, h'.output.trans h.output, Nat.le_trans h.size h'.size, fun k h1 h2 => (h'.block k (Nat.lt_of_lt_of_le h1 h.size) h2).trans (h.block k h1 h2)⟩
theorem But.alloc (h : But K w w') (o : Obj) : But K w (w'.alloc o) := ⟨h.os, h.tape, h.output, by have := h.size; simp; omega, fun k h1 h2 => (Below.heap_alloc w' o k (Nat.lt_of_lt_of_le h1 h.size)).trans (h.block k h1 h2)⟩
theorem But.drew (h : But K w w') : But K w w'.drew := ((Below.refl w'.heap.size w').drew |> fun b => ⟨b.os.trans h.os, b.tape.trans h.tape, b.output.trans h.output, Nat.le_trans h.size b.size, fun k h1 h2 => (b.block k (Nat.lt_of_lt_of_le h1 h.size)).trans (h.block k h1 h2)⟩)
theorem But.setCell (h : But K w w') {a : Addr} (ha : K a.block) (v : Value) : But K w (w'.setCell a v) := ⟨h.os, h.tape, h.output, by have := h.size; simpa [World.setCell] using this, fun k h1 h2 => (Below.heap_setCell w' a v k (fun e => h2 (e ▸ ha))).trans (h.block k h1 h2)⟩
theorem But.grown {b : Nat} (h : But K w w') (hg : w'.grownBy w2 (some b)) (hb : K b) : But K w w2 := ⟨hg.os.trans h.os, hg.tape.trans h.tape, hg.output.trans h.output, Nat.le_trans h.size hg.size, fun k h1 h2 => (hg.block k (Nat.lt_of_lt_of_le h1 h.size) (fun e => h2 (by cases e; exact hb))).trans (h.block k h1 h2)⟩
theorem But.grown0 (h : But K w w') (hg : w'.grownBy w2 none) : But K w w2 := ⟨hg.os.trans h.os, hg.tape.trans h.tape, hg.output.trans h.output, Nat.le_trans h.size hg.size, fun k h1 h2 => (hg.block k (Nat.lt_of_lt_of_le h1 h.size) (by simp)).trans (h.block k h1 h2)⟩
theorem But.new (h : But K w w') {b : Nat} (hk : ∀ k, K' k → K k ∨ w.heap.size ≤ k) (h' : But K' w' w2) : But K w w2 := ⟨h'.os.trans h.os, h'.tape.trans h.tape, h'.output.trans h.output, Nat.le_trans h.size h'.size, fun k h1 h2 => (h'.block k (Nat.lt_of_lt_of_le h1 h.size) (fun e => by rcases hk k e with e | e; exact h2 e; omega)).trans (h.block k h1 h2)⟩
theorem But.below {B : Nat} (h : But K w w') (hB : B ≤ w.heap.size) (hk : ∀ k, K k → B ≤ k) : Below B w w' := ⟨h.os, h.tape, h.output, h.size, fun k h1 => h.block k (by omega) (fun e => by have := hk k e; omega)⟩
theorem Box.but {b : Nat} {cs : Array Value} {t : TypeId} (h : Box w b cs t) (hb : But K w w') (hk : ¬ K b) : Box w' b cs t := h.block (hb.block b h.lt hk)
theorem HasMap.but {b n : Nat} {k : TypeId} {f : Lit → Option Value} (h : HasMap Yba.prog k w b n f) (hb : But K w w') (hk : ¬ K b) : HasMap Yba.prog k w' b n f := h.block (hb.block b h.lt hk)
end

theorem cell_up {w : World} {a : Addr} {v : Value} (h : w.cell? a = some v) (o : Obj) : (w.alloc o).cell? a = some v := by
  rw [← h]
  exact World.cell?_of_block (Below.heap_alloc w o a.block (World.block_lt_of_cell? w a h))

/-! ### the map of rounds -/
theorem law2 : Go.Maps.Keyed Yba.prog 2 := Go.Maps.int_keyed Yba.underlying2
def kl (x : Int) : Lit := .int .i64 x
theorem key_ok (x : Int) (h : -9223372036854775808 ≤ x) (h' : x ≤ 9223372036854775807) : keyOf Yba.prog 2 (.int .i64 x) = some (kl x) := by
  refine Go.Maps.keyOf_int_mk Yba.underlying2 ?_
  have e1 : IntKind.i64.min = -9223372036854775808 := by decide
  have e2 : IntKind.i64.max = 9223372036854775807 := by decide
  simp [Lit.wf, e1, e2, h, h']
theorem zero26 (w : World) : (zeroValue 26).run Yba.prog w = .ok (.pointer none) w := by kernel_rfl
theorem kl_key (x : Int) (h : -9223372036854775808 ≤ x) (h' : x ≤ 9223372036854775807) : WideAt.IsKeyLit (kl x) := law2.key (key_ok x h h')
theorem kl_ne {x y : Int} (h : x ≠ y) : kl x ≠ kl y := by
  intro e
  cases e
  exact h rfl

end Go.Proofs.Ybulkbapc

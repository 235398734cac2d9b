/- LawS2593BExact: boxes; rows; what a call may turn. -/
import Derived.Test.YbulkbargMaps
import Derived.WalkSpells
import Derived.WalkLawsBesides
import Derived.ProofKit
import Derived.OpenShut
import Derived.Lib.Builder
import Derived.Maps.AppendAt
import Derived.Maps.RangeWalk
import Derived.RegionTactic
import Derived.ChangeAlike
import Derived.Deep.Draws
import Derived.Deep.RegionHeld3
import Derived.Deep.LoopGhost
import Derived.Deep.QuietTactic
import Derived.BigQuiet
import Derived.Deep.DeepCutAuto
import Derived.Carry
import Derived.Sort.MapsRangeIn
namespace Go.Proofs.Ybulkbarg
open Go.ChangeShapes Go.WideShapes Go.ChangeAt Go.RowKit
set_option linter.unusedVariables false

theorem own : ownKnob Yba.prog.godebug = none := by kernel_rfl
theorem laidOut : laidOutB Yba.prog = true := by kernel_rfl

/-! ### boxes -/
/-- A block of the call's own. -/
def Box (w : World) (b : Nat) (cs : Array Value) (t : TypeId) : Prop := w.heap[b]? = some (.cells cs t (0, 0))

section
variable {w w' : World} {b : Nat} {cs : Array Value} {t : TypeId}
theorem Box.lt (h : Box w b cs t) : b < w.heap.size := (Array.getElem?_eq_some_iff.1 h).1
theorem Box.cell (h : Box w b cs t) (i : Nat) {v : Value} (hv : cs[i]? = some v) : w.cell? ⟨b, i, none⟩ = some v := by
  rw [cell_of_row _ _ _ _ _ _ h]; exact hv
theorem Box.free (h : Box w b cs t) (i : Nat) : w.frozen? ⟨b, i, none⟩ = false := by
  unfold Box at h
  simp [World.frozen?, h]
theorem Box.new (w : World) (cs : Array Value) (t : TypeId) : Box (w.alloc (.cells cs t)) w.heap.size cs t := heap_alloc_new w _
theorem Box.alloc (h : Box w b cs t) (o : Obj) : Box (w.alloc o) b cs t := by
  have := h.lt
  exact (Below.heap_alloc w o b this).trans h
theorem Box.drew (h : Box w b cs t) : Box w.drew b cs t := h
theorem Box.set (h : Box w b cs t) (i : Nat) (v : Value) : Box (w.setCell ⟨b, i, none⟩ v) b (cs.setIfInBounds i v) t := by
  unfold Box at h ⊢
  simp [World.setCell, Array.getElem?_modify, h]
theorem Box.other (h : Box w b cs t) {a : Addr} (hne : b ≠ a.block) (v : Value) : Box (w.setCell a v) b cs t :=
  (Below.heap_setCell w a v b hne).trans h
theorem Box.block (h : Box w b cs t) (hb : w'.heap[b]? = w.heap[b]?) : Box w' b cs t := hb.trans h
theorem Box.below (h : Box w b cs t) (hb : Below w.heap.size w w') : Box w' b cs t := h.block (hb.block b h.lt)
theorem Box.ne {b' : Nat} {cs' : Array Value} {t' : TypeId} (h : Box w b cs t) (k : Box w b' cs' t') (ht : t ≠ t') : b ≠ b' := by
  rintro rfl
  unfold Box at h k
  rw [h] at k
  injection k with k
  injection k with _ k
  exact ht k
theorem Box.ne_map {n m : Nat} {k : TypeId} {f : Lit → Option Value} (h : Box w b cs t) (hm : HasMap Yba.prog k w m n f) : b ≠ m := by
  rintro rfl
  obtain ⟨D, ⟨es, clock, h1, _⟩, _⟩ := hm
  unfold Box at h
  rw [h1] at h
  cases h
end

/-! ### rows -/
def bools (bs : List Bool) : Array Value := (bs.map Value.bool).toArray
def u64s (ds : List Int) : Array Value := (ds.map (Value.int .u64)).toArray
theorem bools_at {bs : List Bool} {i : Nat} {x : Bool} (h : bs[i]? = some x) : (bools bs)[i]? = some (.bool x) := by simp [bools, h]
theorem u64s_at {ds : List Int} {i : Nat} {x : Int} (h : ds[i]? = some x) : (u64s ds)[i]? = some (.int .u64 x) := by simp [u64s, h]
theorem bools_set (bs : List Bool) (i : Nat) (x : Bool) : (bools bs).setIfInBounds i (.bool x) = bools (bs.set i x) := by simp [bools, List.map_set]

/-! ### what may have turned -/
structure But (K : Nat → Prop) (w w' : World) : Prop where
  os : w'.os = w.os
  tape : w'.tape = w.tape
  output : w'.output = w.output
  size : w.heap.size ≤ w'.heap.size
  block : ∀ k, k < w.heap.size → ¬ K k → w'.heap[k]? = w.heap[k]?

section
variable {K K' : Nat → Prop} {w w' w2 : World}
theorem But.refl (K : Nat → Prop) (w : World) : But K w w := ⟨rfl, rfl, rfl, Nat.le_refl _, fun _ _ _ => rfl⟩
theorem But.mono (h : But K w w') (hk : ∀ k, K k → K' k) : But K' w w' := ⟨h.os, h.tape, h.output, h.size, fun k h1 h2 => h.block k h1 fun e => h2 (hk k e)⟩
theorem But.trans (h : But K w w') (h' : But K w' w2) : But K w w2 := ⟨h'.os.trans h.os, h'.tape.trans h.tape, h'.output.trans h.output, Nat.le_trans h.size h'.size, fun k h1 h2 => (h'.block k (Nat.lt_of_lt_of_le h1 h.size) h2).trans (h.block k h1 h2)⟩
theorem But.alloc (h : But K w w') (o : Obj) : But K w (w'.alloc o) := ⟨h.os, h.tape, h.output, by have := h.size; simp; omega, fun k h1 h2 => (Below.heap_alloc w' o k (Nat.lt_of_lt_of_le h1 h.size)).trans (h.block k h1 h2)⟩
theorem But.drew (h : But K w w') : But K w w'.drew := ((Below.refl w'.heap.size w').drew |> fun b => ⟨b.os.trans h.os, b.tape.trans h.tape, b.output.trans h.output, Nat.le_trans h.size b.size, fun k h1 h2 => (b.block k (Nat.lt_of_lt_of_le h1 h.size)).trans (h.block k h1 h2)⟩)
theorem But.setCell (h : But K w w') {a : Addr} (ha : K a.block) (v : Value) : But K w (w'.setCell a v) := ⟨h.os, h.tape, h.output, by have := h.size; simpa [World.setCell] using this, fun k h1 h2 => (Below.heap_setCell w' a v k (fun e => h2 (e ▸ ha))).trans (h.block k h1 h2)⟩
theorem But.grown {b : Nat} (h : But K w w') (hg : w'.grownBy w2 (some b)) (hb : K b) : But K w w2 := ⟨hg.os.trans h.os, hg.tape.trans h.tape, hg.output.trans h.output, Nat.le_trans h.size hg.size, fun k h1 h2 => (hg.block k (Nat.lt_of_lt_of_le h1 h.size) (fun e => h2 (by cases e; exact hb))).trans (h.block k h1 h2)⟩
theorem But.grown0 (h : But K w w') (hg : w'.grownBy w2 none) : But K w w2 := ⟨hg.os.trans h.os, hg.tape.trans h.tape, hg.output.trans h.output, Nat.le_trans h.size hg.size, fun k h1 h2 => (hg.block k (Nat.lt_of_lt_of_le h1 h.size) (by simp)).trans (h.block k h1 h2)⟩
theorem But.new (h : But K w w') {b : Nat} (hk : ∀ k, K' k → K k ∨ w.heap.size ≤ k) (h' : But K' w' w2) : But K w w2 := ⟨h'.os.trans h.os, h'.tape.trans h.tape, h'.output.trans h.output, Nat.le_trans h.size h'.size, fun k h1 h2 => (h'.block k (Nat.lt_of_lt_of_le h1 h.size) (fun e => by rcases hk k e with e | e; exact h2 e; omega)).trans (h.block k h1 h2)⟩
theorem But.below {B : Nat} (h : But K w w') (hB : B ≤ w.heap.size) (hk : ∀ k, K k → B ≤ k) : Below B w w' := ⟨h.os, h.tape, h.output, h.size, fun k h1 => h.block k (by omega) (fun e => by have := hk k e; omega)⟩
theorem Box.but {b : Nat} {cs : Array Value} {t : TypeId} (h : Box w b cs t) (hb : But K w w') (hk : ¬ K b) : Box w' b cs t := h.block (hb.block b h.lt hk)
theorem HasMap.but {b n : Nat} {k : TypeId} {f : Lit → Option Value} (h : HasMap Yba.prog k w b n f) (hb : But K w w') (hk : ¬ K b) : HasMap Yba.prog k w' b n f := h.block (hb.block b h.lt hk)
end

theorem cell_up {w : World} {a : Addr} {v : Value} (h : w.cell? a = some v) (o : Obj) : (w.alloc o).cell? a = some v := by
  rw [← h]
  exact World.cell?_of_block (Below.heap_alloc w o a.block (World.block_lt_of_cell? w a h))

theorem Box.drewN {w : World} {b : Nat} {cs : Array Value} {t : TypeId} (h : Box w b cs t) (n : Nat) : Box (w.drewN n) b cs t := h
theorem below_drewN {B : Nat} {w w' : World} (h : Below B w w') (n : Nat) : Below B w (w'.drewN n) := by
  induction n with
  | zero => exact h
  | succ n ih => exact ih.drew
theorem HasMap.below {w w' : World} {b n : Nat} {k : TypeId} {f : Lit → Option Value} (h : HasMap Yba.prog k w b n f) (hb : Below w.heap.size w w') : HasMap Yba.prog k w' b n f := h.block (hb.block b h.lt)

/-! ### names and keys -/
/-- The names of the processes. -/
def nm : Nat → ByteArray
  | 0 => ⟨#[112]⟩
  | 1 => ⟨#[113]⟩
  | 2 => ⟨#[114]⟩
  | _ => ⟨#[115]⟩
/-- The names of the sites. -/
def st : Nat → ByteArray
  | 0 => ⟨#[97]⟩
  | _ => ⟨#[98]⟩
theorem law9 : Go.Maps.Keyed Yba.prog 9 := Go.Maps.string_keyed Yba.underlying9
def kn (j : Nat) : Lit := .string (nm j).data.toList
def ks (j : Nat) : Lit := .string (st j).data.toList
theorem nm_size (j : Nat) : (nm j).size = 1 := by unfold nm; split <;> rfl
theorem st_size (j : Nat) : (st j).size = 1 := by unfold st; split <;> rfl
theorem key_nm (j : Nat) : keyOf Yba.prog 9 (.string (nm j)) = some (kn j) := WideMaps.keyOf_string_mk Yba.underlying9 (by rw [nm_size]; decide)
theorem key_st (j : Nat) : keyOf Yba.prog 9 (.string (st j)) = some (ks j) := WideMaps.keyOf_string_mk Yba.underlying9 (by rw [st_size]; decide)
theorem kn_key (j : Nat) : WideAt.IsKeyLit (kn j) := law9.key (key_nm j)
theorem ks_key (j : Nat) : WideAt.IsKeyLit (ks j) := law9.key (key_st j)
theorem nm_inj : ∀ i, i < 4 → ∀ j, j < 4 → (nm i).data.toList = (nm j).data.toList → i = j := by decide
theorem kn_inj {i j : Nat} (hi : i < 4) (hj : j < 4) (h : kn i = kn j) : i = j := nm_inj i hi j hj (by unfold kn at h; injection h)
theorem ks_inj : ks 0 ≠ ks 1 := by
  intro h
  unfold ks at h
  injection h with h
  revert h
  decide
theorem zero67 (w : World) : (zeroValue 67).run Yba.prog w = .ok (.agg #[.int .u64 0, .int .u64 0]) w := by kernel_rfl
theorem zero68 (w : World) : (zeroValue 68).run Yba.prog w = .ok (.pointer none) w := by kernel_rfl

/-! ### what comes in -/
/-- A row of bytes that came in. -/
def BytesIn (B : Nat) (w : World) (p : Option Addr) (xs : List Int) : Prop :=
  xs ≠ [] → ∃ b o, p = some ⟨b, o, none⟩ ∧ b < B ∧ ∀ i x, xs[i]? = some x → w.cell? ⟨b, o + i, none⟩ = some (.int .u8 x)
theorem BytesIn.later {B : Nat} {w w' : World} {p : Option Addr} {xs : List Int} (h : BytesIn B w p xs) (hb : Below B w w') : BytesIn B w' p xs := fun h0 => by
  obtain ⟨b, o, e, hlt, hc⟩ := h h0
  exact ⟨b, o, e, hlt, fun i x hx => (hb.cell (p := ⟨b, o + i, none⟩) hlt).trans (hc i x hx)⟩

/-! ### the plain rule -/
/-- Which of the four names a byte picks. -/
def pick (y : Int) : Nat := (y % 4).toNat
theorem pick_lt {y : Int} (h : 0 ≤ y) : pick y < 4 := by unfold pick; omega
theorem pick_mod {y : Int} (h : 0 ≤ y) : y % 4 = (pick y : Int) := by unfold pick; omega
/-- The wait of a process that is watched. -/
def wv (al cl : List Int) (j : Nat) : Value := .agg #[.int .u64 (al.getD j 0), .int .u64 (cl.getD j 0)]

end Go.Proofs.Ybulkbarg

/- What the law of this seat leans on: names, keys, boxes, bytes. -/
import Derived.Test.YbulkbaooMaps
import Derived.WalkSpells
import Derived.ProofKit
import Derived.OpenShut
import Derived.Lib.Builder
import Derived.Laws.BytesArg
import Derived.Maps.AppendAt
import Derived.RegionTactic
import Derived.ChangeAlike
import Derived.Deep.Draws
import Derived.Deep.RegionHeld3
import Derived.Deep.LoopGhost
import Derived.Deep.QuietTactic
import Derived.BigQuiet
namespace Go.Proofs.Ybulkbaoo
open Go.ChangeShapes Go.WideShapes Go.ChangeAt Go.RowKit
set_option linter.unusedVariables false

theorem own : ownKnob Yba.prog.godebug = none := by kernel_rfl
theorem laidOut : laidOutB Yba.prog = true := by kernel_rfl
theorem law66 : Go.Maps.Keyed Yba.prog 66 := Go.Maps.Keyed.of_law (deep_law_laid laidOut (m := 2) (by omega) (of_decide_eq_true (by kernel_rfl)) (by kernel_rfl) (by kernel_rfl))

/-! ### boxes -/
/-- A box of the call's own. -/
def Box (w : World) (b : Nat) (cs : Array Value) (t : TypeId) : Prop := w.heap[b]? = some (.cells cs t (0, 0))

theorem Box.lt {w : World} {b : Nat} {cs : Array Value} {t : TypeId} (h : Box w b cs t) : b < w.heap.size := (Array.getElem?_eq_some_iff.1 h).1
theorem Box.cell {w : World} {b : Nat} {cs : Array Value} {t : TypeId} (h : Box w b cs t) (i : Nat) {v : Value} (hv : cs[i]? = some v) : w.cell? ⟨b, i, none⟩ = some v := by
  rw [cell_of_row _ _ _ _ _ _ h]; exact hv
theorem Box.free {w : World} {b : Nat} {cs : Array Value} {t : TypeId} (h : Box w b cs t) (i : Nat) : w.frozen? ⟨b, i, none⟩ = false := by
  unfold Box at h
  simp [World.frozen?, h]
theorem Box.new (w : World) (cs : Array Value) (t : TypeId) : Box (w.alloc (.cells cs t)) w.heap.size cs t := heap_alloc_new w _
theorem Box.alloc {w : World} {b : Nat} {cs : Array Value} {t : TypeId} (h : Box w b cs t) (o : Obj) : Box (w.alloc o) b cs t := by
  have := h.lt
  exact (Below.heap_alloc w o b this).trans h
theorem Box.drew {w : World} {b : Nat} {cs : Array Value} {t : TypeId} (h : Box w b cs t) : Box w.drew b cs t := h
theorem Box.set {w : World} {b : Nat} {cs : Array Value} {t : TypeId} (h : Box w b cs t) (i : Nat) (v : Value) : Box (w.setCell ⟨b, i, none⟩ v) b (cs.setIfInBounds i v) t := by
  unfold Box at h ⊢
  simp [World.setCell, Array.getElem?_modify, h]
theorem Box.other {w : World} {b : Nat} {cs : Array Value} {t : TypeId} (h : Box w b cs t) {a : Addr} (hne : b ≠ a.block) (v : Value) : Box (w.setCell a v) b cs t :=
  (Below.heap_setCell w a v b hne).trans h
theorem Box.block {w w' : World} {b : Nat} {cs : Array Value} {t : TypeId} (h : Box w b cs t) (hb : w'.heap[b]? = w.heap[b]?) : Box w' b cs t := hb.trans h

/-! ### bytes -/
/-- Where the bytes xs lie; of no byte nothing is said. -/
def BytesAt (w : World) (p : Option Addr) (xs : List Int) : Prop :=
  0 < xs.length → ∃ b o, p = some ⟨b, o, none⟩ ∧ b < w.heap.size ∧ ∀ i, i < xs.length → w.cell? ⟨b, o + i, none⟩ = some (.int .u8 (xs.getD i 0))

theorem BytesAt.later {w w' : World} {p : Option Addr} {xs : List Int} (h : BytesAt w p xs) (hb : Below w.heap.size w w') : BytesAt w' p xs := fun h0 => by
  obtain ⟨b, o, rfl, hlt, hc⟩ := h h0
  exact ⟨b, o, rfl, Nat.lt_of_lt_of_le hlt hb.size, fun i hi => (hb.cell (p := ⟨b, o + i, none⟩) hlt).trans (hc i hi)⟩

theorem BytesAt.convert {w : World} {p : Option Addr} {xs : List Int} (h : BytesAt w p xs) (n c : Nat) (hn : xs.length = n) :
    (convert 50 9 (.slice p n c)).run Yba.prog w = .ok (.string (strOfNums xs)) w := by
  rcases Nat.eq_zero_or_pos n with h0 | h0
  · subst h0
    obtain rfl : xs = [] := List.eq_nil_of_length_eq_zero hn
    rw [run_convert_bytes_string w 50 9 5 p 0 c Yba.underlying50 Yba.underlying5 Yba.underlying9]
    cases p with
    | none => simp [Conv.bytesToString]; rfl
    | some a => simp [Conv.bytesToString, loadCells, loadCellsFrom]; rfl
  · obtain ⟨b, o, rfl, _, hc⟩ := h (by omega)
    exact run_convert_bytes_arg (P := Yba.prog) w 50 5 Yba.underlying50 Yba.underlying5 b o n c xs hn (fun i hi => hc i (by omega)) 9 Yba.underlying9

/-- bytes.Equal at two slices of the same bytes. -/
theorem equal_same (p q : Option Addr) (n c d : Nat) (xs : List Int) (w : World) (hn : xs.length = n) (hp : BytesAt w p xs) (hq : BytesAt w q xs) :
    Calls Yba.prog 8 #[.slice p n c, .slice q n d] w fun e w' => e = .returned (.bool true) ∧ w' = w := by
  have k1 := hp.convert n c hn
  have k2 := hq.convert n d hn
  go_enter Yba.func8, Yba.ntmps8
  go_wp2
  go_ret
  exact ⟨rfl, rfl⟩

theorem info5 : (Yba.prog.info? 5).map (fun i => (i.zero, i.size, i.bytes)) = some (some (.int .u8 0), 1, 1) := by kernel_rfl

/-! ### names and keys -/
def nm (x : Int) : ByteArray := if x % 4 = 0 then ⟨#[]⟩ else if x % 4 = 1 then ⟨#[97]⟩ else if x % 4 = 2 then ⟨#[98]⟩ else ⟨#[97, 98]⟩

theorem nm_cases (x : Int) (h : 0 ≤ x) : nm x = ⟨#[]⟩ ∨ nm x = ⟨#[97]⟩ ∨ nm x = ⟨#[98]⟩ ∨ nm x = ⟨#[97, 98]⟩ := by
  unfold nm
  by_cases h0 : x % 4 = 0
  · simp [h0]
  by_cases h1 : x % 4 = 1
  · simp [h1]
  by_cases h2 : x % 4 = 2
  · simp [h2]
  · simp [h0, h1, h2]

set_option maxRecDepth 100000 in
theorem name_4 (x : Int) (w : World) (h0 : 0 ≤ x) (h1 : x ≤ 255) : Calls Yba.prog 4 #[.int .u8 x] w fun e w' => e = .returned (.string (nm x)) ∧ w' = w := by
  by_cases e0 : x % 4 = 0
  · rw [show nm x = ⟨#[]⟩ by simp [nm, e0]]
    go_enter Yba.func4, Yba.ntmps4
    go_wp2
    go_ret
    exact ⟨rfl, rfl⟩
  by_cases e1 : x % 4 = 1
  · rw [show nm x = ⟨#[97]⟩ by simp [nm, e1]]
    go_enter Yba.func4, Yba.ntmps4
    go_wp2
    go_ret
    exact ⟨rfl, rfl⟩
  by_cases e2 : x % 4 = 2
  · rw [show nm x = ⟨#[98]⟩ by simp [nm, e2]]
    go_enter Yba.func4, Yba.ntmps4
    go_wp2
    go_ret
    exact ⟨rfl, rfl⟩
  · rw [show nm x = ⟨#[97, 98]⟩ by simp [nm, e0, e1, e2]]
    go_enter Yba.func4, Yba.ntmps4
    go_wp2
    go_ret
    exact ⟨rfl, rfl⟩

/-- A name that the law may use. -/
def IsNm (u : ByteArray) : Prop := u = ⟨#[]⟩ ∨ u = ⟨#[97]⟩ ∨ u = ⟨#[98]⟩ ∨ u = ⟨#[97, 98]⟩

/-- What such a key reads as. -/
def kl (u s : ByteArray) : Lit := .string (keyBytes [.string u.data.toList, .string s.data.toList])
theorem hkey (u s : ByteArray) (hu : IsNm u) (hs : IsNm s) : keyOf Yba.prog 66 (.agg #[.string u, .string s]) = some (kl u s) := by
  rcases hu with rfl | rfl | rfl | rfl <;> rcases hs with rfl | rfl | rfl | rfl <;> kernel_rfl
theorem kl_key (u s : ByteArray) (hu : IsNm u) (hs : IsNm s) : WideAt.IsKeyLit (kl u s) := law66.key (hkey u s hu hs)
theorem kl_inj {u s u' s' : ByteArray} (hu : IsNm u) (hs : IsNm s) (hu' : IsNm u') (hs' : IsNm s') (h : kl u s = kl u' s') : u = u' ∧ s = s' := by
  have h1 := hkey u s hu hs
  rw [h] at h1
  have := law66.inj h1 (hkey u' s' hu' hs')
  simpa using this

end Go.Proofs.Ybulkbaoo

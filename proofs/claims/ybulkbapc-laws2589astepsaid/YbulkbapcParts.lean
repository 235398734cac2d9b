/- LawS2589AStep: what comes in; slices made; the map made. -/
import Derived.Test.YbulkbapcAdvance
import Derived.Lib.SmallJoins
namespace Go.Proofs.Ybulkbapc
open Go.ChangeShapes Go.WideShapes Go.ChangeAt Go.RowKit Go.Joins
set_option linter.unusedVariables false

/-- A row of bools that came in. -/
def BoolsIn (B : Nat) (w : World) (p : Option Addr) (bs : List Bool) : Prop :=
  bs ≠ [] → ∃ b o, p = some ⟨b, o, none⟩ ∧ b < B ∧ ∀ i x, bs[i]? = some x → w.cell? ⟨b, o + i, none⟩ = some (.bool x)
/-- A row of numbers that came in. -/
def IntsIn (B : Nat) (w : World) (p : Option Addr) (xs : List Int) : Prop :=
  xs ≠ [] → ∃ b o, p = some ⟨b, o, none⟩ ∧ b < B ∧ ∀ i x, xs[i]? = some x → w.cell? ⟨b, o + i, none⟩ = some (.int .i16 x)
theorem BoolsIn.later {B : Nat} {w w' : World} {p : Option Addr} {bs : List Bool} (h : BoolsIn B w p bs) (hb : Below B w w') : BoolsIn B w' p bs := fun h0 => by
  obtain ⟨b, o, e, hlt, hc⟩ := h h0
  exact ⟨b, o, e, hlt, fun i x hx => (hb.cell (p := ⟨b, o + i, none⟩) hlt).trans (hc i x hx)⟩
theorem IntsIn.later {B : Nat} {w w' : World} {p : Option Addr} {bs : List Int} (h : IntsIn B w p bs) (hb : Below B w w') : IntsIn B w' p bs := fun h0 => by
  obtain ⟨b, o, e, hlt, hc⟩ := h h0
  exact ⟨b, o, e, hlt, fun i x hx => (hb.cell (p := ⟨b, o + i, none⟩) hlt).trans (hc i x hx)⟩

theorem info25 : (Yba.prog.info? 25).map (fun i => (i.zero, i.size, i.bytes)) = some (some (.float .f64 0), 1, 8) := by kernel_rfl
theorem info4 : (Yba.prog.info? 4).map (fun i => (i.zero, i.size, i.bytes)) = some (some (.bool false), 1, 1) := by kernel_rfl
theorem floats_made (n : Nat) : madeCells #[.float .f64 0] n = floats (List.replicate n 0) := by
  apply Array.toList_inj.1
  rw [toList_madeCells_one]
  simp [floats]
theorem bools_made (n : Nat) : madeCells #[.bool false] n = bools (List.replicate n false) := by
  apply Array.toList_inj.1
  rw [toList_madeCells_one]
  simp [bools]
theorem make27 (c : Nat) (hc : c ≤ 300) (w : World) :
    (Instr.makeSlice 27 (.int .i64 (c : Int)) (.int .i64 (c : Int))).run Yba.prog w = .ok (.slice (some ⟨w.heap.size, 0, none⟩) c c) (w.alloc (.cells (floats (List.replicate c 0)) 25)) := by
  obtain ⟨i, hi, hzz⟩ := Option.map_eq_some_iff.1 info25
  simp only [Prod.mk.injEq] at hzz
  obtain ⟨hz, hs, hb⟩ := hzz
  have hr := run_make (P := Yba.prog) w 27 25 i _ Yba.underlying27 hi hz .i64 .i64 c c (by omega) (Int.le_refl _) (by rw [hb]; omega) (by omega)
  simp only [Int.toNat_natCast, hs, Nat.mul_one] at hr
  rw [← floats_made]
  exact hr
theorem make22 (c : Nat) (hc : c ≤ 300) (w : World) :
    (Instr.makeSlice 22 (.int .i64 (c : Int)) (.int .i64 (c : Int))).run Yba.prog w = .ok (.slice (some ⟨w.heap.size, 0, none⟩) c c) (w.alloc (.cells (bools (List.replicate c false)) 4)) := by
  obtain ⟨i, hi, hzz⟩ := Option.map_eq_some_iff.1 info4
  simp only [Prod.mk.injEq] at hzz
  obtain ⟨hz, hs, hb⟩ := hzz
  have hr := run_make (P := Yba.prog) w 22 4 i _ Yba.underlying22 hi hz .i64 .i64 c c (by omega) (Int.le_refl _) (by rw [hb]; omega) (by omega)
  simp only [Int.toNat_natCast, hs, Nat.mul_one] at hr
  rw [← bools_made]
  exact hr

/-! ### four new blocks -/
theorem new1 (w : World) (cs : Array Value) (t : TypeId) (p q r : Obj) : Box ((((w.alloc (.cells cs t)).alloc p).alloc q).alloc r) w.heap.size cs t := (((Box.new w cs t).alloc p).alloc q).alloc r
theorem new2 (w : World) (o : Obj) (cs : Array Value) (t : TypeId) (q r : Obj) : Box ((((w.alloc o).alloc (.cells cs t)).alloc q).alloc r) (w.heap.size + 1) cs t := by
  have := ((Box.new (w.alloc o) cs t).alloc q).alloc r
  rwa [show (w.alloc o).heap.size = w.heap.size + 1 by simp] at this
theorem new3 (w : World) (o p : Obj) (cs : Array Value) (t : TypeId) (r : Obj) : Box ((((w.alloc o).alloc p).alloc (.cells cs t)).alloc r) (w.heap.size + 1 + 1) cs t := by
  have := (Box.new ((w.alloc o).alloc p) cs t).alloc r
  rwa [show ((w.alloc o).alloc p).heap.size = w.heap.size + 1 + 1 by simp] at this
theorem new4 (w : World) (o p q : Obj) (cs : Array Value) (t : TypeId) : Box ((((w.alloc o).alloc p).alloc q).alloc (.cells cs t)) (w.heap.size + 1 + 1 + 1) cs t := by
  have := Box.new (((w.alloc o).alloc p).alloc q) cs t
  rwa [show (((w.alloc o).alloc p).alloc q).heap.size = w.heap.size + 1 + 1 + 1 by simp] at this
theorem bel1 (w : World) (o : Obj) : Below w.heap.size w (w.alloc o) := (Below.refl _ w).alloc (Nat.le_refl _) o
theorem bel4 (w : World) (o p q r : Obj) : Below w.heap.size w ((((w.alloc o).alloc p).alloc q).alloc r) := (((bel1 w o).alloc (by simp) p).alloc (by simp; omega) q).alloc (by simp; omega) r

end Go.Proofs.Ybulkbapc

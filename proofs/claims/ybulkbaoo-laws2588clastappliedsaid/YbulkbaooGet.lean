/- (*Store).Get, under the lock; bytes.Clone. -/
import Derived.Test.YbulkbaooApply
namespace Go.Proofs.Ybulkbaoo
open Go.ChangeShapes Go.WideShapes Go.ChangeAt Go.RowKit
set_option linter.unusedVariables false

theorem up1 : wrap32 (0 + 1) = 1 := by simp [wrap32]
theorem dn1 : wrap32 (1 + -1) = 0 := by simp [wrap32]

set_option maxRecDepth 100000 in
set_option maxHeartbeats 1000000 in
theorem get_7 (S : Nat) (cnt : Int) (ev : Value) (n : Nat) (f : Lit → Option Value) (u s : ByteArray) (w : World) (y0 : ByteArray) (y1 : Int) (yp : Option Addr) (ok : Bool) (hE : Ent w ev n f) (hS : Box w S (stc cnt 0 ev) 48)
    (hget : ∀ w1, Ent w1 ev n f → w1.cell? ⟨S, 11, none⟩ = some ev → w1.cell? ⟨S, 12, none⟩ = some (.map none) →
      Calls Yba.prog 9 #[.pointer (some ⟨S, 11, none⟩), .agg #[.string u, .string s]] w1 fun e w' => e = .returned (.tuple #[.agg #[.string y0, .int .u16 y1, .pointer yp], .bool ok]) ∧ Below w1.heap.size w1 w') :
    Calls Yba.prog 7 #[.pointer (some ⟨S, 0, none⟩), .string u, .string s] w fun e w' => e = .returned (.tuple #[.agg #[.string y0, .int .u16 y1, .pointer yp], .bool ok]) ∧ Below w.heap.size w w' := by
  have hSl := hS.lt
  go_enter_defers Yba.func7, Yba.ntmps7
  go_wp2_with fail
  refine (Go.RwLone.rlock_open rwRLib S 5 0 (.int .i32 0) (.int .u32 0) _ ((hS.alloc _).cell 5 rfl) ((hS.alloc _).cell 8 rfl) ((hS.alloc _).cell 9 rfl) ((hS.alloc _).free 9) (by rw [up1]; omega)).mono ?_
  rintro e w1 ⟨rfl, hw1⟩
  rw [up1] at hw1
  have hS1 : Box w1 S (stc cnt 1 ev) 48 := by rw [hw1]; exact (hS.alloc _).set 9 _
  have hR1 : Box w1 w.heap.size #[.string ⟨#[]⟩, .int .u16 0, .pointer none] 56 := by rw [hw1]; exact (Box.new w _ 56).other (by show w.heap.size ≠ S; omega) _
  have hE1 : Ent w1 ev n f := by rw [hw1]; exact (hE.alloc _).setCell (hS.alloc _) 9 _
  have hz1 : w1.heap.size = w.heap.size + 1 := by rw [hw1]; simp [World.setCell]
  have hk1 : ∀ k, k < w.heap.size → k ≠ S → w1.heap[k]? = w.heap[k]? := fun k hk h1 => by
    rw [hw1, Below.heap_setCell _ _ _ _ h1, Below.heap_alloc _ _ _ hk]
  have ho1 : w1.os = w.os ∧ w1.tape = w.tape ∧ w1.output = w.output := by rw [hw1]; exact ⟨rfl, rfl, rfl⟩
  clear hw1
  go_wp2_with fail
  refine (hget w1 hE1 (hS1.cell 11 rfl) (hS1.cell 12 rfl)).mono ?_
  rintro e w2 ⟨rfl, hb2⟩
  have hS2 : Box w2 S (stc cnt 1 ev) 48 := hS1.below hb2
  have hR2 := hR1.below hb2
  have r0 : w2.cell? ⟨w.heap.size, 0, none⟩ = some (.string ⟨#[]⟩) := hR2.cell 0 rfl
  have r1 : w2.cell? ⟨w.heap.size, 1, none⟩ = some (.int .u16 0) := hR2.cell 1 rfl
  have r2 : w2.cell? ⟨w.heap.size, 2, none⟩ = some (.pointer none) := hR2.cell 2 rfl
  have v0 := hR2.free 0
  have v1 := hR2.free 1
  have v2 := hR2.free 2
  go_wp2_with fail
  refine leaves_cons (f := 15) (args := #[.pointer (some ⟨S, 5, none⟩)]) (by simp) (by simp [go_sem]) ?_
  have hz2 := hb2.size
  have hS3 := ((hS2.other (a := ⟨w.heap.size, 0, none⟩) (by show S ≠ w.heap.size; omega) (.string y0)).other (a := ⟨w.heap.size, 1, none⟩) (by show S ≠ w.heap.size; omega) (.int .u16 y1)).other (a := ⟨w.heap.size, 2, none⟩) (by show S ≠ w.heap.size; omega) (.pointer yp)
  have hR3 := ((hR2.set 0 (.string y0)).set 1 (.int .u16 y1)).set 2 (.pointer yp)
  refine (Go.RwLone.runlock_deferred rwRLib S 5 1 (.int .i32 0) (.int .u32 0) .returning _ (hS3.cell 5 rfl) (hS3.cell 7 rfl) (hS3.cell 9 rfl) (hS3.free 9) (by rw [dn1]; omega)).mono ?_
  rintro e u' w4 ⟨rfl, rfl, hw4⟩
  rw [dn1] at hw4
  have hS4 : Box w4 S (stc cnt 0 ev) 48 := by rw [hw4]; exact hS3.set 9 _
  have hR4 : Box w4 w.heap.size #[.string y0, .int .u16 y1, .pointer yp] 56 := by rw [hw4]; exact hR3.other (by show w.heap.size ≠ S; omega) _
  have hbel : Below w.heap.size w w4 := by
    refine ⟨?_, ?_, ?_, ?_, fun k hk => ?_⟩
    · rw [hw4]; exact hb2.os.trans ho1.1
    · rw [hw4]; exact hb2.tape.trans ho1.2.1
    · rw [hw4]; exact hb2.output.trans ho1.2.2
    · rw [hw4]; simp [World.setCell]; omega
    · by_cases e : k = S
      · subst e; exact hS4.trans hS.symm
      · rw [hw4, Below.heap_setCell _ _ _ _ e, Below.heap_setCell _ _ _ _ (by show k ≠ w.heap.size; omega), Below.heap_setCell _ _ _ _ (by show k ≠ w.heap.size; omega), Below.heap_setCell _ _ _ _ (by show k ≠ w.heap.size; omega), hb2.block k (by omega), hk1 k hk e]
  have r0 : w4.cell? ⟨w.heap.size, 0, none⟩ = some (.string y0) := hR4.cell 0 rfl
  have r1 : w4.cell? ⟨w.heap.size, 1, none⟩ = some (.int .u16 y1) := hR4.cell 1 rfl
  have r2 : w4.cell? ⟨w.heap.size, 2, none⟩ = some (.pointer yp) := hR4.cell 2 rfl
  clear hw4
  refine ⟨.tuple #[.agg #[.string y0, .int .u16 y1, .pointer yp], .bool ok], ?_, rfl, hbel⟩
  simp [results, Yba.results7, go_sem, r0, r1, r2]

theorem eql_slice (w : World) (a : Option Addr) (n c : Nat) : (binOp .eql 50 (.slice a n c) (.slice none 0 0)).run Yba.prog w = .ok (.bool a.isNone) w :=
  Lib.run_eql_slice_nil (P := Yba.prog) w 50 5 a n c 0 0 Yba.underlying50

theorem clone_nil (w : World) : Calls Yba.prog 5 #[.slice none 0 0] w fun e w' => e = .returned (.slice none 0 0) ∧ w' = w := by
  have hq := eql_slice
  go_enter Yba.func5, Yba.ntmps5
  go_wp2
  go_ret
  exact ⟨rfl, rfl⟩

set_option maxRecDepth 100000 in
theorem clone_some (a : Addr) (m d : Nat) (ys : List Int) (w : World) (hl : ys.length = m) (hm : m ≤ 140737488355328) (hat : BytesAt w (some a) ys) :
    Calls Yba.prog 5 #[.slice (some a) m d] w fun e w' => ∃ g c, e = .returned (.slice (some ⟨g, 0, none⟩) m c) ∧ BytesAt w' (some ⟨g, 0, none⟩) ys ∧ Below w.heap.size w w' ∧ w.heap.size ≤ g := by
  have hq := eql_slice
  obtain ⟨i, hi, hz, hs, hby⟩ := info_parts info5
  go_enter Yba.func5, Yba.ntmps5
  go_wp2_with (at_builtin; go_must (refine wpList_append_own_at _ rfl _ _ 50 rfl w.heap.size 5 i _ 1 1 Yba.underlying50 hi hz hs hby rfl (by omega) (.slice (some ⟨w.heap.size, 0, none⟩) 0 0) 0 [] rfl ?own a m d (ys.map (Value.int .u8)) rfl (by simp [hl]) ?news (ints_oneCell _ _) (by simp only [maxLen]; omega) (by omega) (by simp) ?K))
  case own => exact World.ownsRow_made w #[] 0 (Nat.le_refl _) (by simp [maxLen]) rfl
  case news =>
    intro j u hu
    simp only [List.getElem?_map, Option.map_eq_some_iff] at hu
    obtain ⟨y, hy, rfl⟩ := hu
    have hj : j < ys.length := (List.getElem?_eq_some_iff.1 hy).1
    obtain ⟨b, o, e, hlt, hc⟩ := hat (by omega)
    cases e
    rw [Go.WideShapes.add_plain]
    refine cell_up ?_ _
    rw [hc j hj]
    simp [List.getD, hy]
  intro v' w1 hown hgrow hnil hloc
  obtain ⟨g, c, hv, hbb, hgb⟩ : ∃ g c, v' = .slice (some ⟨g, 0, none⟩) m c ∧ BytesAt w1 (some ⟨g, 0, none⟩) ys ∧ w.heap.size ≤ g := by
    rcases hown.2 with ⟨e, _⟩ | ⟨g, cap, cur, e, hb, hg, hn, hm, hs, ht⟩
    · exact absurd e hnil
    · refine ⟨g, cap, e, fun h0 => ⟨g, 0, rfl, (Array.getElem?_eq_some_iff.1 hg).1, fun j hj => ?_⟩, hb⟩
      have := World.ownsRow.cells hown (g := g) (by rw [e]; rfl) j (.int .u8 (ys.getD j 0)) (by simp [List.getD, List.getElem?_eq_getElem hj])
      rw [Go.WideShapes.add_plain] at this
      exact this
  have hbel : Below w.heap.size w w1 := ((Below.refl _ w).alloc (Nat.le_refl _) _).grown hgrow (by simp) (fun k hk => by simp [Value.ownBlock] at hk; omega)
  clear hown hgrow hnil hloc
  rw [hv]
  clear hv
  go_wp2
  go_ret
  exact ⟨g, c, rfl, hbb, hbel, hgb⟩

end Go.Proofs.Ybulkbaoo

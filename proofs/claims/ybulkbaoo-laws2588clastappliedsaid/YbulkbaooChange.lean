/- The table's change, the store's apply and Get. -/
import Derived.Test.YbulkbaooTable
import Derived.Conc.RwLone
import Derived.Laws.IdiomRangeMap
import Derived.Defers
namespace Go.Proofs.Ybulkbaoo
open Go.ChangeShapes Go.WideShapes Go.ChangeAt Go.RowKit
set_option linter.unusedVariables false

abbrev rwLink : Go.Conc.Locks.RwLink := { lock := 0, unlock := 0, ilock := 0, iunlock := 0, lockSlow := 0, unlockSlow := 0, disable := 18, enable := 21, acquire := 22, relMerge := 23, cas32 := 0, add32 := 28, tMutex := 32, tIMutex := 30, tPMutex := 81, tPIMutex := 0, tPI32 := 89, tUP := 80, tNoCopy := 27, tU32 := 28, rlock := 14, runlock := 15, wlock := 0, wunlock := 0, i32add := 19, raceRead := 17, release := 0, rUnlockSlow := 24, semacqR := 20, semacqW := 0, semrel := 30, sfatal := 29, tRW := 38, tPRW := 78, tAI32 := 36, tPAI32 := 87, tPU32 := 84, tANoCopy := 34 }
theorem rwCore : Go.Conc.Locks.RwCore Yba.prog rwLink :=
  ⟨Yba.func19, Yba.func17, Yba.func18, Yba.func21, Yba.func22, Yba.func23, Yba.func28, Yba.underlying38, Yba.runUnderlying38, Yba.sizeOf38, Yba.isAgg38, Yba.zeroValue38, Yba.underlying36, Yba.runUnderlying36, Yba.sizeOf36, Yba.isAgg36, Yba.zeroValue36, Yba.underlying78, Yba.runUnderlying78, Yba.sizeOf78, Yba.isAgg78, Yba.zeroValue78, Yba.underlying87, Yba.runUnderlying87, Yba.sizeOf87, Yba.isAgg87, Yba.zeroValue87, Yba.underlying84, Yba.runUnderlying84, Yba.sizeOf84, Yba.isAgg84, Yba.zeroValue84, Yba.underlying34, Yba.runUnderlying34, Yba.sizeOf34, Yba.isAgg34, Yba.zeroValue34, Yba.underlying28, Yba.runUnderlying28, Yba.sizeOf28, Yba.isAgg28, Yba.zeroValue28, Yba.underlying32, Yba.runUnderlying32, Yba.sizeOf32, Yba.isAgg32, Yba.zeroValue32, Yba.underlying81, Yba.runUnderlying81, Yba.sizeOf81, Yba.isAgg81, Yba.zeroValue81, Yba.underlying89, Yba.runUnderlying89, Yba.sizeOf89, Yba.isAgg89, Yba.zeroValue89, Yba.underlying80, Yba.runUnderlying80, Yba.sizeOf80, Yba.isAgg80, Yba.zeroValue80, Yba.underlying21, Yba.runUnderlying21, Yba.sizeOf21, Yba.isAgg21, Yba.zeroValue21, (by kernel_rfl), (by kernel_rfl)⟩
theorem rwRLib : Go.Conc.Locks.RwRLib Yba.prog rwLink := ⟨rwCore, Yba.func14, Yba.func15⟩

theorem set_same {w : World} {S : Nat} {cs : Array Value} {t : TypeId} (h : Box w S cs t) (i : Nat) (v : Value) (hv : cs.setIfInBounds i v = cs) : Below w.heap.size w (w.setCell ⟨S, i, none⟩ v) := by
  refine ⟨rfl, rfl, rfl, by simp [World.setCell], fun k hk => ?_⟩
  by_cases e : k = S
  · subst e
    have := h.set i v
    rw [hv] at this
    exact this.trans h.symm
  · exact Below.heap_setCell _ _ _ _ e

set_option maxRecDepth 100000 in
theorem load_25 (S : Nat) (w : World) (c : w.cell? ⟨S, 13, none⟩ = some (.int .u32 0)) :
    Calls Yba.prog 25 #[.pointer (some ⟨S, 13, none⟩)] w fun e w' => e = .returned (.bool false) ∧ w' = w := by
  have hl := run_call_load (P := Yba.prog) Yba.func31 (by kernel_rfl) (by kernel_rfl) (by kernel_rfl) .u32 (by kernel_rfl) c
  go_enter Yba.func25, Yba.ntmps25
  go_wp2
  go_ret
  exact ⟨rfl, rfl⟩

set_option maxRecDepth 100000 in
theorem fold_26 (S : Nat) (cnt rc : Int) (ev : Value) (w : World) (hS : Box w S (stc cnt rc ev) 48) :
    Calls Yba.prog 26 #[.pointer (some ⟨S, 11, none⟩)] w fun e w' => e = .returned (.tuple #[]) ∧ Below w.heap.size w w' := by
  have hr := fun w => run_range_nilMap (P := Yba.prog) w 40 66 74 Yba.underlying40
  have hn := fun w ty a b s => run_next_nilMap (P := Yba.prog) w ty a b s
  have c : w.cell? ⟨S, 12, none⟩ = some (.map none) := hS.cell 12 rfl
  have c' := fun o => cell_up c o
  have f' := fun o => (hS.alloc o).free 12
  have hSl := hS.lt
  go_enter Yba.func26, Yba.ntmps26
  go_wp2
  refine wp_loop_rounds 1 ?_
  rw [rounds_succ]
  go_wp2
  go_end0
  refine ⟨rfl, ?_⟩
  exact (set_same hS 12 (.map none) rfl).trans ((Below.refl _ _).alloc (by simp [World.setCell]) _)

theorem Ent.below {w w' : World} {ev : Value} {n : Nat} {f : Lit → Option Value} (h : Ent w ev n f) (hb : Below w.heap.size w w') : Ent w' ev n f :=
  h.block fun b e => hb.block b (by
    rcases h with ⟨e', _⟩ | ⟨b', e', h⟩
    · rw [e] at e'; cases e'
    · rw [e] at e'; cases e'; exact h.lt)
theorem Box.below {w w' : World} {b : Nat} {cs : Array Value} {t : TypeId} (h : Box w b cs t) (hb : Below w.heap.size w w') : Box w' b cs t := h.block (hb.block b h.lt)
theorem Ent.mono {w : World} {ev : Value} {n m : Nat} {f : Lit → Option Value} (h : Ent w ev n f) (hm : n ≤ m) : Ent w ev m f := by
  rcases h with h | ⟨b, rfl, h⟩
  · exact .inl h
  · exact .inr ⟨b, rfl, h.mono hm⟩

/-- What a change leaves at its key. -/
def left (rm : Bool) (x0 : ByteArray) (x1 : Int) (x2 : Option Addr) : Option Value := if rm = true then none else some (.agg #[.string x0, .int .u16 x1, .pointer x2])

theorem put_any (S : Nat) (cnt rc : Int) (ev : Value) (n : Nat) (f : Lit → Option Value) (u s : ByteArray) (w : World) (x0 : ByteArray) (x1 : Int) (x2 : Option Addr) (rm : Bool) (hu : IsNm u) (hs : IsNm s) (hn : n < 1000000) (hE : Ent w ev n f) (hS : Box w S (stc cnt rc ev) 48) :
    Calls Yba.prog 27 #[.pointer (some ⟨S, 11, none⟩), .agg #[.string u, .string s], .agg #[.string x0, .int .u16 x1, .pointer x2, .bool rm]] w fun e w' => e = .returned (.tuple #[]) ∧ ∃ ev', Ent w' ev' (n + 1) (turnAt f (kl u s) (left rm x0 x1 x2)) ∧ Box w' S (stc cnt rc ev') 48 ∧ Step S w ev w' ev' := by
  cases rm with
  | true =>
    refine (put_del S cnt rc ev n f u s w x0 x1 x2 hu hs hE hS).mono ?_
    rintro e w' ⟨rfl, h1, h2, h3⟩
    exact ⟨rfl, ev, h1.mono (by omega), h2, h3⟩
  | false =>
    rcases hE with ⟨rfl, hf⟩ | ⟨b, rfl, hM⟩
    · refine (put_set0 S cnt rc n f u s w x0 x1 x2 hu hs hf hS).mono ?_
      rintro e w' ⟨rfl, b, h1, h2, h3⟩
      exact ⟨rfl, _, h1.mono (by omega), h2, h3⟩
    · refine (put_set1 S cnt rc b n f u s w x0 x1 x2 hu hs hn hM hS).mono ?_
      rintro e w' ⟨rfl, h1, h2, h3⟩
      exact ⟨rfl, _, h1, h2, h3⟩

set_option maxRecDepth 100000 in
theorem change_16 (S : Nat) (cnt rc : Int) (ev : Value) (n : Nat) (f : Lit → Option Value) (u s : ByteArray) (w : World) (x0 : ByteArray) (x1 : Int) (x2 : Option Addr) (rm : Bool) (hu : IsNm u) (hs : IsNm s) (hn : n < 1000000) (hE : Ent w ev n f) (hS : Box w S (stc cnt rc ev) 48) :
    Calls Yba.prog 16 #[.pointer (some ⟨S, 11, none⟩), .agg #[.string u, .string s], .agg #[.string x0, .int .u16 x1, .pointer x2, .bool rm]] w fun e w' => e = .returned (.tuple #[]) ∧ ∃ ev', Ent w' ev' (n + 1) (turnAt f (kl u s) (left rm x0 x1 x2)) ∧ Box w' S (stc cnt rc ev') 48 ∧ Step S w ev w' ev' := by
  have hSa := fun o p => (hS.alloc o).alloc p
  go_enter Yba.func16, Yba.ntmps16
  go_wp2_with fail
  refine (load_25 S _ ((hSa _ _).cell 13 rfl)).mono ?_
  rintro e w' ⟨rfl, rfl⟩
  go_wp2_with fail
  refine (fold_26 S cnt rc ev _ (hSa _ _)).mono ?_
  rintro e w1 ⟨rfl, hb1⟩
  have hS1 : Box w1 S (stc cnt rc ev) 48 := (hSa _ _).below hb1
  have hE1 : Ent w1 ev n f := ((hE.alloc _).alloc _).below hb1
  have hst1 : Step S w ev w1 ev := Step.of_below ev (((((Below.refl _ w).alloc (Nat.le_refl _) _).alloc (by simp) _)).trans (hb1.mono (by simp; omega)))
  have hK1 := ((Box.new w #[.string u, .string s] 66).alloc (.cells #[.string x0, .int .u16 x1, .pointer x2, .bool rm] 74)).below hb1
  have hV1 := (Box.new (w.alloc (.cells #[.string u, .string s] 66)) #[.string x0, .int .u16 x1, .pointer x2, .bool rm] 74).below hb1
  rw [show (w.alloc (Obj.cells #[.string u, .string s] 66)).heap.size = w.heap.size + 1 by simp] at hV1
  have g1 : w1.cell? ⟨w.heap.size, 0, none⟩ = some (.string u) := hK1.cell 0 rfl
  have g2 : w1.cell? ⟨w.heap.size, 1, none⟩ = some (.string s) := hK1.cell 1 rfl
  have g3 : w1.cell? ⟨w.heap.size + 1, 0, none⟩ = some (.string x0) := hV1.cell 0 rfl
  have g4 : w1.cell? ⟨w.heap.size + 1, 1, none⟩ = some (.int .u16 x1) := hV1.cell 1 rfl
  have g5 : w1.cell? ⟨w.heap.size + 1, 2, none⟩ = some (.pointer x2) := hV1.cell 2 rfl
  have g6 : w1.cell? ⟨w.heap.size + 1, 3, none⟩ = some (.bool rm) := hV1.cell 3 rfl
  clear hb1 hK1 hV1
  go_wp2_with fail
  refine (put_any S cnt rc ev n f u s w1 x0 x1 x2 rm hu hs hn hE1 hS1).mono ?_
  rintro e w2 ⟨rfl, ev2, hE2, hS2, hst2⟩
  go_wp2
  go_end0
  exact ⟨rfl, ev2, hE2, hS2, hst1.trans hst2⟩

set_option maxRecDepth 100000 in
theorem delete_12 (S : Nat) (cnt rc : Int) (ev : Value) (n : Nat) (f : Lit → Option Value) (u s : ByteArray) (w : World) (hu : IsNm u) (hs : IsNm s) (hn : n < 1000000) (hE : Ent w ev n f) (hS : Box w S (stc cnt rc ev) 48) :
    Calls Yba.prog 12 #[.pointer (some ⟨S, 11, none⟩), .agg #[.string u, .string s]] w fun e w' => e = .returned (.tuple #[]) ∧ ∃ ev', Ent w' ev' (n + 1) (turnAt f (kl u s) none) ∧ Box w' S (stc cnt rc ev') 48 ∧ Step S w ev w' ev' := by
  go_enter Yba.func12, Yba.ntmps12
  go_wp2_with fail
  refine (change_16 S cnt rc ev n f u s _ ⟨#[]⟩ 0 none true hu hs hn (hE.alloc _) (hS.alloc _)).mono ?_
  rintro e w1 ⟨rfl, ev1, hE1, hS1, hst1⟩
  go_wp2
  go_end0
  exact ⟨rfl, ev1, hE1, hS1, (Step.of_below ev ((Below.refl _ w).alloc (Nat.le_refl _) _)).trans hst1⟩

set_option maxRecDepth 100000 in
theorem set_13 (S : Nat) (cnt rc : Int) (ev : Value) (n : Nat) (f : Lit → Option Value) (u s : ByteArray) (w : World) (x0 : ByteArray) (x1 : Int) (x2 : Option Addr) (hu : IsNm u) (hs : IsNm s) (hn : n < 1000000) (hE : Ent w ev n f) (hS : Box w S (stc cnt rc ev) 48) :
    Calls Yba.prog 13 #[.pointer (some ⟨S, 11, none⟩), .agg #[.string u, .string s], .agg #[.string x0, .int .u16 x1, .pointer x2]] w fun e w' => e = .returned (.tuple #[]) ∧ ∃ ev', Ent w' ev' (n + 1) (turnAt f (kl u s) (some (.agg #[.string x0, .int .u16 x1, .pointer x2]))) ∧ Box w' S (stc cnt rc ev') 48 ∧ Step S w ev w' ev' := by
  go_enter Yba.func13, Yba.ntmps13
  go_wp2_with fail
  refine (change_16 S cnt rc ev n f u s _ x0 x1 x2 false hu hs hn ((hE.alloc _).alloc _) ((hS.alloc _).alloc _)).mono ?_
  rintro e w1 ⟨rfl, ev1, hE1, hS1, hst1⟩
  go_wp2
  go_end0
  exact ⟨rfl, ev1, hE1, hS1, (Step.of_below ev (((Below.refl _ w).alloc (Nat.le_refl _) _).alloc (by simp) _)).trans hst1⟩

end Go.Proofs.Ybulkbaoo

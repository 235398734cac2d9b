/- The table's own functions. -/
import Derived.Test.YbulkbaooBase
namespace Go.Proofs.Ybulkbaoo
open Go.ChangeShapes Go.WideShapes Go.ChangeAt Go.RowKit
set_option linter.unusedVariables false

/-- The table's field 'entries': nil, or a map of the call's own. -/
def Ent (w : World) (ev : Value) (n : Nat) (f : Lit → Option Value) : Prop :=
  (ev = .map none ∧ ∀ l, f l = none) ∨ ∃ b, ev = .map (some b) ∧ HasMap Yba.prog 66 w b n f

theorem Ent.alloc {w : World} {ev : Value} {n : Nat} {f : Lit → Option Value} (h : Ent w ev n f) (o : Obj) : Ent (w.alloc o) ev n f := by
  rcases h with h | ⟨b, rfl, h⟩
  · exact .inl h
  · exact .inr ⟨b, rfl, h.alloc o⟩
theorem Ent.drew {w : World} {ev : Value} {n : Nat} {f : Lit → Option Value} (h : Ent w ev n f) : Ent w.drew ev n f := h
theorem Ent.block {w w' : World} {ev : Value} {n : Nat} {f : Lit → Option Value} (h : Ent w ev n f) (hb : ∀ b, ev = .map (some b) → w'.heap[b]? = w.heap[b]?) : Ent w' ev n f := by
  rcases h with h | ⟨b, rfl, h⟩
  · exact .inl h
  · exact .inr ⟨b, rfl, h.block (hb b rfl)⟩

theorem zero56 (w : World) : (zeroValue 56).run Yba.prog w = .ok (.agg #[.string ⟨#[]⟩, .int .u16 0, .pointer none]) w := by kernel_rfl
theorem zero74 (w : World) : (zeroValue 74).run Yba.prog w = .ok (.agg #[.string ⟨#[]⟩, .int .u16 0, .pointer none, .bool false]) w := by kernel_rfl

theorem Ent.look {w : World} {ev : Value} {n : Nat} {f : Lit → Option Value} (h : Ent w ev n f) (u s : ByteArray) (hu : IsNm u) (hs : IsNm s) :
    (Instr.lookup 39 ev (.agg #[.string u, .string s]) true).run Yba.prog w = .ok (.tuple #[(f (kl u s)).getD (.agg #[.string ⟨#[]⟩, .int .u16 0, .pointer none]), .bool (f (kl u s)).isSome]) w := by
  rcases h with ⟨rfl, h⟩ | ⟨b, rfl, h⟩
  · rw [h]
    exact Maps.look_nil true law66 Yba.underlying39 (zero56 w) (hkey u s hu hs)
  · exact h.look_ok law66 Yba.underlying39 (zero56 w) (hkey u s hu hs)

theorem held_look (w : World) (u s : ByteArray) (hu : IsNm u) (hs : IsNm s) :
    (Instr.lookup 40 (.map none) (.agg #[.string u, .string s]) true).run Yba.prog w = .ok (.tuple #[.agg #[.string ⟨#[]⟩, .int .u16 0, .pointer none, .bool false], .bool false]) w :=
  Maps.look_nil true law66 Yba.underlying40 (zero74 w) (hkey u s hu hs)

theorem cell_up {w : World} {a : Addr} {v : Value} (h : w.cell? a = some v) (o : Obj) : (w.alloc o).cell? a = some v := by
  rw [World.cell?_alloc_lt _ _ _ (World.block_lt_of_cell? w a h)]; exact h

set_option maxRecDepth 100000 in
set_option maxHeartbeats 1000000 in
theorem get_any (S : Nat) (ev : Value) (n : Nat) (f : Lit → Option Value) (u s : ByteArray) (w : World) (x0 : ByteArray) (x1 : Int) (x2 : Option Addr) (ok : Bool) (hu : IsNm u) (hs : IsNm s) (hE : Ent w ev n f) (c0 : w.cell? ⟨S, 11, none⟩ = some ev) (c1 : w.cell? ⟨S, 12, none⟩ = some (.map none))
    (hl : ∀ w', Ent w' ev n f → (Instr.lookup 39 ev (.agg #[.string u, .string s]) true).run Yba.prog w' = .ok (.tuple #[.agg #[.string x0, .int .u16 x1, .pointer x2], .bool ok]) w') :
    Calls Yba.prog 9 #[.pointer (some ⟨S, 11, none⟩), .agg #[.string u, .string s]] w fun e w' => e = .returned (.tuple #[.agg #[.string x0, .int .u16 x1, .pointer x2], .bool ok]) ∧ Below w.heap.size w w' := by
  have hh := fun w' => held_look w' u s hu hs
  have d1 := fun o => cell_up c1 o
  have d2 := fun o p => cell_up (cell_up c1 o) p
  have d3 := fun o p q => cell_up (cell_up (cell_up c1 o) p) q
  have d4 := fun o p q r => cell_up (cell_up (cell_up (cell_up c1 o) p) q) r
  have e1 := fun o => cell_up c0 o
  have e2 := fun o p => cell_up (cell_up c0 o) p
  have e3 := fun o p q => cell_up (cell_up (cell_up c0 o) p) q
  have e4 := fun o p q r => cell_up (cell_up (cell_up (cell_up c0 o) p) q) r
  have l3 := fun o p q => hl (((w.alloc o).alloc p).alloc q) (((hE.alloc o).alloc p).alloc q)
  have l4 := fun o p q r => hl ((((w.alloc o).alloc p).alloc q).alloc r) ((((hE.alloc o).alloc p).alloc q).alloc r)
  have l3d := fun o p q => hl (((w.alloc o).alloc p).alloc q).drew (((hE.alloc o).alloc p).alloc q)
  have l4d := fun o p q r => hl ((((w.alloc o).alloc p).alloc q).alloc r).drew ((((hE.alloc o).alloc p).alloc q).alloc r)
  have l3e := fun o p q => hl (((w.alloc o).alloc p).alloc q).drew.drew (((hE.alloc o).alloc p).alloc q)
  have l4e := fun o p q r => hl ((((w.alloc o).alloc p).alloc q).alloc r).drew.drew ((((hE.alloc o).alloc p).alloc q).alloc r)
  clear hl
  go_enter Yba.func9, Yba.ntmps9
  go_wp2
  go_region_held3 (fun w' => w'.cell? ⟨S, 12, none⟩ = some (.map none) ∧ w'.cell? ⟨S, 11, none⟩ = some ev ∧ w'.cell? ⟨w.heap.size, 0, none⟩ = some (.string u) ∧ w'.cell? ⟨w.heap.size, 1, none⟩ = some (.string s)) (go_keep) (fail)
  all_goals go_wp2
  all_goals
    go_region_held3 (fun w' => w'.cell? ⟨S, 11, none⟩ = some ev ∧ w'.cell? ⟨w.heap.size, 0, none⟩ = some (.string u) ∧ w'.cell? ⟨w.heap.size, 1, none⟩ = some (.string s) ∧ Sem.run Yba.prog (Instr.lookup 39 ev (.agg #[.string u, .string s]) true) w' = .ok (.tuple #[.agg #[.string x0, .int .u16 x1, .pointer x2], .bool ok]) w') (go_keep) (fail)
  all_goals go_wp2
  all_goals
    refine bodyPost_ret (v := .tuple #[.agg #[.string x0, .int .u16 x1, .pointer x2], .bool ok]) (by simp [results, Yba.results9, go_sem]) rfl ⟨rfl, ?_⟩
    repeat (first | exact Below.refl _ _ | apply Below.drew | refine Below.alloc ?_ (by first | exact Nat.le_refl _ | (simp; done) | (simp; omega)) _ | refine Below.setCell ?_ (by first | exact Nat.le_refl _ | (simp; done) | (simp; omega)) _)

theorem get_miss (S : Nat) (ev : Value) (n : Nat) (f : Lit → Option Value) (u s : ByteArray) (w : World) (hu : IsNm u) (hs : IsNm s) (hE : Ent w ev n f) (c0 : w.cell? ⟨S, 11, none⟩ = some ev) (c1 : w.cell? ⟨S, 12, none⟩ = some (.map none)) (hf : f (kl u s) = none) :
    Calls Yba.prog 9 #[.pointer (some ⟨S, 11, none⟩), .agg #[.string u, .string s]] w fun e w' => e = .returned (.tuple #[.agg #[.string ⟨#[]⟩, .int .u16 0, .pointer none], .bool false]) ∧ Below w.heap.size w w' :=
  get_any S ev n f u s w _ _ _ _ hu hs hE c0 c1 fun w' h => by have := h.look u s hu hs; rw [hf] at this; exact this

theorem get_hit (S : Nat) (ev : Value) (n : Nat) (f : Lit → Option Value) (u s : ByteArray) (w : World) (x0 : ByteArray) (x1 : Int) (x2 : Option Addr) (hu : IsNm u) (hs : IsNm s) (hE : Ent w ev n f) (c0 : w.cell? ⟨S, 11, none⟩ = some ev) (c1 : w.cell? ⟨S, 12, none⟩ = some (.map none)) (hf : f (kl u s) = some (.agg #[.string x0, .int .u16 x1, .pointer x2])) :
    Calls Yba.prog 9 #[.pointer (some ⟨S, 11, none⟩), .agg #[.string u, .string s]] w fun e w' => e = .returned (.tuple #[.agg #[.string x0, .int .u16 x1, .pointer x2], .bool true]) ∧ Below w.heap.size w w' :=
  get_any S ev n f u s w _ _ _ _ hu hs hE c0 c1 fun w' h => by have := h.look u s hu hs; rw [hf] at this; exact this

/-- The store's cells. -/
def stc (cnt rc : Int) (ev : Value) : Array Value :=
  #[.int .i64 0, .int .i64 0, .int .i32 0, .int .u32 0, .pointer none, .int .i32 0, .int .u32 0, .int .u32 0, .int .u32 0, .int .i32 rc, .int .i32 0, ev, .map none, .int .u32 0, .int .i64 0, .int .i64 cnt]

/-- From (w, ev) to (w', ev'): of old memory only the store's box and the map's block may have turned; ev' is ev or a new block. -/
structure Step (S : Nat) (w : World) (ev : Value) (w' : World) (ev' : Value) : Prop where
  os : w'.os = w.os
  tape : w'.tape = w.tape
  output : w'.output = w.output
  size : w.heap.size ≤ w'.heap.size
  block : ∀ k, k < w.heap.size → k ≠ S → ev ≠ .map (some k) → w'.heap[k]? = w.heap[k]?
  lies : ev' = ev ∨ ∃ b, ev' = .map (some b) ∧ w.heap.size ≤ b

theorem Step.refl (S : Nat) (w : World) (ev : Value) : Step S w ev w ev := ⟨rfl, rfl, rfl, Nat.le_refl _, fun _ _ _ _ => rfl, .inl rfl⟩
theorem Step.trans {S : Nat} {w w1 w2 : World} {ev ev1 ev2 : Value} (h : Step S w ev w1 ev1) (k : Step S w1 ev1 w2 ev2) : Step S w ev w2 ev2 := by
  refine ⟨k.os.trans h.os, k.tape.trans h.tape, k.output.trans h.output, Nat.le_trans h.size k.size, fun b hb h1 h2 => ?_, ?_⟩
  · rw [k.block b (Nat.lt_of_lt_of_le hb h.size) h1 (fun e => ?_), h.block b hb h1 h2]
    rcases h.lies with e1 | ⟨q, e1, hq⟩
    · exact h2 (e1 ▸ e)
    · rw [e1] at e
      simp at e
      omega
  · rcases k.lies with e2 | ⟨q, e2, hq⟩
    · rw [e2]; exact h.lies
    · exact .inr ⟨q, e2, Nat.le_trans h.size hq⟩
theorem Step.of_below {S : Nat} {w w' : World} (ev : Value) (h : Below w.heap.size w w') : Step S w ev w' ev := ⟨h.os, h.tape, h.output, h.size, fun k hk _ _ => h.block k hk, .inl rfl⟩
theorem Step.set {S : Nat} (w : World) (ev : Value) (i : Nat) (u : Value) : Step S w ev (w.setCell ⟨S, i, none⟩ u) ev :=
  ⟨rfl, rfl, rfl, by simp [World.setCell], fun k _ h1 _ => Below.heap_setCell _ _ _ _ h1, .inl rfl⟩
theorem Step.map {S : Nat} {w w' : World} {b : Nat} (h : w.grownBy w' (some b)) : Step S w (.map (some b)) w' (.map (some b)) :=
  ⟨h.os, h.tape, h.output, h.size, fun k hk _ h2 => h.block k hk (fun e => h2 (by rw [← e])), .inl rfl⟩

theorem Ent.ne_box {w : World} {ev : Value} {n : Nat} {f : Lit → Option Value} (h : Ent w ev n f) {b : Nat} {cs : Array Value} {t : TypeId} (hb : Box w b cs t) : ev ≠ .map (some b) := by
  rcases h with ⟨rfl, _⟩ | ⟨m, rfl, h⟩
  · simp
  · intro e
    simp at e
    subst e
    obtain ⟨D, ⟨es, clock, h1, _⟩, _⟩ := h
    unfold Box at hb
    rw [hb] at h1
    cases h1

theorem Ent.drop {w : World} {ev : Value} {n : Nat} {f : Lit → Option Value} (h : Ent w ev n f) (S : Nat) (u s : ByteArray) (hu : IsNm u) (hs : IsNm s) (ty : TypeId) :
    ∃ w', (Builtin.delete_ #[39, 66] ty #[ev, .agg #[.string u, .string s]]).run Yba.prog w = .ok (.tuple #[]) w' ∧ Ent w' ev n (turnAt f (kl u s) none) ∧ Step S w ev w' ev ∧ w'.heap.size = w.heap.size ∧ (∀ k, ev ≠ .map (some k) → w'.heap[k]? = w.heap[k]?) := by
  rcases h with ⟨rfl, h⟩ | ⟨b, rfl, h⟩
  · refine ⟨w, Maps.drop_nil law66 Yba.underlying39 (hkey u s hu hs) ty, .inl ⟨rfl, fun l => ?_⟩, Step.refl _ _ _, rfl, fun _ _ => rfl⟩
    unfold turnAt
    split
    · rfl
    · exact h l
  · obtain ⟨w', hr, h1, h2, h3⟩ := h.drop law66 Yba.underlying39 (hkey u s hu hs) ty (turnAt f (kl u s) none) (turnAt_same _ (kl_key u s hu hs) _) (fun l hl => turnAt_other _ _ _ l hl)
    refine ⟨w', hr, .inr ⟨b, rfl, h1⟩, Step.map h2, h3, fun k hk => ?_⟩
    rcases Nat.lt_or_ge k w.heap.size with hlt | hge
    · exact h2.block k hlt (fun e => hk (by rw [← e]))
    · rw [Array.getElem?_eq_none hge, Array.getElem?_eq_none (by omega)]

set_option maxRecDepth 100000 in
set_option maxHeartbeats 1000000 in
theorem put_del (S : Nat) (cnt rc : Int) (ev : Value) (n : Nat) (f : Lit → Option Value) (u s : ByteArray) (w : World) (x0 : ByteArray) (x1 : Int) (x2 : Option Addr) (hu : IsNm u) (hs : IsNm s) (hE : Ent w ev n f) (hS : Box w S (stc cnt rc ev) 48) :
    Calls Yba.prog 27 #[.pointer (some ⟨S, 11, none⟩), .agg #[.string u, .string s], .agg #[.string x0, .int .u16 x1, .pointer x2, .bool true]] w fun e w' => e = .returned (.tuple #[]) ∧ Ent w' ev n (turnAt f (kl u s) none) ∧ Box w' S (stc cnt rc ev) 48 ∧ Step S w ev w' ev := by
  have c0 : w.cell? ⟨S, 11, none⟩ = some ev := hS.cell 11 rfl
  have e1 := fun o => cell_up c0 o
  have e2 := fun o p => cell_up (cell_up c0 o) p
  obtain ⟨wd, hrun, hE', hst, hsz, hbk⟩ := Ent.drop ((hE.alloc (.cells #[.string u, .string s] 66)).alloc (.cells #[.string x0, .int .u16 x1, .pointer x2, .bool true] 74)).drew S u s hu hs 0
  have hW := ((hE.alloc (.cells #[.string u, .string s] 66)).alloc (.cells #[.string x0, .int .u16 x1, .pointer x2, .bool true] 74)).drew
  have hS2 := ((hS.alloc (.cells #[.string u, .string s] 66)).alloc (.cells #[.string x0, .int .u16 x1, .pointer x2, .bool true] 74)).drew
  have hK2 := ((Box.new w #[.string u, .string s] 66).alloc (.cells #[.string x0, .int .u16 x1, .pointer x2, .bool true] 74)).drew
  have hSd : Box wd S (stc cnt rc ev) 48 := hS2.block (hbk S (hW.ne_box hS2))
  have hKd := hK2.block (hbk w.heap.size (hW.ne_box hK2))
  have g0 : wd.cell? ⟨S, 11, none⟩ = some ev := hSd.cell 11 rfl
  have g1 : wd.cell? ⟨w.heap.size, 0, none⟩ = some (.string u) := hKd.cell 0 rfl
  have g2 : wd.cell? ⟨w.heap.size, 1, none⟩ = some (.string s) := hKd.cell 1 rfl
  have hfin : Step S w ev wd ev := (Step.of_below ev ((((Below.refl _ w).alloc (Nat.le_refl _) (.cells #[.string u, .string s] 66)).alloc (by simp) (.cells #[.string x0, .int .u16 x1, .pointer x2, .bool true] 74)).drew)).trans hst
  clear hbk hst hsz hW hS2 hK2 hKd
  go_enter Yba.func27, Yba.ntmps27
  go_wp2
  go_region_held3 (fun w' => w'.cell? ⟨S, 11, none⟩ = some ev ∧ w'.cell? ⟨w.heap.size, 0, none⟩ = some (.string u) ∧ w'.cell? ⟨w.heap.size, 1, none⟩ = some (.string s)) (go_keep) (fail)
  all_goals
    go_wp2
    exact bodyPost_ret (v := .tuple #[]) (by simp [results, Yba.results27, go_sem]) rfl ⟨rfl, hE', hSd, hfin⟩

theorem eql_map (w : World) (r : Option Nat) : (binOp .eql 39 (.map r) (.map none)).run Yba.prog w = .ok (.bool r.isNone) w := run_eql_map_nil (P := Yba.prog) w 39 66 56 r Yba.underlying39

theorem HasMap.put {w : World} {b n : Nat} {f : Lit → Option Value} (h : HasMap Yba.prog 66 w b n f) (hn : n < 1000000) (S : Nat) (u s : ByteArray) (hu : IsNm u) (hs : IsNm s) (val : Value) :
    ∃ w', (Instr.mapUpdate 39 (.map (some b)) (.agg #[.string u, .string s]) val).run Yba.prog w = .ok () w' ∧ HasMap Yba.prog 66 w' b (n + 1) (turnAt f (kl u s) (some val)) ∧ Step S w (.map (some b)) w' (.map (some b)) ∧ (∀ k, k ≠ b → w'.heap[k]? = w.heap[k]?) := by
  obtain ⟨w', hr, h1, h2, h3⟩ := h.store law66 Yba.underlying39 (by unfold maxLen; omega) (val := val) (hkey u s hu hs) (turnAt f (kl u s) (some val)) (turnAt_same _ (kl_key u s hu hs) _) (fun l hl => turnAt_other _ _ _ l hl)
  refine ⟨w', hr, h1, Step.map h2, fun k hk => ?_⟩
  rcases Nat.lt_or_ge k w.heap.size with hlt | hge
  · exact h2.block k hlt (fun e => hk (by simpa using e))
  · rw [Array.getElem?_eq_none hge, Array.getElem?_eq_none (by omega)]

set_option maxRecDepth 100000 in
set_option maxHeartbeats 1000000 in
theorem put_set1 (S : Nat) (cnt rc : Int) (b : Nat) (n : Nat) (f : Lit → Option Value) (u s : ByteArray) (w : World) (x0 : ByteArray) (x1 : Int) (x2 : Option Addr) (hu : IsNm u) (hs : IsNm s) (hn : n < 1000000) (hM : HasMap Yba.prog 66 w b n f) (hS : Box w S (stc cnt rc (.map (some b))) 48) :
    Calls Yba.prog 27 #[.pointer (some ⟨S, 11, none⟩), .agg #[.string u, .string s], .agg #[.string x0, .int .u16 x1, .pointer x2, .bool false]] w fun e w' => e = .returned (.tuple #[]) ∧ Ent w' (.map (some b)) (n + 1) (turnAt f (kl u s) (some (.agg #[.string x0, .int .u16 x1, .pointer x2]))) ∧ Box w' S (stc cnt rc (.map (some b))) 48 ∧ Step S w (.map (some b)) w' (.map (some b)) := by
  have c0 : w.cell? ⟨S, 11, none⟩ = some (.map (some b)) := hS.cell 11 rfl
  have e1 := fun o => cell_up c0 o
  have e2 := fun o p => cell_up (cell_up c0 o) p
  have heq := eql_map
  have hE : Ent w (.map (some b)) n f := .inr ⟨b, rfl, hM⟩
  obtain ⟨wd, hrun, hM', hst, hbk⟩ := HasMap.put ((hM.alloc (.cells #[.string u, .string s] 66)).alloc (.cells #[.string x0, .int .u16 x1, .pointer x2, .bool false] 74)).drew hn S u s hu hs (.agg #[.string x0, .int .u16 x1, .pointer x2])
  have hW := ((hE.alloc (.cells #[.string u, .string s] 66)).alloc (.cells #[.string x0, .int .u16 x1, .pointer x2, .bool false] 74)).drew
  have hS2 := ((hS.alloc (.cells #[.string u, .string s] 66)).alloc (.cells #[.string x0, .int .u16 x1, .pointer x2, .bool false] 74)).drew
  have hK2 := ((Box.new w #[.string u, .string s] 66).alloc (.cells #[.string x0, .int .u16 x1, .pointer x2, .bool false] 74)).drew
  have hV2 := (Box.new (w.alloc (.cells #[.string u, .string s] 66)) #[.string x0, .int .u16 x1, .pointer x2, .bool false] 74).drew
  have hSd : Box wd S (stc cnt rc (.map (some b))) 48 := hS2.block (hbk S (fun e => hW.ne_box hS2 (by rw [e])))
  have hKd := hK2.block (hbk w.heap.size (fun e => hW.ne_box hK2 (by rw [e])))
  have hVd := hV2.block (hbk _ (fun e => hW.ne_box hV2 (by rw [e])))
  rw [show (w.alloc (Obj.cells #[.string u, .string s] 66)).heap.size = w.heap.size + 1 by simp] at hVd
  have g0 : wd.cell? ⟨S, 11, none⟩ = some (.map (some b)) := hSd.cell 11 rfl
  have g1 : wd.cell? ⟨w.heap.size, 0, none⟩ = some (.string u) := hKd.cell 0 rfl
  have g2 : wd.cell? ⟨w.heap.size, 1, none⟩ = some (.string s) := hKd.cell 1 rfl
  have g3 : wd.cell? ⟨w.heap.size + 1, 0, none⟩ = some (.string x0) := hVd.cell 0 rfl
  have g4 : wd.cell? ⟨w.heap.size + 1, 1, none⟩ = some (.int .u16 x1) := hVd.cell 1 rfl
  have g5 : wd.cell? ⟨w.heap.size + 1, 2, none⟩ = some (.pointer x2) := hVd.cell 2 rfl
  have hfin : Step S w (.map (some b)) wd (.map (some b)) := (Step.of_below _ ((((Below.refl _ w).alloc (Nat.le_refl _) (.cells #[.string u, .string s] 66)).alloc (by simp) (.cells #[.string x0, .int .u16 x1, .pointer x2, .bool false] 74)).drew)).trans hst
  clear hbk hst hW hS2 hK2 hKd hV2 hVd hE
  go_enter Yba.func27, Yba.ntmps27
  go_wp2
  go_region_held3 (fun w' => w'.cell? ⟨S, 11, none⟩ = some (.map (some b)) ∧ w'.cell? ⟨w.heap.size, 0, none⟩ = some (.string u) ∧ w'.cell? ⟨w.heap.size, 1, none⟩ = some (.string s) ∧ w'.cell? ⟨w.heap.size + 1, 0, none⟩ = some (.string x0) ∧ w'.cell? ⟨w.heap.size + 1, 1, none⟩ = some (.int .u16 x1) ∧ w'.cell? ⟨w.heap.size + 1, 2, none⟩ = some (.pointer x2)) (go_keep) (fail)
  all_goals
    go_wp2
    go_end0
    exact ⟨rfl, .inr ⟨b, rfl, hM'⟩, hSd, hfin⟩

set_option maxRecDepth 100000 in
set_option maxHeartbeats 1000000 in
theorem put_set0 (S : Nat) (cnt rc : Int) (n : Nat) (f : Lit → Option Value) (u s : ByteArray) (w : World) (x0 : ByteArray) (x1 : Int) (x2 : Option Addr) (hu : IsNm u) (hs : IsNm s) (hf : ∀ l, f l = none) (hS : Box w S (stc cnt rc (.map none)) 48) :
    Calls Yba.prog 27 #[.pointer (some ⟨S, 11, none⟩), .agg #[.string u, .string s], .agg #[.string x0, .int .u16 x1, .pointer x2, .bool false]] w fun e w' => e = .returned (.tuple #[]) ∧ ∃ b, Ent w' (.map (some b)) 1 (turnAt f (kl u s) (some (.agg #[.string x0, .int .u16 x1, .pointer x2]))) ∧ Box w' S (stc cnt rc (.map (some b))) 48 ∧ Step S w (.map none) w' (.map (some b)) := by
  have c0 : w.cell? ⟨S, 11, none⟩ = some (.map none) := hS.cell 11 rfl
  have fr0 := hS.free 11
  have e1 := fun o => cell_up c0 o
  have e2 := fun o p => cell_up (cell_up c0 o) p
  have e3 := fun o p q => cell_up (cell_up (cell_up c0 o) p) q
  have f3 := fun o p q => (((hS.alloc o).alloc p).alloc q).free 11
  have hSl := hS.lt
  have hSl1 : S < w.heap.size + 1 := by omega
  have hSl2 : S < w.heap.size + 1 + 1 := by omega
  have heq := eql_map
  have hmm := @run_makeMap Yba.prog
  have hS0 : Box (w.setCell ⟨S, 11, none⟩ (.map (some (w.heap.size + 1 + 1)))) S (stc cnt rc (.map (some (w.heap.size + 1 + 1)))) 48 := hS.set 11 _
  have hz0 : (w.setCell ⟨S, 11, none⟩ (.map (some (w.heap.size + 1 + 1)))).heap.size = w.heap.size := by simp [World.setCell]
  have hM0 := HasMap.made Yba.prog 66 (((w.setCell ⟨S, 11, none⟩ (.map (some (w.heap.size + 1 + 1)))).alloc (.cells #[.string u, .string s] 66)).alloc (.cells #[.string x0, .int .u16 x1, .pointer x2, .bool false] 74))
  rw [show (((w.setCell ⟨S, 11, none⟩ (.map (some (w.heap.size + 1 + 1)))).alloc (.cells #[.string u, .string s] 66)).alloc (.cells #[.string x0, .int .u16 x1, .pointer x2, .bool false] 74)).heap.size = w.heap.size + 1 + 1 by simp [hz0]] at hM0
  obtain ⟨wd, hrun, hM', hst, hbk⟩ := HasMap.put hM0.drew (by omega) S u s hu hs (.agg #[.string x0, .int .u16 x1, .pointer x2])
  have hS2 := (((hS0.alloc (.cells #[.string u, .string s] 66)).alloc (.cells #[.string x0, .int .u16 x1, .pointer x2, .bool false] 74)).alloc (.map #[] 0)).drew
  have hK2 := (((Box.new (w.setCell ⟨S, 11, none⟩ (.map (some (w.heap.size + 1 + 1)))) #[.string u, .string s] 66).alloc (.cells #[.string x0, .int .u16 x1, .pointer x2, .bool false] 74)).alloc (.map #[] 0)).drew
  have hV2 := ((Box.new ((w.setCell ⟨S, 11, none⟩ (.map (some (w.heap.size + 1 + 1)))).alloc (.cells #[.string u, .string s] 66)) #[.string x0, .int .u16 x1, .pointer x2, .bool false] 74).alloc (.map #[] 0)).drew
  rw [hz0] at hK2
  rw [show ((w.setCell ⟨S, 11, none⟩ (.map (some (w.heap.size + 1 + 1)))).alloc (.cells #[.string u, .string s] 66)).heap.size = w.heap.size + 1 by simp [hz0]] at hV2
  have hSd := hS2.block (hbk S (by omega))
  have hKd := hK2.block (hbk w.heap.size (by omega))
  have hVd := hV2.block (hbk (w.heap.size + 1) (by omega))
  have g0 : wd.cell? ⟨S, 11, none⟩ = some (.map (some (w.heap.size + 1 + 1))) := hSd.cell 11 rfl
  have g1 : wd.cell? ⟨w.heap.size, 0, none⟩ = some (.string u) := hKd.cell 0 rfl
  have g2 : wd.cell? ⟨w.heap.size, 1, none⟩ = some (.string s) := hKd.cell 1 rfl
  have g3 : wd.cell? ⟨w.heap.size + 1, 0, none⟩ = some (.string x0) := hVd.cell 0 rfl
  have g4 : wd.cell? ⟨w.heap.size + 1, 1, none⟩ = some (.int .u16 x1) := hVd.cell 1 rfl
  have g5 : wd.cell? ⟨w.heap.size + 1, 2, none⟩ = some (.pointer x2) := hVd.cell 2 rfl
  have i0 : ∀ o p q, ((((w.setCell ⟨S, 11, none⟩ (.map (some (w.heap.size + 1 + 1)))).alloc o).alloc p).alloc q).cell? ⟨S, 11, none⟩ = some (.map (some (w.heap.size + 1 + 1))) := fun o p q => (((hS0.alloc o).alloc p).alloc q).cell 11 rfl
  have i1 : ((((w.setCell ⟨S, 11, none⟩ (.map (some (w.heap.size + 1 + 1)))).alloc (.cells #[.string u, .string s] 66)).alloc (.cells #[.string x0, .int .u16 x1, .pointer x2, .bool false] 74)).alloc (.map #[] 0)).cell? ⟨w.heap.size, 0, none⟩ = some (.string u) := hK2.cell 0 rfl
  have i2 : ((((w.setCell ⟨S, 11, none⟩ (.map (some (w.heap.size + 1 + 1)))).alloc (.cells #[.string u, .string s] 66)).alloc (.cells #[.string x0, .int .u16 x1, .pointer x2, .bool false] 74)).alloc (.map #[] 0)).cell? ⟨w.heap.size, 1, none⟩ = some (.string s) := hK2.cell 1 rfl
  have i3 : ((((w.setCell ⟨S, 11, none⟩ (.map (some (w.heap.size + 1 + 1)))).alloc (.cells #[.string u, .string s] 66)).alloc (.cells #[.string x0, .int .u16 x1, .pointer x2, .bool false] 74)).alloc (.map #[] 0)).cell? ⟨w.heap.size + 1, 0, none⟩ = some (.string x0) := hV2.cell 0 rfl
  have i4 : ((((w.setCell ⟨S, 11, none⟩ (.map (some (w.heap.size + 1 + 1)))).alloc (.cells #[.string u, .string s] 66)).alloc (.cells #[.string x0, .int .u16 x1, .pointer x2, .bool false] 74)).alloc (.map #[] 0)).cell? ⟨w.heap.size + 1, 1, none⟩ = some (.int .u16 x1) := hV2.cell 1 rfl
  have i5 : ((((w.setCell ⟨S, 11, none⟩ (.map (some (w.heap.size + 1 + 1)))).alloc (.cells #[.string u, .string s] 66)).alloc (.cells #[.string x0, .int .u16 x1, .pointer x2, .bool false] 74)).alloc (.map #[] 0)).cell? ⟨w.heap.size + 1, 2, none⟩ = some (.pointer x2) := hV2.cell 2 rfl
  have hfin : Step S w (.map none) wd (.map (some (w.heap.size + 1 + 1))) := by
    have hsz := hst.size
    simp [hz0] at hsz
    refine ⟨hst.os, hst.tape, hst.output, by omega, fun k hk h1 _ => ?_, .inr ⟨_, rfl, by omega⟩⟩
    rw [hbk k (by omega)]
    show (World.alloc _ _).heap[k]? = _
    rw [Below.heap_alloc _ _ _ (by simp [hz0]; omega), Below.heap_alloc _ _ _ (by simp [hz0]; omega), Below.heap_alloc _ _ _ (by rw [hz0]; exact hk), Below.heap_setCell _ _ _ _ h1]
  have hMf : Ent wd (.map (some (w.heap.size + 1 + 1))) 1 (turnAt f (kl u s) (some (.agg #[.string x0, .int .u16 x1, .pointer x2]))) := by
    refine .inr ⟨_, rfl, ?_⟩
    have : (turnAt (fun _ => none) (kl u s) (some (.agg #[.string x0, .int .u16 x1, .pointer x2])) : Lit → Option Value) = turnAt f (kl u s) (some (.agg #[.string x0, .int .u16 x1, .pointer x2])) := by
      funext l
      unfold turnAt
      rw [hf l]
    rw [← this]
    exact hM'
  clear hbk hst hS2 hK2 hKd hV2 hVd hM' hM0 hS0
  go_enter Yba.func27, Yba.ntmps27
  go_wp2
  go_region_held3 (fun w' => w'.cell? ⟨S, 11, none⟩ = some (.map (some (w.heap.size + 1 + 1))) ∧ w'.cell? ⟨w.heap.size, 0, none⟩ = some (.string u) ∧ w'.cell? ⟨w.heap.size, 1, none⟩ = some (.string s) ∧ w'.cell? ⟨w.heap.size + 1, 0, none⟩ = some (.string x0) ∧ w'.cell? ⟨w.heap.size + 1, 1, none⟩ = some (.int .u16 x1) ∧ w'.cell? ⟨w.heap.size + 1, 2, none⟩ = some (.pointer x2)) (go_keep) (fail)
  all_goals
    go_wp2
    go_end0
    exact ⟨rfl, _, hMf, hSd, hfin⟩

end Go.Proofs.Ybulkbaoo

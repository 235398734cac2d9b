/- A slice of bytes of the call's own that is appended to again and again, and what becomes of the rest of memory meanwhile. -/
import Derived.Test.YbulkbaooFmtBase
import Derived.Maps.AppendAt
namespace Go.Proofs.YbulkbaooFmt
open Go.ChangeShapes Go.WideShapes Go.ChangeAt Go.RowKit

/-- n bytes, xs, of the call's own, from block 'base' on. -/
def Owns (w : World) (base : Nat) (v : Value) (n : Nat) (xs : List Int) : Prop := w.ownsRow base 5 1 v n (xs.map (Value.int .u8))

theorem Owns.len {w : World} {base : Nat} {v : Value} {n : Nat} {xs : List Int} (h : Owns w base v n xs) : xs.length = n := by
  have := h.1
  simpa using this

theorem Owns.nil (w : World) (base : Nat) : Owns w base (.slice none 0 0) 0 [] := World.ownsRow_nil _ _ _ _

theorem Owns.at {w : World} {base : Nat} {p : Option Addr} {n c : Nat} {xs : List Int} (h : Owns w base (.slice p n c) n xs) : BytesAt w p xs := by
  intro h0
  rcases h.2 with ⟨e, h1⟩ | ⟨g, cap, cur, e, hb, hg, hn, hm, hs, ht⟩
  · have := h.len; omega
  · simp only [Value.slice.injEq] at e
    obtain ⟨rfl, _, rfl⟩ := e
    refine ⟨g, 0, rfl, (Array.getElem?_eq_some_iff.1 hg).1, fun i hi => ?_⟩
    have := World.ownsRow.cells h (g := g) rfl i (.int .u8 (xs.getD i 0)) (by simp [List.getD, List.getElem?_eq_getElem hi])
    rw [Go.WideShapes.add_plain] at this
    exact this

theorem Owns.shape {w : World} {base : Nat} {v : Value} {n : Nat} {xs : List Int} (h : Owns w base v n xs) : ∃ p cap, v = .slice p n cap ∧ n ≤ cap := by
  rcases h.2 with ⟨rfl, h0⟩ | ⟨g, cap, cur, rfl, hb, hg, hn, hm, hs, ht⟩
  · exact ⟨none, 0, by rw [h0], by omega⟩
  · exact ⟨_, cap, rfl, hn⟩

theorem Owns.kept {w w' : World} {base : Nat} {v : Value} {n : Nat} {xs : List Int} {row : Option Nat} (h : Owns w base v n xs) (hg : w.grownBy w' row) (hne : v.ownBlock = none ∨ v.ownBlock ≠ row) : Owns w' base v n xs :=
  World.ownsRow.kept h hg hne

theorem Owns.alloc {w : World} {base : Nat} {v : Value} {n : Nat} {xs : List Int} (h : Owns w base v n xs) (o : Obj) : Owns (w.alloc o) base v n xs :=
  World.ownsRow.alloc h o

theorem Owns.drew {w : World} {base : Nat} {v : Value} {n : Nat} {xs : List Int} (h : Owns w base v n xs) : Owns w.drew base v n xs := h

/-- From (w, v) to (w', v') by appends: of old memory nothing has turned but v's own block; v' lies there or in a new block. -/
structure App (w : World) (v : Value) (w' : World) (v' : Value) : Prop where
  grew : w.grownBy w' v.ownBlock
  lies : v'.ownBlock = v.ownBlock ∨ ∃ k, v'.ownBlock = some k ∧ w.heap.size ≤ k

theorem App.refl (w : World) (v : Value) : App w v w v := ⟨World.grownBy.refl _ _, .inl rfl⟩

theorem App.trans {w w1 w2 : World} {v v1 v2 : Value} (h : App w v w1 v1) (k : App w1 v1 w2 v2) : App w v w2 v2 := by
  refine ⟨⟨k.grew.os.trans h.grew.os, k.grew.tape.trans h.grew.tape, k.grew.output.trans h.grew.output, Nat.le_trans h.grew.size k.grew.size, fun b hb hne => ?_⟩, ?_⟩
  · rw [k.grew.block b (Nat.lt_of_lt_of_le hb h.grew.size) (fun e => ?_), h.grew.block b hb hne]
    rcases h.lies with e1 | ⟨q, e1, hq⟩
    · exact hne (e.trans e1)
    · rw [e1] at e
      simp at e
      omega
  · rcases k.lies with e2 | ⟨q, e2, hq⟩
    · rcases h.lies with e1 | ⟨q, e1, hq⟩
      · exact .inl (e2.trans e1)
      · exact .inr ⟨q, e2.trans e1, hq⟩
    · exact .inr ⟨q, e2, Nat.le_trans h.grew.size hq⟩

theorem App.alloc (w : World) (v : Value) (o : Obj) : App w v (w.alloc o) v := ⟨World.grownBy_alloc _ _ _, .inl rfl⟩
theorem App.drew (w : World) (v : Value) : App w v w.drew v := ⟨⟨rfl, rfl, rfl, Nat.le_refl _, fun _ _ _ => rfl⟩, .inl rfl⟩
/-- A store into a block that is not there yet in w. -/
theorem App.setCell {w w1 : World} {v v1 : Value} (h : App w v w1 v1) {a : Addr} (ha : w.heap.size ≤ a.block) (u : Value) : App w v (w1.setCell a u) v1 :=
  ⟨⟨h.grew.os, h.grew.tape, h.grew.output, Nat.le_trans h.grew.size (by simp [World.setCell]), fun k hk hne => by rw [Below.heap_setCell _ _ _ _ (by omega)]; exact h.grew.block k hk hne⟩, h.lies⟩

/-- Of the blocks below B nothing has turned, where v's own lies from B on. -/
theorem App.below {w w' : World} {v v' : Value} (h : App w v w' v') {B : Nat} (hB : B ≤ w.heap.size) (hv : ∀ k, v.ownBlock = some k → B ≤ k) : Below B w w' :=
  (Below.refl _ _).grown h.grew hB hv

theorem BytesAt.lit (w : World) (xs : List Int) (t : TypeId) : BytesAt (w.alloc (.cells (xs.map (Value.int .u8)).toArray t)) (some ⟨w.heap.size, 0, none⟩) xs := fun _ => by
  refine ⟨w.heap.size, 0, rfl, by simp, fun i hi => ?_⟩
  have hnew : (w.alloc (.cells (xs.map (Value.int .u8)).toArray t)).heap[w.heap.size]? = some (.cells (xs.map (Value.int .u8)).toArray t (0, 0)) := heap_alloc_new w _
  rw [cell_of_row _ _ _ _ _ _ hnew]
  simp [List.getD, List.getElem?_eq_getElem hi]

/-- append(v, src...), v of the call's own, src wherever. -/
theorem run_app2 (ty : TypeId) (w : World) (base : Nat) (v : Value) (n : Nat) (xs : List Int) (hown : Owns w base v n xs) (ao : Option Addr) (m c : Nat) (ys : List Int) (hl : ys.length = m) (hin : BytesAt w ao ys)
    (hb : n + m ≤ 1099511627776) (hbase : base ≤ w.heap.size) :
    ∃ v' w', (Builtin.append_ #[22, 22] ty #[v, .slice ao m c]).run Ybaf.prog w = .ok v' w' ∧ Owns w' base v' (n + m) (xs ++ ys) ∧ App w v w' v' := by
  obtain ⟨i, hi, hz, hs, hby⟩ := info_parts info5
  have hmx : n + m ≤ maxLen := by simp only [maxLen]; omega
  have lies : ∀ {v' : Value}, v'.ownBlock = v.ownBlock ∨ v'.ownBlock = some w.heap.size → v'.ownBlock = v.ownBlock ∨ ∃ k, v'.ownBlock = some k ∧ w.heap.size ≤ k := by
    intro v' h
    rcases h with h | h
    · exact .inl h
    · exact .inr ⟨_, h, Nat.le_refl _⟩
  rcases Nat.eq_zero_or_pos m with h0 | h0
  · subst h0
    obtain rfl : ys = [] := List.eq_nil_of_length_eq_zero hl
    cases ao with
    | none =>
      have hr : (Builtin.append_ #[22, 22] ty #[v, .slice none 0 c]).run Ybaf.prog w = .ok v w := by
        rcases hown.2 with ⟨rfl, h0⟩ | ⟨g, cap, cur, rfl, hb, hg, hn, hm, hs, ht⟩
        · simp [Builtin.append_, run_underlying Ybaf.underlying22, sizeOf, typeInfo, hi, Builtin.lenOf, Builtin.firstCells]
        · simp [Builtin.append_, run_underlying Ybaf.underlying22, sizeOf, typeInfo, hi, Builtin.lenOf, Builtin.firstCells, hn, storeCells]
      exact ⟨v, w, hr, by simpa using hown, App.refl _ _⟩
    | some a =>
      obtain ⟨v', w', hr, h1, h2, _, h3⟩ := run_append_own_at (P := Ybaf.prog) w base 22 ty 5 i _ 1 1 Ybaf.underlying22 hi hz hs hby rfl (by omega) v n (xs.map (Value.int .u8)) hown a 0 c [] rfl (fun j u h => by simp at h) (fun u h => by cases h) hmx (by omega) hbase
      exact ⟨v', w', hr, by simpa [Owns] using h1, h2, lies h3⟩
  · obtain ⟨b, o, rfl, _, hc⟩ := hin (by omega)
    obtain ⟨v', w', hr, h1, h2, _, h3⟩ := run_append_own_at (P := Ybaf.prog) w base 22 ty 5 i _ 1 1 Ybaf.underlying22 hi hz hs hby rfl (by omega) v n (xs.map (Value.int .u8)) hown ⟨b, o, none⟩ m c (ys.map (Value.int .u8)) (by simp [hl])
      (fun j u h => by
        rw [Go.WideShapes.add_plain]
        simp only [List.getElem?_map, Option.map_eq_some_iff] at h
        obtain ⟨y, hy, rfl⟩ := h
        have hj : j < ys.length := (List.getElem?_eq_some_iff.1 hy).1
        rw [hc j hj]
        simp [List.getD, hy]) (ints_oneCell _ _) hmx (by omega) hbase
    exact ⟨v', w', hr, by unfold Owns; rw [List.map_append]; exact h1, h2, lies h3⟩

theorem wpList_app2 {w : World} {ops : Array Oper} {rest : List Oper} {o : Oper} {a : Act} {Q : Exit → Act → World → Prop} (hgd : o.guard = none) (s x : Operand)
    (ho : o.op = .call { callee := .builtin .append, args := #[s, x], argTypes := #[22, 22] })
    (base : Nat) (v : Value) (n : Nat) (xs : List Int) (hs : a.eval s = v) (ao : Option Addr) (m c : Nat) (ys : List Int) (hx : a.eval x = .slice ao m c) (hl : ys.length = m) (hown : Owns w base v n xs) (hin : BytesAt w ao ys)
    (hb : n + m ≤ 1099511627776) (hbase : base ≤ w.heap.size)
    (h : ∀ p cap w', Owns w' base (.slice p (n + m) cap) (n + m) (xs ++ ys) → App w v w' (.slice p (n + m) cap) → n + m ≤ cap → wpList Ybaf.prog ops Q rest (a.put o.dst (.slice p (n + m) cap)) w') :
    wpList Ybaf.prog ops Q (o :: rest) a w := by
  refine wpList_plain hgd fun K hK => ?_
  obtain ⟨v', w', hr, h1, h2⟩ := run_app2 o.type w base v n xs hown ao m c ys hl hin hb hbase
  obtain ⟨p, cap, rfl, hc⟩ := h1.shape
  unfold Oper.wp
  simp [execOp, ho, resolve, invoke, builtin, hs, hx, hr, Result.andThen]
  exact hK _ _ (h p cap w' h1 h2 hc)

/-- append(v, make([]byte, k)...): k zero bytes. -/
theorem run_zeros (ty : TypeId) (w : World) (base : Nat) (v : Value) (n : Nat) (xs : List Int) (hown : Owns w base v n xs) (k : Nat)
    (hb : n + k ≤ 1099511627776) (hbase : base ≤ w.heap.size) :
    ∃ v' w', (Builtin.append_ #[22, 3] ty #[v, .int .i64 (k : Int)]).run Ybaf.prog w = .ok v' w' ∧ Owns w' base v' (n + k) (xs ++ List.replicate k 0) ∧ App w v w' v' := by
  obtain ⟨i, hi, hz, hs, hby⟩ := info_parts info5
  have wk : IntKind.i64.wrap (k : Int) = (k : Int) := by rw [IntKind.wrap_i64]; omega
  have k1 : ¬ (k : Int) < 0 := by omega
  have k2 : ¬ (281474976710656 < (k : Int)) := by omega
  have k3 : ¬ (9223372036854775807 < ((n : Int) + (k : Int))) := by omega
  have hmx : n + k ≤ maxLen := by simp only [maxLen]; omega
  have hzc : Builtin.zeroCells (Value.int .u8 0).cells k = ((List.replicate k (0 : Int)).map (Value.int .u8)).toArray := by
    unfold Builtin.zeroCells
    apply Array.ext'
    apply List.ext_getElem
    · simp [Value.cells]
    · intro j h1 h2
      simp [Value.cells, Nat.mod_one]
  have hz1 : (Value.int .u8 0).cells.size = 1 := rfl
  have grown : ∀ (old : Nat), old < n + k → ∀ (row : Option Nat),
      (w.drew.alloc (.cells ((xs.map (Value.int .u8)).toArray ++ ((List.replicate k (0 : Int)).map (Value.int .u8)).toArray ++ Builtin.zeroCells (Value.int .u8 0).cells (grownCap w (n + k) old 5 - (n + k))) 5)).ownsRow base 5 1
        (.slice (some ⟨w.heap.size, 0, none⟩) (n + k) (grownCap w (n + k) old 5)) (n + k) ((xs ++ List.replicate k 0).map (Value.int .u8)) ∧
      w.grownBy (w.drew.alloc (.cells ((xs.map (Value.int .u8)).toArray ++ ((List.replicate k (0 : Int)).map (Value.int .u8)).toArray ++ Builtin.zeroCells (Value.int .u8 0).cells (grownCap w (n + k) old 5 - (n + k))) 5)) row := by
    intro old ho row
    have hge := grownCap_ge w (n + k) old 5
    have hcm : grownCap w (n + k) old 5 ≤ maxLen := grownCap_le_maxLen w (n + k) old 5 hmx
    have hxl := hown.len
    refine ⟨⟨by simp [hxl], .inr ⟨w.heap.size, _, _, rfl, hbase, heap_alloc_new w.drew _, hge, hcm, ?_, ?_⟩⟩, ⟨rfl, rfl, rfl, by simp, fun j hj _ => Below.heap_alloc w.drew _ j hj⟩⟩
    · simp only [Array.size_append, List.size_toArray, size_zeroCells, hz1, List.length_map, List.length_replicate, hxl]
      omega
    · simp only [Array.toList_append, List.map_append]
      rw [show (n + k) * 1 = (xs.map (Value.int .u8) ++ (List.replicate k (0 : Int)).map (Value.int .u8)).length by simp [hxl]]
      exact List.take_left
  have w0 : IntKind.i64.wrap 0 = 0 := by decide
  have hfit : ∀ old, old < n + k → ¬ (281474976710656 < Builtin.nextslicecap (n + k) old) := fun old ho => by
    have := growslice_fits (need := n + k) (old := old) (bytes := 1) ho (by omega)
    omega
  rcases hown.2 with ⟨rfl, hn0⟩ | ⟨g, cap, cur, rfl, hbg, hg, hnc, hcm, hcs, htake⟩
  · subst hn0
    have hx : xs = [] := List.eq_nil_of_length_eq_zero hown.len
    subst hx
    by_cases hk : k = 0
    · refine ⟨.slice none 0 0, w, ?_, by subst hk; exact Owns.nil w base, App.refl _ _⟩
      simp [Builtin.append_, run_underlying Ybaf.underlying22, run_underlying Ybaf.underlying3, sizeOf, typeInfo, hi, hby, asInt, asIntOf, hk, w0]
    · have hf := hfit 0 (by omega)
      rw [Nat.zero_add] at hf
      have hgr := grown 0 (by omega) (Value.ownBlock (.slice none 0 0))
      refine ⟨_, _, ?_, hgr.1, hgr.2, .inr ⟨w.heap.size, rfl, Nat.le_refl _⟩⟩
      have k4 : ¬ (9223372036854775807 < (k : Int)) := by omega
      simp [Builtin.append_, run_underlying Ybaf.underlying22, run_underlying Ybaf.underlying3, sizeOf, typeInfo, hi, hz, hs, hby, asInt, asIntOf, wk, k1, k2, k4, hk, hf, hzc, zeroValue, Question.forced, newRow, grownCap, Builtin.firstCells]
  · by_cases hk : k = 0
    · refine ⟨.slice (some ⟨g, 0, none⟩) n cap, w, ?_, by subst hk; simpa using hown, App.refl _ _⟩
      simp [Builtin.append_, run_underlying Ybaf.underlying22, run_underlying Ybaf.underlying3, sizeOf, typeInfo, hi, hby, asInt, asIntOf, hk, w0, hnc, storeCells]
    by_cases hroom : n + k ≤ cap
    · have hxl := hown.len
      have hsz : ((List.replicate k (0 : Int)).map (Value.int .u8)).length = k := by simp
      have hfitr : n * 1 + ((List.replicate k (0 : Int)).map (Value.int .u8)).length ≤ cur.size := by rw [hsz, hcs]; omega
      have hst := run_storeCells_at Ybaf.prog g (n * 1) 5 ((List.replicate k (0 : Int)).map (Value.int .u8)) 0 cur w hg (by simpa using hfitr) (ints_oneCell _ _)
      simp only [Nat.add_zero] at hst
      have hr : (Builtin.append_ #[22, 3] ty #[.slice (some ⟨g, 0, none⟩) n cap, .int .i64 (k : Int)]).run Ybaf.prog w =
          .ok (.slice (some ⟨g, 0, none⟩) (n + k) cap) (w.setRow g (cur.toList.take (n * 1) ++ (List.replicate k (0 : Int)).map (Value.int .u8) ++ cur.toList.drop (n * 1 + ((List.replicate k (0 : Int)).map (Value.int .u8)).length)).toArray) := by
        simp only [Nat.mul_one, List.map_replicate, List.length_replicate, List.append_assoc] at hst ⊢
        simp [Builtin.append_, run_underlying Ybaf.underlying22, run_underlying Ybaf.underlying3, sizeOf, typeInfo, hi, hz, hs, hby, asInt, asIntOf, wk, k1, k2, hk, hroom, hzc, zeroValue, Addr.add_lit, hst]
      refine ⟨_, _, hr, ⟨by simp [hxl], .inr ⟨g, cap, _, rfl, hbg, setRow_heap w g cur _ 5 _ hg, hroom, hcm, ?_, ?_⟩⟩, ⟨rfl, rfl, rfl, by simp, fun j _ hj => setRow_other w g j _ (fun e => hj (by simp [Value.ownBlock, e]))⟩, .inl rfl⟩
      · simp only [List.size_toArray, List.length_append, List.length_take, List.length_drop, Array.length_toList]
        omega
      · rw [htake, List.map_append]
        rw [show (n + k) * 1 = (xs.map (Value.int .u8) ++ (List.replicate k (0 : Int)).map (Value.int .u8)).length by simp [hxl]]
        exact List.take_left
    · have holds : ∀ j u, (xs.map (Value.int .u8))[j]? = some u → w.cell? ((⟨g, 0, none⟩ : Addr).add j) = some u := World.ownsRow.cells hown (g := g) rfl
      have hfo := run_firstCells_some (P := Ybaf.prog) w.drew 1 n ⟨g, 0, none⟩ n cap (xs.map (Value.int .u8)) (by simp [hown.len]) (by simpa using holds)
      have hf := hfit cap (by omega)
      have hgr := grown cap (by omega) (Value.ownBlock (.slice (some ⟨g, 0, none⟩) n cap))
      refine ⟨_, _, ?_, hgr.1, hgr.2, .inr ⟨w.heap.size, rfl, Nat.le_refl _⟩⟩
      simp [Builtin.append_, run_underlying Ybaf.underlying22, run_underlying Ybaf.underlying3, sizeOf, typeInfo, hi, hz, hs, hby, asInt, asIntOf, wk, k1, k2, k3, hk, hroom, hf, hzc, zeroValue, Question.forced, newRow, grownCap, hfo]

theorem wpList_zeros {w : World} {ops : Array Oper} {rest : List Oper} {o : Oper} {a : Act} {Q : Exit → Act → World → Prop} (hgd : o.guard = none) (s x : Operand)
    (ho : o.op = .call { callee := .builtin .append, args := #[s, x], argTypes := #[22, 3] })
    (base : Nat) (v : Value) (n : Nat) (xs : List Int) (hs : a.eval s = v) (k : Nat) (hx : a.eval x = .int .i64 (k : Int)) (hown : Owns w base v n xs)
    (hb : n + k ≤ 1099511627776) (hbase : base ≤ w.heap.size)
    (h : ∀ p cap w', Owns w' base (.slice p (n + k) cap) (n + k) (xs ++ List.replicate k 0) → App w v w' (.slice p (n + k) cap) → n + k ≤ cap → wpList Ybaf.prog ops Q rest (a.put o.dst (.slice p (n + k) cap)) w') :
    wpList Ybaf.prog ops Q (o :: rest) a w := by
  refine wpList_plain hgd fun K hK => ?_
  obtain ⟨v', w', hr, h1, h2⟩ := run_zeros o.type w base v n xs hown k hb hbase
  obtain ⟨p, cap, rfl, hc⟩ := h1.shape
  unfold Oper.wp
  simp [execOp, ho, resolve, invoke, builtin, hs, hx, hr, Result.andThen]
  exact hK _ _ (h p cap w' h1 h2 hc)

/-- A box of the call's own. -/
def Box (w : World) (b : Nat) (cs : Array Value) (t : TypeId) : Prop := w.heap[b]? = some (.cells cs t (0, 0))

theorem Box.lt {w : World} {b : Nat} {cs : Array Value} {t : TypeId} (h : Box w b cs t) : b < w.heap.size := (Array.getElem?_eq_some_iff.1 h).1
theorem Box.cell {w : World} {b : Nat} {cs : Array Value} {t : TypeId} (h : Box w b cs t) (i : Nat) {v : Value} (hv : cs[i]? = some v) : w.cell? ⟨b, i, none⟩ = some v := by
  rw [cell_of_row _ _ _ _ _ _ h]; exact hv
theorem Box.free {w : World} {b : Nat} {cs : Array Value} {t : TypeId} (h : Box w b cs t) (i : Nat) : w.frozen? ⟨b, i, none⟩ = false := by
  unfold Box at h
  simp [World.frozen?, h]
theorem Box.new (w : World) (cs : Array Value) (t : TypeId) : Box (w.alloc (.cells cs t)) w.heap.size cs t := heap_alloc_new w _
theorem Box.alloc {w : World} {b : Nat} {cs : Array Value} {t : TypeId} (h : Box w b cs t) (o : Obj) : Box (w.alloc o) b cs t := by
  have := h.lt
  exact (Below.heap_alloc w o b this).trans h
theorem Box.drew {w : World} {b : Nat} {cs : Array Value} {t : TypeId} (h : Box w b cs t) : Box w.drew b cs t := h
theorem Box.set {w : World} {b : Nat} {cs : Array Value} {t : TypeId} (h : Box w b cs t) (i : Nat) (v : Value) : Box (w.setCell ⟨b, i, none⟩ v) b (cs.setIfInBounds i v) t := by
  unfold Box at h ⊢
  simp [World.setCell, Array.getElem?_modify, h]
theorem Box.other {w : World} {b : Nat} {cs : Array Value} {t : TypeId} (h : Box w b cs t) {a : Addr} (hne : b ≠ a.block) (v : Value) : Box (w.setCell a v) b cs t :=
  (Below.heap_setCell w a v b hne).trans h
theorem Box.kept {w w' : World} {b : Nat} {cs : Array Value} {t : TypeId} {row : Option Nat} (h : Box w b cs t) (hg : w.grownBy w' row) (hne : some b ≠ row) : Box w' b cs t :=
  (hg.block b h.lt hne).trans h

end Go.Proofs.YbulkbaooFmt

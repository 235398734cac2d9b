/- What both laws of this seat lean on: bytes that lie somewhere, a slice of bytes of the call's own, bytes.Equal. -/
import Derived.Test.YbulkbaooFmtCards
import Derived.WalkKit
import Derived.WalkSpells
import Derived.ProofKit
import Derived.OpenShut
import Derived.ShutString
import Derived.ChangeOld
import Derived.Below
import Derived.Lib.Builder
import Derived.Laws.BytesArg
import Derived.RegionTactic
import Derived.ChangeAlike
import Derived.Deep.Draws
namespace Go.Proofs.YbulkbaooFmt
open Go.ChangeShapes Go.WideShapes Go.ChangeAt Go.RowKit

theorem own : ownKnob Ybaf.prog.godebug = none := by kernel_rfl
theorem laidOut : laidOutB Ybaf.prog = true := by kernel_rfl

/-- A slice of integers that came in. -/
def IsRow (k : IntKind) (w : World) (a : Option Addr) (len cap : Nat) (zs : List Int) : Prop :=
  (a = none ∧ len = 0 ∧ cap = 0 ∧ zs = []) ∨
  ∃ x, a = some x ∧ len ≤ cap ∧ cap ≤ maxLen ∧ zs.length = cap ∧ (∀ i, i < zs.length → w.cell? (x.add i) = some (.int k (zs.getD i 0))) ∧ ∀ n ∈ zs, (Lit.int k n).wf = true

/-- Where the bytes xs lie; of no byte nothing is said. -/
def BytesAt (w : World) (p : Option Addr) (xs : List Int) : Prop :=
  0 < xs.length → ∃ b o, p = some ⟨b, o, none⟩ ∧ b < w.heap.size ∧ ∀ i, i < xs.length → w.cell? ⟨b, o + i, none⟩ = some (.int .u8 (xs.getD i 0))

theorem BytesAt.of_row {w : World} {a : Option Addr} {len cap : Nat} {zs : List Int} (h : IsRow .u8 w a len cap zs) : (zs.take len).length = len ∧ BytesAt w a (zs.take len) := by
  rcases h with ⟨rfl, rfl, rfl, rfl⟩ | ⟨x, rfl, hl, _, hz, hc, _⟩
  · exact ⟨rfl, fun h => by simp at h⟩
  · have hlen : (zs.take len).length = len := by simp; omega
    refine ⟨hlen, fun h => ?_⟩
    rw [hlen] at h
    obtain ⟨b, o, s⟩ := x
    have h0 := hc 0 (by omega)
    obtain rfl : s = none := by simpa [Addr.add] using World.cell?_spot h0
    refine ⟨b, o, rfl, World.block_lt_of_cell? w ⟨b, o + 0, none⟩ (by rw [← Go.WideShapes.add_plain]; exact h0), fun i hi => ?_⟩
    rw [hlen] at hi
    have hci := hc i (by omega)
    rw [Go.WideShapes.add_plain] at hci
    rw [hci]
    simp [List.getD, hi]

theorem BytesAt.later {w w' : World} {p : Option Addr} {xs : List Int} (h : BytesAt w p xs) (hb : Below w.heap.size w w') : BytesAt w' p xs := fun h0 => by
  obtain ⟨b, o, rfl, hlt, hc⟩ := h h0
  exact ⟨b, o, rfl, Nat.lt_of_lt_of_le hlt hb.size, fun i hi => (hb.cell (p := ⟨b, o + i, none⟩) hlt).trans (hc i hi)⟩

theorem BytesAt.alloc {w : World} {p : Option Addr} {xs : List Int} (h : BytesAt w p xs) (o : Obj) : BytesAt (w.alloc o) p xs := h.later ((Below.refl _ _).alloc (Nat.le_refl _) o)

theorem BytesAt.convert {w : World} {p : Option Addr} {xs : List Int} (h : BytesAt w p xs) (n c : Nat) (hn : xs.length = n) :
    (convert 22 9 (.slice p n c)).run Ybaf.prog w = .ok (.string (strOfNums xs)) w := by
  rcases Nat.eq_zero_or_pos n with h0 | h0
  · subst h0
    obtain rfl : xs = [] := List.eq_nil_of_length_eq_zero hn
    rw [run_convert_bytes_string w 22 9 5 p 0 c Ybaf.underlying22 Ybaf.underlying5 Ybaf.underlying9]
    cases p with
    | none => simp [Conv.bytesToString]; rfl
    | some a => simp [Conv.bytesToString, loadCells, loadCellsFrom]; rfl
  · obtain ⟨b, o, rfl, _, hc⟩ := h (by omega)
    exact run_convert_bytes_arg (P := Ybaf.prog) w 22 5 Ybaf.underlying22 Ybaf.underlying5 b o n c xs hn (fun i hi => hc i (by omega)) 9 Ybaf.underlying9

/-- bytes.Equal at two slices of the same bytes. -/
theorem equal_same (p q : Option Addr) (n c d : Nat) (xs : List Int) (w : World) (hn : xs.length = n) (hp : BytesAt w p xs) (hq : BytesAt w q xs) :
    Calls Ybaf.prog 9 #[.slice p n c, .slice q n d] w fun e w' => e = .returned (.bool true) ∧ w' = w := by
  have k1 := hp.convert n c hn
  have k2 := hq.convert n d hn
  go_enter Ybaf.func9, Ybaf.ntmps9
  go_wp2
  go_ret
  exact ⟨rfl, rfl⟩

theorem info5 : (Ybaf.prog.info? 5).map (fun i => (i.zero, i.size, i.bytes)) = some (some (.int .u8 0), 1, 1) := by kernel_rfl

/-- A slice of bytes of the call's own, from block 'base' on: n bytes, xs. -/
def Own (w : World) (base : Nat) (v : Value) (xs : List Int) : Prop := w.ownsRow base 5 1 v xs.length (xs.map (Value.int .u8))

theorem Own.nil (w : World) (base : Nat) : Own w base (.slice none 0 0) [] := World.ownsRow_nil _ _ _ _

theorem Own.shape {w : World} {base : Nat} {v : Value} {xs : List Int} (h : Own w base v xs) : ∃ p cap, v = .slice p xs.length cap ∧ BytesAt w p xs := by
  rcases h.2 with ⟨rfl, h0⟩ | ⟨g, cap, cur, rfl, hb, hg, hn, hm, hs, ht⟩
  · exact ⟨none, 0, by rw [h0], fun h => by omega⟩
  · refine ⟨some ⟨g, 0, none⟩, cap, rfl, fun h0 => ⟨g, 0, rfl, (Array.getElem?_eq_some_iff.1 hg).1, fun i hi => ?_⟩⟩
    have := World.ownsRow.cells h (g := g) rfl i (.int .u8 (xs.getD i 0)) (by simp [List.getD, List.getElem?_eq_getElem hi])
    rw [Go.WideShapes.add_plain] at this
    exact this

theorem Own.kept {w w' : World} {base : Nat} {v : Value} {xs : List Int} {row : Option Nat} (h : Own w base v xs) (hg : w.grownBy w' row) (hne : v.ownBlock = none ∨ v.ownBlock ≠ row) : Own w' base v xs :=
  World.ownsRow.kept h hg hne

/-- append(v, src...), v of the call's own, src wherever. -/
theorem run_app (ty : TypeId) (w : World) (base : Nat) (v : Value) (xs : List Int) (hown : Own w base v xs) (ao : Option Addr) (m c : Nat) (ys : List Int) (hl : ys.length = m) (hin : BytesAt w ao ys)
    (hb : xs.length + m ≤ 1099511627776) (hbase : base ≤ w.heap.size) :
    ∃ v' w', (Builtin.append_ #[22, 22] ty #[v, .slice ao m c]).run Ybaf.prog w = .ok v' w' ∧ Own w' base v' (xs ++ ys) ∧ w.grownBy w' v.ownBlock := by
  obtain ⟨i, hi, hz, hs, hby⟩ := info_parts info5
  have hmx : xs.length + m ≤ maxLen := by simp only [maxLen]; omega
  rcases Nat.eq_zero_or_pos m with h0 | h0
  · subst h0
    obtain rfl : ys = [] := List.eq_nil_of_length_eq_zero hl
    cases ao with
    | none =>
      have hr : (Builtin.append_ #[22, 22] ty #[v, .slice none 0 c]).run Ybaf.prog w = .ok v w := by
        rcases hown.2 with ⟨rfl, h0⟩ | ⟨g, cap, cur, rfl, hb, hg, hn, hm, hs, ht⟩
        · simp [Builtin.append_, run_underlying Ybaf.underlying22, sizeOf, typeInfo, hi, Builtin.lenOf, Builtin.firstCells]
        · simp [Builtin.append_, run_underlying Ybaf.underlying22, sizeOf, typeInfo, hi, Builtin.lenOf, Builtin.firstCells, hn, storeCells]
      exact ⟨v, w, hr, by simpa using hown, World.grownBy.refl _ _⟩
    | some a =>
      obtain ⟨v', w', hr, h1, h2, _⟩ := run_append_own (P := Ybaf.prog) w base 22 ty 5 i _ 1 1 Ybaf.underlying22 hi hz hs hby rfl (by omega) v xs.length (xs.map (Value.int .u8)) hown a 0 c [] rfl (fun j u h => by simp at h) (fun u h => by cases h) hmx (by omega) hbase
      exact ⟨v', w', hr, by simpa [Own] using h1, h2⟩
  · obtain ⟨b, o, rfl, _, hc⟩ := hin (by omega)
    obtain ⟨v', w', hr, h1, h2, _⟩ := run_append_own (P := Ybaf.prog) w base 22 ty 5 i _ 1 1 Ybaf.underlying22 hi hz hs hby rfl (by omega) v xs.length (xs.map (Value.int .u8)) hown ⟨b, o, none⟩ m c (ys.map (Value.int .u8)) (by simp [hl])
      (fun j u h => by
        rw [Go.WideShapes.add_plain]
        simp only [List.getElem?_map, Option.map_eq_some_iff] at h
        obtain ⟨y, hy, rfl⟩ := h
        have hj : j < ys.length := (List.getElem?_eq_some_iff.1 hy).1
        rw [hc j hj]
        simp [List.getD, hy]) (ints_oneCell _ _) hmx (by omega) hbase
    refine ⟨v', w', hr, ?_, h2⟩
    unfold Own
    rw [List.length_append, List.map_append, hl]
    exact h1

theorem wpList_app {w : World} {ops : Array Oper} {rest : List Oper} {o : Oper} {a : Act} {Q : Exit → Act → World → Prop} (hgd : o.guard = none) (s x : Operand)
    (ho : o.op = .call { callee := .builtin .append, args := #[s, x], argTypes := #[22, 22] })
    (base : Nat) (v : Value) (xs : List Int) (hs : a.eval s = v) (hown : Own w base v xs) (ao : Option Addr) (m c : Nat) (ys : List Int) (hx : a.eval x = .slice ao m c) (hl : ys.length = m) (hin : BytesAt w ao ys)
    (hb : xs.length + m ≤ 1099511627776) (hbase : base ≤ w.heap.size)
    (h : ∀ p cap w', Own w' base (.slice p (xs ++ ys).length cap) (xs ++ ys) → w.grownBy w' v.ownBlock → wpList Ybaf.prog ops Q rest (a.put o.dst (.slice p (xs ++ ys).length cap)) w') :
    wpList Ybaf.prog ops Q (o :: rest) a w := by
  refine wpList_plain hgd fun K hK => ?_
  obtain ⟨v', w', hr, h1, h2⟩ := run_app o.type w base v xs hown ao m c ys hl hin hb hbase
  obtain ⟨p, cap, rfl, _⟩ := h1.shape
  unfold Oper.wp
  simp [execOp, ho, resolve, invoke, builtin, hs, hx, hr, Result.andThen]
  exact hK _ _ (by simpa using h p cap w' h1 h2)

set_option maxRecDepth 100000 in
/-- (*Identifiers).Stamp: the identifiers at block b, from o on; the message at block c. -/
theorem stamp (b o c : Nat) (x y : Int) (u v : Value) (w : World) (hne : b ≠ c) (hx : w.cell? ⟨b, o, none⟩ = some (.int .u32 x)) (hy : w.cell? ⟨b, o + 1, none⟩ = some (.int .u32 y))
    (hu : w.cell? ⟨c, 3, none⟩ = some u) (hv : w.cell? ⟨c, 4, none⟩ = some v)
    (fx : w.frozen? ⟨b, o, none⟩ = false) (fy : w.frozen? ⟨b, o + 1, none⟩ = false) (fu : w.frozen? ⟨c, 3, none⟩ = false) (fv : w.frozen? ⟨c, 4, none⟩ = false) :
    Calls Ybaf.prog 5 #[.pointer (some ⟨b, o, none⟩), .pointer (some ⟨c, 0, none⟩)] w fun e w' => e = .returned (.tuple #[]) ∧
      w' = ((((w.setCell ⟨c, 3, none⟩ (.int .u32 x)).setCell ⟨c, 4, none⟩ (.int .u32 y)).setCell ⟨b, o, none⟩ (.int .u32 ((x + 1) % 4294967296))).setCell ⟨b, o + 1, none⟩ (.int .u32 ((y + 1) % 4294967296))).drew := by
  have hne' : c ≠ b := fun h => hne h.symm
  go_enter Ybaf.func5, Ybaf.ntmps5
  go_wp2
  go_region
  all_goals (go_wp2; go_end0; exact ⟨rfl, rfl⟩)

end Go.Proofs.YbulkbaooFmt

/- A map of the call's own, as a function from keys to values. Of no program: it speaks of every program P. -/
import Derived.Test.YbulkbargRows
import Derived.WalkKit
import Derived.Maps.OwnSet
namespace Go.Proofs.Ybulkbarg
open Go.Maps (Keyed)

/-- An element is read as itself. -/
def RV : Value → Option (DataW Value × List MemPlace) := fun v => some (.held v, [])

/-- BLOCK b OF w IS A MAP OF AT MOST n ENTRIES THAT HOLDS JUST WHAT f SAYS. -/
def HasMap (P : Program) (k : TypeId) (w : World) (b n : Nat) (f : Lit → Option Value) : Prop :=
  ∃ D : DataW Value, w.ownsMap P k RV b n D ∧ ∀ kl, WideAt.IsKeyLit kl → Maps.has D kl = (f kl).isSome ∧ ∀ v, f kl = some v → ∀ z, D.atKey kl z = .held v

section
variable {P : Program} {k t e : TypeId} {w : World} {b n : Nat} {f : Lit → Option Value}

theorem HasMap.made (P : Program) (k : TypeId) (w : World) : HasMap P k (w.alloc (.map #[] 0)) w.heap.size 0 (fun _ => none) :=
  ⟨_, World.ownsMap_made w P k RV, fun kl _ => ⟨rfl, fun v h => by cases h⟩⟩

theorem HasMap.lt (h : HasMap P k w b n f) : b < w.heap.size := by
  obtain ⟨D, h1, _⟩ := h
  exact h1.lt

theorem HasMap.mono (h : HasMap P k w b n f) {m : Nat} (hm : n ≤ m) : HasMap P k w b m f := by
  obtain ⟨D, h1, h2⟩ := h
  exact ⟨D, h1.mono hm, h2⟩

theorem HasMap.block {w' : World} (h : HasMap P k w b n f) (hb : w'.heap[b]? = w.heap[b]?) : HasMap P k w' b n f := by
  obtain ⟨D, ⟨es, clock, h1, r⟩, h2⟩ := h
  exact ⟨D, ⟨es, clock, hb.trans h1, r⟩, h2⟩

theorem HasMap.kept {w' : World} {row : Option Nat} (h : HasMap P k w b n f) (hg : w.grownBy w' row) (hne : some b ≠ row) : HasMap P k w' b n f := by
  obtain ⟨D, h1, h2⟩ := h
  exact ⟨D, h1.kept hg hne, h2⟩

theorem HasMap.alloc (h : HasMap P k w b n f) (o : Obj) : HasMap P k (w.alloc o) b n f := by
  obtain ⟨D, h1, h2⟩ := h
  exact ⟨D, h1.alloc o, h2⟩

theorem HasMap.drew (h : HasMap P k w b n f) : HasMap P k w.drew b n f := h

theorem HasMap.setCell (h : HasMap P k w b n f) {a : Addr} (ha : b ≠ a.block) (u : Value) : HasMap P k (w.setCell a u) b n f := by
  obtain ⟨D, h1, h2⟩ := h
  exact ⟨D, h1.setCell ha u, h2⟩

/-- 'v, ok := m[k]'. -/
theorem HasMap.look_ok (h : HasMap P k w b n f) (K : Keyed P k) (ht : P.underlying t = some (.map k e)) {z : Value} (hz : (zeroValue e).run P w = .ok z w) {key : Value} {kl : Lit} (hkey : keyOf P k key = some kl) :
    (Instr.lookup t (.map (some b)) key true).run P w = .ok (.tuple #[(f kl).getD z, .bool (f kl).isSome]) w := by
  obtain ⟨D, h1, h2⟩ := h
  obtain ⟨v, ps, hr, hv⟩ := h1.look_ok K ht hz (zd := .held z) (zp := []) rfl hkey
  obtain ⟨hh, ha⟩ := h2 kl (K.key hkey)
  rw [hr, hh]
  simp only [RV, Option.some.injEq, Prod.mk.injEq] at hv
  cases hf : f kl with
  | none =>
    rw [hf] at hh
    have := Maps.atKey_of_not_has (z := .held z) hh
    rw [this] at hv
    simp only [DataW.held.injEq] at hv
    rw [hv.1]; rfl
  | some u =>
    rw [ha u hf] at hv
    simp only [DataW.held.injEq] at hv
    rw [hv.1]; rfl

/-- 'm[k]'. -/
theorem HasMap.look (h : HasMap P k w b n f) (K : Keyed P k) (ht : P.underlying t = some (.map k e)) {z : Value} (hz : (zeroValue e).run P w = .ok z w) {key : Value} {kl : Lit} (hkey : keyOf P k key = some kl) :
    (Instr.lookup t (.map (some b)) key false).run P w = .ok ((f kl).getD z) w := by
  obtain ⟨D, h1, h2⟩ := h
  obtain ⟨v, ps, hr, hv⟩ := h1.lookup K ht hz (zd := .held z) (zp := []) rfl hkey
  obtain ⟨hh, ha⟩ := h2 kl (K.key hkey)
  rw [hr]
  simp only [RV, Option.some.injEq, Prod.mk.injEq] at hv
  cases hf : f kl with
  | none =>
    rw [hf] at hh
    have := Maps.atKey_of_not_has (z := .held z) hh
    rw [this] at hv
    simp only [DataW.held.injEq] at hv
    rw [hv.1]; rfl
  | some u =>
    rw [ha u hf] at hv
    simp only [DataW.held.injEq] at hv
    rw [hv.1]; rfl

/-- 'm[k] = v'. -/
theorem HasMap.store (h : HasMap P k w b n f) (K : Keyed P k) (ht : P.underlying t = some (.map k e)) (hn : n < maxLen) {key val : Value} {kl : Lit} (hkey : keyOf P k key = some kl) (g : Lit → Option Value) (g1 : g kl = some val) (g2 : ∀ l, l ≠ kl → g l = f l) :
    ∃ w', (Instr.mapUpdate t (.map (some b)) key val).run P w = .ok () w' ∧ HasMap P k w' b (n + 1) g ∧ w.grownBy w' (some b) ∧ w'.heap.size = w.heap.size := by
  obtain ⟨D, h1, h2⟩ := h
  obtain ⟨w', hr, h3, h4⟩ := h1.store K ht hn (d := .held val) (ps := []) hkey rfl
  refine ⟨w', hr, ⟨_, h3, fun l hl => ?_⟩, h4.grown, ?_⟩
  · by_cases e : l = kl
    · subst e
      refine ⟨?_, fun v hv z => ?_⟩
      · rw [Maps.has_put_same h1.isMap hl, g1]; rfl
      · rw [g1, Option.some.injEq] at hv
        rw [Maps.atKey_put_same h1.isMap hl, hv]
    · rw [g2 l e, Maps.has_put_other e]
      exact ⟨(h2 l hl).1, fun v hv z => by rw [Maps.atKey_put_other e]; exact (h2 l hl).2 v hv z⟩
  · obtain ⟨_, _, _, _, _, rfl⟩ := h4
    simp [ChangeMaps.setBlock]

/-- 'delete(m, k)'. -/
theorem HasMap.drop (h : HasMap P k w b n f) (K : Keyed P k) (ht : P.underlying t = some (.map k e)) {key : Value} {kl : Lit} (hkey : keyOf P k key = some kl) (ty : TypeId) (g : Lit → Option Value) (g1 : g kl = none) (g2 : ∀ l, l ≠ kl → g l = f l) :
    ∃ w', (Builtin.delete_ #[t, k] ty #[.map (some b), key]).run P w = .ok (.tuple #[]) w' ∧ HasMap P k w' b n g ∧ w.grownBy w' (some b) ∧ w'.heap.size = w.heap.size := by
  obtain ⟨D, h1, h2⟩ := h
  obtain ⟨w', hr, h3, h4⟩ := h1.drop K ht hkey ty
  refine ⟨w', hr, ⟨_, h3, fun l hl => ?_⟩, h4.grown, ?_⟩
  · by_cases e : l = kl
    · subst e
      refine ⟨?_, fun v hv z => ?_⟩
      · rw [Maps.has_del_same, g1]; rfl
      · rw [g1] at hv; cases hv
    · rw [g2 l e, Maps.has_del_other e]
      exact ⟨(h2 l hl).1, fun v hv z => by rw [Maps.atKey_del_other e]; exact (h2 l hl).2 v hv z⟩
  · obtain ⟨_, _, _, _, _, rfl⟩ := h4
    simp [ChangeMaps.setBlock]

/-- f, turned at one key. -/
def turnAt (f : Lit → Option Value) (kl : Lit) (v : Option Value) : Lit → Option Value := fun l => if l.sameKey kl = true then v else f l
theorem turnAt_same (f : Lit → Option Value) {kl : Lit} (hk : WideAt.IsKeyLit kl) (v : Option Value) : turnAt f kl v kl = v := by
  unfold turnAt; rw [WideAt.sameKey_self hk]; rfl
theorem turnAt_other (f : Lit → Option Value) (kl : Lit) (v : Option Value) (l : Lit) (h : l ≠ kl) : turnAt f kl v l = f l := by
  unfold turnAt; rw [Maps.sameKey_ne h]; rfl

end
end Go.Proofs.Ybulkbarg

/- The slice of AVPs that comes in, opened; the AVPs that zzs2588bavps has made, read. -/
import Derived.Test.YbulkbaooFmtAvps
import Derived.Deep.Slices
import Derived.Lib.SmallJoins
import Derived.SizedLaws
namespace Go.Proofs.YbulkbaooFmt
open Go.ChangeShapes Go.WideShapes Go.ChangeAt Go.RowKit Go.Deep Go.Joins
set_option linter.unusedVariables false

structure Av.ok0 (a : Av) : Prop where
  cd0 : 0 ≤ a.cd
  cd1 : a.cd ≤ 4294967295
  fl0 : 0 ≤ a.fl
  fl1 : a.fl ≤ 255
  vi0 : 0 ≤ a.vi
  vi1 : a.vi ≤ 4294967295
  len : a.ys.length = a.m

theorem Av.ok0.ok {a : Av} (h : a.ok0) (hm : a.m ≤ 1048576) : a.ok := ⟨h.cd0, h.cd1, h.fl0, h.fl1, h.vi0, h.vi1, h.len, hm⟩

variable {H : Type} {enc : TypeId × Value → H}

theorem cells5 : Ybaf.prog.cellsOf 5 = 1 := by kernel_rfl
theorem cells22 : Ybaf.prog.cellsOf 22 = 1 := by kernel_rfl
theorem cells23 : Ybaf.prog.cellsOf 23 = 1 := by kernel_rfl
theorem cells26 : Ybaf.prog.cellsOf 26 = 4 := by kernel_rfl
theorem bytes5 : Ybaf.prog.bytesOf 5 = 1 := by kernel_rfl

theorem open_bytes {W : World} {fuel : Nat} {cs : List Value} {x : DataW H × List MemPlace} (h : DataW.trod enc Ybaf.prog W 0 (fun _ => true) true fuel 22 cs = some x) :
    ∃ q m c ys, cs = [.slice q m c] ∧ ys.length = m ∧ BytesUnder W.heap.size W q ys ∧ ((∀ k ∈ x.1.weights Ybaf.prog 22, k ≤ reachBytes) → m ≤ reachBytes) := by
  rcases open_ints Ybaf.underlying22 Ybaf.underlying5 cells5 h with ⟨rfl, rfl⟩ | ⟨a, l, c, zs, rfl, _, hl, hm, hz, rfl, hcell, hwz⟩
  · exact ⟨none, 0, 0, [], rfl, rfl, fun h => by simp at h, fun _ => Nat.zero_le _⟩
  · have hz' : zs.length = c := by simpa using hz
    have hr : IsRow .u8 W (some a) l c zs := .inr ⟨a, rfl, hl, hm, hz', hcell, hwz⟩
    obtain ⟨hlen, hat⟩ := BytesAt.of_row hr
    refine ⟨some a, l, c, zs.take l, rfl, hlen, ?_, fun hw => ?_⟩
    · intro h0
      obtain ⟨b, o, e, hlt, hc⟩ := hat h0
      exact ⟨b, o, e, hlt, hc⟩
    · have := hw (((lits IntKind.u8 (zs.take l) : List (DataW H)).length + (lits IntKind.u8 (zs.drop l) : List (DataW H)).length) * Ybaf.prog.bytesOf 5) (by simp [DataW.weights, Ybaf.underlying22])
      simp [lits, bytes5] at this
      omega

theorem u32_of {n : Int} (h : (Lit.int .u32 n).wf = true) : 0 ≤ n ∧ n ≤ 4294967295 := bounds_u32 h
theorem u8_of {n : Int} (h : (Lit.int .u8 n).wf = true) : 0 ≤ n ∧ n ≤ 255 := bounds_u8 h

set_option maxRecDepth 100000 in
theorem open_avp {W : World} {fuel : Nat} {cs : List Value} {x : DataW H × List MemPlace} (h : DataW.trod enc Ybaf.prog W 0 (fun _ => true) true fuel 26 cs = some x) :
    ∃ a : Av, cs = a.cells ∧ a.ok0 ∧ BytesUnder W.heap.size W a.q a.ys ∧ ((∀ k ∈ x.1.weights Ybaf.prog 26, k ≤ reachBytes) → a.m ≤ reachBytes) := by
  obtain ⟨y0, y1, y2, y3, n, rfl, hl, h0, h1, h2, h3⟩ := trod_struct4 Ybaf.underlying26 h
  rw [cells26] at hl
  match cs, hl with
  | [c0, c1, c2, c3], _ =>
    simp [cells5, cells22, cells23] at h0 h1 h2 h3
    obtain ⟨cd, e0, rfl, w0⟩ := DataW.trod_int Ybaf.underlying23 h0
    obtain ⟨fl, e1, rfl, w1⟩ := DataW.trod_int Ybaf.underlying5 h1
    obtain ⟨vi, e2, rfl, w2⟩ := DataW.trod_int Ybaf.underlying23 h2
    obtain ⟨q, m, c, ys, e3, hlen, hb, hw⟩ := open_bytes h3
    simp at e0 e1 e2 e3
    subst e0 e1 e2 e3
    refine ⟨⟨cd, fl, vi, q, m, c, ys⟩, rfl, ⟨(u32_of w0).1, (u32_of w0).2, (u8_of w1).1, (u8_of w1).2, (u32_of w2).1, (u32_of w2).2, hlen⟩, hb, fun hx => hw fun k hk => hx k ?_⟩
    simp [DataW.weights, Ybaf.underlying26, DataW.weightsEach]
    exact hk

theorem weightsAll_mem {P : Program} {e : TypeId} : ∀ {l : List (DataW H)} {d : DataW H}, d ∈ l → ∀ k ∈ d.weights P e, k ∈ DataW.weightsAll P e l
  | d0 :: l, d, hd, k, hk => by
    simp only [DataW.weightsAll, List.mem_append]
    rcases List.mem_cons.1 hd with rfl | hd
    · exact .inl hk
    · exact .inr (weightsAll_mem hd k hk)

theorem add_add (a : Addr) (i j : Nat) : (a.add i).add j = a.add (i + j) := by
  obtain ⟨b, o, s⟩ := a
  unfold Addr.add
  by_cases hi : i = 0 <;> by_cases hj : j = 0 <;> simp [hi, hj]
  omega

theorem open_avps {W : World} {fuel : Nat} {cs : List Value} {x : DataW H × List MemPlace} (h : DataW.trod enc Ybaf.prog W 0 (fun _ => true) true fuel 24 cs = some x) :
    ∃ pa no ca L, cs = [.slice pa no ca] ∧ L.length = no ∧ InRow W.heap.size W pa L ∧ ∀ a ∈ L, a.ok0 ∧ BytesUnder W.heap.size W a.q a.ys ∧ ((∀ k ∈ x.1.weights Ybaf.prog 24, k ≤ reachBytes) → a.m ≤ reachBytes) := by
  rcases open_slice Ybaf.underlying24 h with ⟨rfl, rfl⟩ | ⟨a, len, cap, m, n, D, Pl, rfl, _, hl, _, hm, rfl, hx⟩
  · exact ⟨none, 0, 0, [], rfl, rfl, fun h => absurd rfl h, fun a ha => by cases ha⟩
  · simp only [if_true] at hm
    subst hm
    rw [cells26] at hx
    have inh : Inhabited Av := ⟨⟨0, 0, 0, none, 0, 0, []⟩⟩
    obtain ⟨A, hA⟩ := choose_lt (α := Av) (n := len) (p := fun i av => (∀ j u, av.cells[j]? = some u → W.cell? (a.add (i * 4 + j)) = some u) ∧ av.ok0 ∧ BytesUnder W.heap.size W av.q av.ys ∧ ((∀ k ∈ (D i).weights Ybaf.prog 26, k ≤ reachBytes) → av.m ≤ reachBytes)) (fun i hi => by
      obtain ⟨cs', h1, h2⟩ := hx i (by omega)
      obtain ⟨av, rfl, hok, hb, hw⟩ := open_avp h2
      obtain ⟨_, _, hc⟩ := World.cells?_some h1
      refine ⟨av, fun j u hu => ?_, hok, hb, hw⟩
      have hj : j < 4 := by have := (List.getElem?_eq_some_iff.1 hu).1; simpa [Av.cells] using this
      have := hc j hj
      rw [hu] at this
      rw [← this, add_add])
    refine ⟨some a, len, _, (List.range len).map A, rfl, by simp, fun hne => ?_, fun av hav => ?_⟩
    · have h0 : 0 < len := by
        rcases Nat.eq_zero_or_pos len with e | e
        · subst e; simp at hne
        · exact e
      obtain ⟨b, o, s⟩ := a
      have hc0 := (hA 0 h0).1 0 _ rfl
      obtain rfl : s = none := by simpa [Addr.add] using World.cell?_spot hc0
      refine ⟨b, o, rfl, ?_, fun k av hk => ?_⟩
      · rw [add_plain] at hc0
        exact World.block_lt_of_cell? W _ hc0
      · have hkl : k < len := by
          have := (List.getElem?_eq_some_iff.1 hk).1
          simpa using this
        obtain rfl : A k = av := by simpa [hkl] using hk
        have hc := (hA k hkl).1
        have c0 := hc 0 _ rfl
        have c1 := hc 1 _ rfl
        have c2 := hc 2 _ rfl
        have c3 := hc 3 _ rfl
        rw [add_plain] at c0 c1 c2 c3
        exact ⟨c0, c1, c2, c3⟩
    · obtain ⟨i, hi, rfl⟩ := List.mem_map.1 hav
      have hi' : i < len := by simpa using hi
      obtain ⟨_, hok, hb, hw⟩ := hA i hi'
      refine ⟨hok, hb, fun hx' => hw fun k hk => hx' k ?_⟩
      simp only [DataW.weights, Ybaf.underlying24, List.mem_cons, List.mem_append]
      exact .inr (.inl (weightsAll_mem (List.mem_map.2 ⟨i, hi, rfl⟩) k hk))

theorem flat_get : ∀ (L : List Av) (k : Nat) (a : Av), L[k]? = some a → ∀ j u, a.cells[j]? = some u → (L.flatMap Av.cells)[k * 4 + j]? = some u
  | b :: L, 0, a, h, j, u, hu => by
    obtain rfl : b = a := by simpa using h
    have hj : j < b.cells.length := (List.getElem?_eq_some_iff.1 hu).1
    rw [List.flatMap_cons, List.getElem?_append_left (by simpa using hj)]
    simpa using hu
  | b :: L, k + 1, a, h, j, u, hu => by
    have hl : b.cells.length = 4 := rfl
    have ih := flat_get L k a (by simpa using h) j u hu
    rw [List.flatMap_cons, List.getElem?_append_right (by omega), hl, show (k + 1) * 4 + j - 4 = k * 4 + j by omega]
    exact ih

/-- What zzs2588bavps has made, as AppendBinary reads it. -/
theorem avrow_of {w : World} {base : Nat} {v : Value} {no : Nat} {L : List Av} (h : w.ownsRow base 56 4 v no (L.flatMap Av.cells)) :
    ∃ po co, v = .slice po no co ∧ (∀ g, po = some ⟨g, 0, none⟩ → base ≤ g ∧ g < w.heap.size) ∧ ∀ vb : Value, (∀ k, vb.ownBlock = some k → k < base) → AvRow w po vb L := by
  rcases h.2 with ⟨rfl, rfl⟩ | ⟨g, cap, cur, rfl, hb, hg, hn, hm, hs, ht⟩
  · refine ⟨none, 0, rfl, fun g e => (by cases e), fun vb _ hne => ?_⟩
    have hl := h.1
    cases L with
    | nil => exact absurd rfl hne
    | cons a L => simp [Av.cells] at hl
  · refine ⟨some ⟨g, 0, none⟩, cap, rfl, fun g' e => ?_, fun vb hvb _ => ⟨g, cur, rfl, hg, fun e => ?_, fun k a ha => ?_⟩⟩
    · simp at e
      subst e
      exact ⟨hb, (Array.getElem?_eq_some_iff.1 hg).1⟩
    · have := hvb g e.symm
      omega
    · have key : ∀ j u, a.cells[j]? = some u → cur[k * 4 + j]? = some u := fun j u hu => by
        have h1 := flat_get L k a ha j u hu
        rw [← ht, List.getElem?_take] at h1
        split at h1
        · simpa using h1
        · cases h1
      exact ⟨key 0 _ rfl, key 1 _ rfl, key 2 _ rfl, key 3 _ rfl⟩

end Go.Proofs.YbulkbaooFmt

/- The script of updates: what comes in, and the last one at a pair of names. -/
import Derived.Test.YbulkbaooGet
import Derived.Deep.Slices
import Derived.Lib.SmallJoins
import Derived.SizedLaws
namespace Go.Proofs.Ybulkbaoo
open Go.ChangeShapes Go.WideShapes Go.ChangeAt Go.RowKit Go.Deep Go.Joins
set_option linter.unusedVariables false

/-- One update of the script. -/
structure Up where
  u : Int
  i : Int
  seq : Int
  del : Bool
  q : Option Addr
  m : Nat
  d : Nat
  ys : List Int

def Up.cells (a : Up) : List Value := [.int .u8 a.u, .int .u8 a.i, .int .u16 a.seq, .bool a.del, .slice a.q a.m a.d]

/-- Where bytes lie that were there before the call: below block B. -/
def BytesUnder (B : Nat) (w : World) (q : Option Addr) (ys : List Int) : Prop :=
  0 < ys.length → ∃ b o, q = some ⟨b, o, none⟩ ∧ b < B ∧ ∀ i, i < ys.length → w.cell? ⟨b, o + i, none⟩ = some (.int .u8 (ys.getD i 0))

theorem BytesUnder.later {B : Nat} {w w' : World} {q : Option Addr} {ys : List Int} (h : BytesUnder B w q ys) (hb : Below B w w') : BytesUnder B w' q ys := fun h0 => by
  obtain ⟨b, o, rfl, hlt, hc⟩ := h h0
  exact ⟨b, o, rfl, hlt, fun i hi => (hb.cell (p := ⟨b, o + i, none⟩) hlt).trans (hc i hi)⟩

theorem BytesUnder.at {B : Nat} {w : World} {q : Option Addr} {ys : List Int} (h : BytesUnder B w q ys) (hB : B ≤ w.heap.size) : BytesAt w q ys := fun h0 => by
  obtain ⟨b, o, rfl, hlt, hc⟩ := h h0
  exact ⟨b, o, rfl, Nat.lt_of_lt_of_le hlt hB, hc⟩

structure Up.ok (a : Up) : Prop where
  u0 : 0 ≤ a.u
  u1 : a.u ≤ 255
  i0 : 0 ≤ a.i
  i1 : a.i ≤ 255
  len : a.ys.length = a.m
  nil : a.q = none → a.m = 0 ∧ a.d = 0

def InRow (B : Nat) (w : World) (pa : Option Addr) (L : List Up) : Prop :=
  L ≠ [] → ∃ b o, pa = some ⟨b, o, none⟩ ∧ b < B ∧
    ∀ k a, L[k]? = some a → w.cell? ⟨b, o + k * 5, none⟩ = some (.int .u8 a.u) ∧ w.cell? ⟨b, o + k * 5 + 1, none⟩ = some (.int .u8 a.i) ∧ w.cell? ⟨b, o + k * 5 + 2, none⟩ = some (.int .u16 a.seq) ∧ w.cell? ⟨b, o + k * 5 + 3, none⟩ = some (.bool a.del) ∧ w.cell? ⟨b, o + k * 5 + 4, none⟩ = some (.slice a.q a.m a.d)

theorem InRow.later {B : Nat} {w w' : World} {pa : Option Addr} {L : List Up} (h : InRow B w pa L) (hb : Below B w w') : InRow B w' pa L := fun h0 => by
  obtain ⟨b, o, hp, hlt, hc⟩ := h h0
  refine ⟨b, o, hp, hlt, fun k a ha => ?_⟩
  obtain ⟨c0, c1, c2, c3, c4⟩ := hc k a ha
  exact ⟨(hb.cell (p := ⟨b, _, none⟩) hlt).trans c0, (hb.cell (p := ⟨b, _, none⟩) hlt).trans c1, (hb.cell (p := ⟨b, _, none⟩) hlt).trans c2, (hb.cell (p := ⟨b, _, none⟩) hlt).trans c3, (hb.cell (p := ⟨b, _, none⟩) hlt).trans c4⟩

/-! ### opening -/
section
variable {H : Type} {enc : TypeId × Value → H}

theorem cells4 : Yba.prog.cellsOf 4 = 1 := by kernel_rfl
theorem cells5 : Yba.prog.cellsOf 5 = 1 := by kernel_rfl
theorem cells49 : Yba.prog.cellsOf 49 = 1 := by kernel_rfl
theorem cells50 : Yba.prog.cellsOf 50 = 1 := by kernel_rfl
theorem cells52 : Yba.prog.cellsOf 52 = 5 := by kernel_rfl
theorem bytes5 : Yba.prog.bytesOf 5 = 1 := by kernel_rfl

theorem open_bytes {W : World} {fuel : Nat} {cs : List Value} {x : DataW H × List MemPlace} (h : DataW.trod enc Yba.prog W 0 (fun _ => true) true fuel 50 cs = some x) :
    ∃ q m c ys, cs = [.slice q m c] ∧ ys.length = m ∧ (q = none → m = 0 ∧ c = 0) ∧ BytesUnder W.heap.size W q ys ∧ ((∀ k ∈ x.1.weights Yba.prog 50, k ≤ reachBytes) → m ≤ reachBytes) := by
  rcases open_ints Yba.underlying50 Yba.underlying5 cells5 h with ⟨rfl, rfl⟩ | ⟨a, l, c, zs, rfl, _, hl, hm, hz, rfl, hcell, hwz⟩
  · exact ⟨none, 0, 0, [], rfl, rfl, fun _ => ⟨rfl, rfl⟩, fun h => by simp at h, fun _ => Nat.zero_le _⟩
  · have hz' : zs.length = c := by simpa using hz
    have hlen : (zs.take l).length = l := by simp; omega
    refine ⟨some a, l, c, zs.take l, rfl, hlen, fun e => (by cases e), fun h0 => ?_, fun hw => ?_⟩
    · rw [hlen] at h0
      obtain ⟨b, o, s⟩ := a
      have hc0 := hcell 0 (by omega)
      obtain rfl : s = none := by simpa [Addr.add] using World.cell?_spot hc0
      refine ⟨b, o, rfl, World.block_lt_of_cell? W ⟨b, o + 0, none⟩ (by rw [← add_plain]; exact hc0), fun i hi => ?_⟩
      rw [hlen] at hi
      have hci := hcell i (by omega)
      rw [add_plain] at hci
      rw [hci]
      simp [List.getD, hi]
    · have := hw (((lits IntKind.u8 (zs.take l) : List (DataW H)).length + (lits IntKind.u8 (zs.drop l) : List (DataW H)).length) * Yba.prog.bytesOf 5) (by simp [DataW.weights, Yba.underlying50])
      simp [lits, bytes5] at this
      omega

set_option maxRecDepth 100000 in
theorem open_up {W : World} {fuel : Nat} {cs : List Value} {x : DataW H × List MemPlace} (h : DataW.trod enc Yba.prog W 0 (fun _ => true) true fuel 52 cs = some x) :
    ∃ a : Up, cs = a.cells ∧ a.ok ∧ BytesUnder W.heap.size W a.q a.ys ∧ ((∀ k ∈ x.1.weights Yba.prog 52, k ≤ reachBytes) → a.m ≤ reachBytes) := by
  obtain ⟨xs, n, _, rfl, hl, hlen, hf⟩ := DataW.trod_struct Yba.underlying52 h
  rw [cells52] at hl
  match xs, hlen, cs, hl with
  | [y0, y1, y2, y3, y4], _, [c0, c1, c2, c3, c4], _ =>
    have h0 := hf 0 _ rfl
    have h1 := hf 1 _ rfl
    have h2 := hf 2 _ rfl
    have h3 := hf 3 _ rfl
    have h4 := hf 4 _ rfl
    simp [cells4, cells5, cells49, cells50] at h0 h1 h2 h3 h4
    obtain ⟨u, e0, rfl, w0⟩ := DataW.trod_int Yba.underlying5 h0
    obtain ⟨i, e1, rfl, w1⟩ := DataW.trod_int Yba.underlying5 h1
    obtain ⟨sq, e2, rfl, w2⟩ := DataW.trod_int Yba.underlying49 h2
    obtain ⟨dl, e3, rfl⟩ := DataW.trod_bool Yba.underlying4 h3
    obtain ⟨q, m, c, ys, e4, hlen, hnil, hb, hw⟩ := open_bytes h4
    simp at e0 e1 e2 e3 e4
    subst e0 e1 e2 e3 e4
    refine ⟨⟨u, i, sq, dl, q, m, c, ys⟩, rfl, ⟨(bounds_u8 w0).1, (bounds_u8 w0).2, (bounds_u8 w1).1, (bounds_u8 w1).2, hlen, hnil⟩, hb, fun hx => hw fun k hk => hx k ?_⟩
    simp [DataW.weights, Yba.underlying52, DataW.weightsEach]
    exact hk

theorem weightsAll_mem {P : Program} {e : TypeId} : ∀ {l : List (DataW H)} {d : DataW H}, d ∈ l → ∀ k ∈ d.weights P e, k ∈ DataW.weightsAll P e l
  | d0 :: l, d, hd, k, hk => by
    simp only [DataW.weightsAll, List.mem_append]
    rcases List.mem_cons.1 hd with rfl | hd
    · exact .inl hk
    · exact .inr (weightsAll_mem hd k hk)

theorem add_add (a : Addr) (i j : Nat) : (a.add i).add j = a.add (i + j) := by
  obtain ⟨b, o, s⟩ := a
  unfold Addr.add
  by_cases hi : i = 0 <;> by_cases hj : j = 0 <;> simp [hi, hj]
  omega

theorem open_ups {W : World} {fuel : Nat} {cs : List Value} {x : DataW H × List MemPlace} (h : DataW.trod enc Yba.prog W 0 (fun _ => true) true fuel 22 cs = some x) :
    ∃ pa no ca L, cs = [.slice pa no ca] ∧ L.length = no ∧ InRow W.heap.size W pa L ∧ ∀ a ∈ L, a.ok ∧ BytesUnder W.heap.size W a.q a.ys ∧ ((∀ k ∈ x.1.weights Yba.prog 22, k ≤ reachBytes) → a.m ≤ reachBytes) := by
  rcases open_slice Yba.underlying22 h with ⟨rfl, rfl⟩ | ⟨a, len, cap, m, n, D, Pl, rfl, _, hl, _, hm, rfl, hx⟩
  · exact ⟨none, 0, 0, [], rfl, rfl, fun h => absurd rfl h, fun a ha => by cases ha⟩
  · simp only [if_true] at hm
    subst hm
    rw [cells52] at hx
    have inh : Inhabited Up := ⟨⟨0, 0, 0, false, none, 0, 0, []⟩⟩
    obtain ⟨A, hA⟩ := choose_lt (α := Up) (n := len) (p := fun i av => (∀ j u, av.cells[j]? = some u → W.cell? (a.add (i * 5 + j)) = some u) ∧ av.ok ∧ BytesUnder W.heap.size W av.q av.ys ∧ ((∀ k ∈ (D i).weights Yba.prog 52, k ≤ reachBytes) → av.m ≤ reachBytes)) (fun i hi => by
      obtain ⟨cs', h1, h2⟩ := hx i (by omega)
      obtain ⟨av, rfl, hok, hb, hw⟩ := open_up h2
      obtain ⟨_, _, hc⟩ := World.cells?_some h1
      refine ⟨av, fun j u hu => ?_, hok, hb, hw⟩
      have hj : j < 5 := by have := (List.getElem?_eq_some_iff.1 hu).1; simpa [Up.cells] using this
      have := hc j hj
      rw [hu] at this
      rw [← this, add_add])
    refine ⟨some a, len, _, (List.range len).map A, rfl, by simp, fun hne => ?_, fun av hav => ?_⟩
    · have h0 : 0 < len := by
        rcases Nat.eq_zero_or_pos len with e | e
        · subst e; simp at hne
        · exact e
      obtain ⟨b, o, s⟩ := a
      have hc0 := (hA 0 h0).1 0 _ rfl
      obtain rfl : s = none := by simpa [Addr.add] using World.cell?_spot hc0
      refine ⟨b, o, rfl, ?_, fun k av hk => ?_⟩
      · rw [add_plain] at hc0
        exact World.block_lt_of_cell? W _ hc0
      · have hkl : k < len := by
          have := (List.getElem?_eq_some_iff.1 hk).1
          simpa using this
        obtain rfl : A k = av := by simpa [hkl] using hk
        have hc := (hA k hkl).1
        have c0 := hc 0 _ rfl
        have c1 := hc 1 _ rfl
        have c2 := hc 2 _ rfl
        have c3 := hc 3 _ rfl
        have c4 := hc 4 _ rfl
        rw [add_plain] at c0 c1 c2 c3 c4
        exact ⟨c0, c1, c2, c3, c4⟩
    · obtain ⟨i, hi, rfl⟩ := List.mem_map.1 hav
      have hi' : i < len := by simpa using hi
      obtain ⟨_, hok, hb, hw⟩ := hA i hi'
      refine ⟨hok, hb, fun hx' => hw fun k hk => hx' k ?_⟩
      simp only [DataW.weights, Yba.underlying22, List.mem_cons, List.mem_append]
      exact .inr (.inl (weightsAll_mem (List.mem_map.2 ⟨i, hi, rfl⟩) k hk))
end

/-! ### the last update at a pair of names -/
def mt (u s : ByteArray) (a : Up) : Bool := ((nm a.u).toList == u.toList) && ((nm a.i).toList == s.toList)
def lastM (u s : ByteArray) (L : List Up) : Option Up := (L.filter (mt u s)).getLast?

theorem lastM_snoc (u s : ByteArray) (L : List Up) (a : Up) : lastM u s (L ++ [a]) = if mt u s a = true then some a else lastM u s L := by
  unfold lastM
  rw [List.filter_append]
  by_cases h : mt u s a = true
  · simp [h]
  · simp [h]

theorem lastM_none (u s : ByteArray) (L : List Up) (h : ∀ a ∈ L, mt u s a = false) : lastM u s L = none := by
  unfold lastM
  rw [List.filter_eq_nil_iff.2 (fun a ha => by simp [h a ha])]
  rfl

theorem lastM_at (u s : ByteArray) (L : List Up) (k : Nat) (hk : k < L.length) (hm : mt u s L[k] = true) (h : ∀ a ∈ L.drop (k + 1), mt u s a = false) : lastM u s L = some L[k] := by
  unfold lastM
  conv => lhs; rw [← List.take_append_drop (k + 1) L]
  have e : (L.drop (k + 1)).filter (mt u s) = [] := List.filter_eq_nil_iff.2 (fun a ha => by simp [h a ha])
  rw [List.filter_append, e, List.append_nil, List.take_succ_eq_append_getElem hk, List.filter_append]
  simp [hm]

theorem isNm_nm (x : Int) (h : 0 ≤ x) : IsNm (nm x) := nm_cases x h

theorem nm_eq {a b : ByteArray} (ha : IsNm a) (hb : IsNm b) : (a.toList == b.toList) = true → a = b := by
  rcases ha with rfl | rfl | rfl | rfl <;> rcases hb with rfl | rfl | rfl | rfl <;> decide +kernel

end Go.Proofs.Ybulkbaoo

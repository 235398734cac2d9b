/- LawS2588CLastApplied: the walk. -/
import Derived.Test.YbulkbaooUps
namespace Go.Proofs.Ybulkbaoo.lawS2588CLastApplied
open Go.ChangeShapes Go.WideShapes Go.ChangeAt Go.RowKit
set_option linter.unusedVariables false

/-- What the map holds for an update that stays. -/
def ItemAt (w : World) (S : Nat) (s : ByteArray) (a : Up) (v : Value) : Prop :=
  ∃ d g c, v = .agg #[.string s, .int .u16 a.seq, .pointer (some ⟨d, 0, none⟩)] ∧ Box w d #[.slice (some ⟨g, 0, none⟩) a.m c] 59 ∧ S ≠ d ∧ S ≠ g ∧ BytesAt w (some ⟨g, 0, none⟩) a.ys

/-- What the map holds at the asked pair behind the updates L. -/
def Cur (w : World) (S : Nat) (u s : ByteArray) (L : List Up) (o : Option Value) : Prop :=
  (lastM u s L = none → o = none) ∧ ∀ a, lastM u s L = some a → (a.del = true → o = none) ∧ (a.del = false → ∃ v, o = some v ∧ ItemAt w S s a v)

theorem bytes_step {S : Nat} {w w' : World} {ev ev' : Value} {n : Nat} {f : Lit → Option Value} {g : Nat} {ys : List Int} (h : BytesAt w (some ⟨g, 0, none⟩) ys) (hE : Ent w ev n f) (hst : Step S w ev w' ev') (hg : S ≠ g) : BytesAt w' (some ⟨g, 0, none⟩) ys := fun h0 => by
  obtain ⟨b, o, e, hlt, hc⟩ := h h0
  cases e
  have hne : ev ≠ .map (some g) := by
    rintro rfl
    rcases hE with ⟨e, _⟩ | ⟨m, e, hM⟩
    · cases e
    · cases e
      obtain ⟨D, ⟨es, clock, h1, _⟩, _⟩ := hM
      have := hc 0 h0
      simp [World.cell?, h1] at this
  have hb := hst.block g hlt (fun e => hg e.symm) hne
  exact ⟨g, 0, rfl, Nat.lt_of_lt_of_le hlt hst.size, fun i hi => (World.cell?_of_block (a := ⟨g, 0 + i, none⟩) hb).trans (hc i hi)⟩

theorem Box.step {S : Nat} {w w' : World} {ev ev' : Value} {n : Nat} {f : Lit → Option Value} {b : Nat} {cs : Array Value} {t : TypeId} (h : Box w b cs t) (hE : Ent w ev n f) (hst : Step S w ev w' ev') (hb : S ≠ b) : Box w' b cs t :=
  h.block (hst.block b h.lt (fun e => hb e.symm) (hE.ne_box h))

theorem ItemAt.step {S : Nat} {w w' : World} {ev ev' : Value} {n : Nat} {f : Lit → Option Value} {s : ByteArray} {a : Up} {v : Value} (h : ItemAt w S s a v) (hE : Ent w ev n f) (hst : Step S w ev w' ev') : ItemAt w' S s a v := by
  obtain ⟨d, g, c, rfl, h1, h2, h3, h4⟩ := h
  exact ⟨d, g, c, rfl, Box.step h1 hE hst h2, h2, h3, bytes_step h4 hE hst h3⟩

theorem Cur.step {S : Nat} {w w' : World} {ev ev' : Value} {n : Nat} {f : Lit → Option Value} {u s : ByteArray} {L : List Up} {o : Option Value} (h : Cur w S u s L o) (hE : Ent w ev n f) (hst : Step S w ev w' ev') : Cur w' S u s L o := by
  refine ⟨h.1, fun a ha => ⟨(h.2 a ha).1, fun hd => ?_⟩⟩
  obtain ⟨v, h1, h2⟩ := (h.2 a ha).2 hd
  exact ⟨v, h1, h2.step hE hst⟩

/-- A stored item, away from the store's box. -/
def Good' (w : World) (S : Nat) (v : Value) : Prop := ∃ x0 x1 d p m c, v = .agg #[.string x0, .int .u16 x1, .pointer (some ⟨d, 0, none⟩)] ∧ Box w d #[.slice p m c] 59 ∧ S ≠ d
theorem Good'.good {w : World} {S : Nat} {v : Value} (h : Good' w S v) : Good w v := by
  obtain ⟨x0, x1, d, p, m, c, e, h, _⟩ := h
  exact ⟨x0, x1, d, p, m, c, e, h⟩
theorem Good'.step {S : Nat} {w w' : World} {ev ev' : Value} {n : Nat} {f : Lit → Option Value} {v : Value} (h : Good' w S v) (hE : Ent w ev n f) (hst : Step S w ev w' ev') : Good' w' S v := by
  obtain ⟨x0, x1, d, p, m, c, e, h, hd⟩ := h
  exact ⟨x0, x1, d, p, m, c, e, Box.step h hE hst hd, hd⟩

theorem box1 (w : World) (o : Obj) (cs : Array Value) (t : TypeId) : Box ((w.alloc o).alloc (.cells cs t)) (w.heap.size + 1) cs t := by
  have := Box.new (w.alloc o) cs t
  rwa [show (w.alloc o).heap.size = w.heap.size + 1 by simp] at this
theorem box3 (w : World) (o p q : Obj) (cs : Array Value) (t : TypeId) : Box ((((w.alloc o).alloc p).alloc q).alloc (.cells cs t)) (w.heap.size + 1 + 1 + 1) cs t := by
  have := Box.new (((w.alloc o).alloc p).alloc q) cs t
  rwa [show (((w.alloc o).alloc p).alloc q).heap.size = w.heap.size + 1 + 1 + 1 by simp] at this
theorem bel1 (w : World) (o : Obj) : Below w.heap.size w (w.alloc o) := (Below.refl _ w).alloc (Nat.le_refl _) o
theorem bel2 (w : World) (o p : Obj) : Below w.heap.size w ((w.alloc o).alloc p) := (bel1 w o).alloc (by simp) p
theorem bel4 (w : World) (o p q r : Obj) : Below w.heap.size w ((((w.alloc o).alloc p).alloc q).alloc r) := ((bel2 w o p).alloc (by simp; omega) q).alloc (by simp; omega) r

/-- What an update leaves of the pointer to its data. -/
def Got (w : World) (B : Nat) (adel : Bool) (am : Nat) (ays : List Int) (pp : Option Addr) : Prop :=
  (adel = true ∧ pp = none) ∨ (adel = false ∧ ∃ d g c, pp = some ⟨d, 0, none⟩ ∧ Box w d #[.slice (some ⟨g, 0, none⟩) am c] 59 ∧ B ≤ d ∧ B ≤ g ∧ BytesAt w (some ⟨g, 0, none⟩) ays)

theorem Got.sz {w : World} {B : Nat} {adel : Bool} {am : Nat} {ays : List Int} {pp : Option Addr} (h : Got w B adel am ays pp) : Sz w pp := by
  rcases h with ⟨_, rfl⟩ | ⟨_, d, g, c, rfl, h, _⟩
  · exact .inl rfl
  · exact .inr ⟨d, _, _, _, rfl, h⟩

theorem turned {S B : Nat} {w w' : World} {ev ev' : Value} {n : Nat} {f : Lit → Option Value} {L : List Up} {a : Up} {pp : Option Addr} {QU QI : Int} (k0 : 0 ≤ QU) (k1 : 0 ≤ QI) (hok : a.ok) (hSB : S < B) (hE : Ent w ev n f) (hst : Step S w ev w' ev') (hgood : ∀ l v, f l = some v → Good' w S v) (hcur : Cur w S (nm QU) (nm QI) L (f (kl (nm QU) (nm QI)))) (hgot : Got w B a.del a.m a.ys pp) :
    (∀ l v, turnAt f (kl (nm a.u) (nm a.i)) (left pp.isNone (nm a.i) a.seq pp) l = some v → Good' w' S v) ∧ Cur w' S (nm QU) (nm QI) (L ++ [a]) (turnAt f (kl (nm a.u) (nm a.i)) (left pp.isNone (nm a.i) a.seq pp) (kl (nm QU) (nm QI))) := by
  have hau := isNm_nm a.u hok.u0
  have hai := isNm_nm a.i hok.i0
  have hqu := isNm_nm QU k0
  have hqi := isNm_nm QI k1
  have hl : (a.del = true → left pp.isNone (nm a.i) a.seq pp = none) ∧ (a.del = false → ∃ v, left pp.isNone (nm a.i) a.seq pp = some v ∧ ItemAt w' S (nm a.i) a v) := by
    rcases hgot with ⟨e, rfl⟩ | ⟨e, d, g, c, rfl, h1, h2, h3, h4⟩
    · exact ⟨fun _ => rfl, fun h => by rw [e] at h; cases h⟩
    · refine ⟨fun h => (by rw [e] at h; cases h), fun _ => ⟨_, rfl, d, g, c, rfl, Box.step h1 hE hst (by omega), by omega, by omega, bytes_step h4 hE hst (by omega)⟩⟩
  refine ⟨fun l v hv => ?_, ?_⟩
  · unfold turnAt at hv
    split at hv
    · cases hd : a.del with
      | true => rw [hl.1 hd] at hv; cases hv
      | false =>
        obtain ⟨v', h1, d, g, c, e, h2, h3, _⟩ := hl.2 hd
        rw [h1] at hv
        cases hv
        exact ⟨_, _, d, _, _, _, e, h2, h3⟩
    · exact (hgood l v hv).step hE hst
  · by_cases hm : mt (nm QU) (nm QI) a = true
    · have hm' := hm
      simp only [mt, Bool.and_eq_true] at hm'
      have e1 := nm_eq hau hqu hm'.1
      have e2 := nm_eq hai hqi hm'.2
      rw [← e1, ← e2, turnAt_same _ (kl_key _ _ hau hai)]
      rw [← e1, ← e2] at hm
      refine ⟨fun h => ?_, fun b hb => ?_⟩
      · rw [lastM_snoc, if_pos hm] at h; cases h
      · rw [lastM_snoc, if_pos hm] at hb
        cases hb
        exact hl
    · rw [turnAt_other]
      · have hc := hcur.step hE hst
        refine ⟨fun h => ?_, fun b hb => ?_⟩
        · rw [lastM_snoc, if_neg hm] at h; exact hc.1 h
        · rw [lastM_snoc, if_neg hm] at hb; exact hc.2 b hb
      · intro e
        obtain ⟨e1, e2⟩ := kl_inj hqu hqi hau hai e
        exact hm (by simp [mt, e1, e2])

theorem below_step {S : Nat} {w wr w' : World} {ev ev' : Value} (hb : Below S w wr) (hz : S ≤ wr.heap.size) (hev : ∀ b, ev = .map (some b) → S ≤ b) (hst : Step S wr ev w' ev') : Below S w w' ∧ ∀ b, ev' = .map (some b) → S ≤ b := by
  refine ⟨⟨hst.os.trans hb.os, hst.tape.trans hb.tape, hst.output.trans hb.output, Nat.le_trans hb.size hst.size, fun k hk => (hst.block k (by omega) (by omega) (fun e => ?_)).trans (hb.block k hk)⟩, fun b e => ?_⟩
  · have := hev k e; omega
  · rcases hst.lies with e1 | ⟨q, e1, hq⟩
    · exact hev b (e1 ▸ e)
    · rw [e1] at e
      simp at e
      omega

/-- What the answer of Get is to be behind the updates L. -/
def Ans (w : World) (u s : ByteArray) (L : List Up) (y0 : ByteArray) (y1 : Int) (yp : Option Addr) (ok : Bool) : Prop :=
  (lastM u s L = none → ok = false) ∧ ∀ a, lastM u s L = some a → (a.del = true → ok = false) ∧ (a.del = false → ok = true ∧ y0 = s ∧ y1 = a.seq ∧ ∃ d g c, yp = some ⟨d, 0, none⟩ ∧ Box w d #[.slice (some ⟨g, 0, none⟩) a.m c] 59 ∧ BytesAt w (some ⟨g, 0, none⟩) a.ys)

theorem Ans.later {w w' : World} {u s : ByteArray} {L : List Up} {y0 : ByteArray} {y1 : Int} {yp : Option Addr} {ok : Bool} (h : Ans w u s L y0 y1 yp ok) (hb : Below w.heap.size w w') : Ans w' u s L y0 y1 yp ok := by
  refine ⟨h.1, fun a ha => ⟨(h.2 a ha).1, fun hd => ?_⟩⟩
  obtain ⟨h1, h2, h3, d, g, c, h4, h5, h6⟩ := (h.2 a ha).2 hd
  exact ⟨h1, h2, h3, d, g, c, h4, h5.below hb, h6.later hb⟩

theorem asked {S : Nat} {w : World} {ev : Value} {n : Nat} {f : Lit → Option Value} {u s : ByteArray} {L : List Up} (hu : IsNm u) (hs : IsNm s) (hf : ∀ l v, f l = some v → Good' w S v) (hc : Cur w S u s L (f (kl u s))) :
    ∃ y0 y1 yp ok, Ans w u s L y0 y1 yp ok ∧ ∀ w1, Ent w1 ev n f → w1.cell? ⟨S, 11, none⟩ = some ev → w1.cell? ⟨S, 12, none⟩ = some (.map none) →
      Calls Yba.prog 9 #[.pointer (some ⟨S, 11, none⟩), .agg #[.string u, .string s]] w1 fun e w' => e = .returned (.tuple #[.agg #[.string y0, .int .u16 y1, .pointer yp], .bool ok]) ∧ Below w1.heap.size w1 w' := by
  cases h : f (kl u s) with
  | none =>
    rw [h] at hc
    refine ⟨_, _, _, _, ⟨fun _ => rfl, fun a ha => ⟨fun _ => rfl, fun hd => ?_⟩⟩, fun w1 hE c0 c1 => get_miss S ev n f u s w1 hu hs hE c0 c1 h⟩
    obtain ⟨v, e, _⟩ := (hc.2 a ha).2 hd
    cases e
  | some v =>
    rw [h] at hc
    obtain ⟨x0, x1, d, p, m, c, rfl, hd, _⟩ := hf _ v h
    refine ⟨_, _, _, _, ⟨fun e => ?_, fun a ha => ⟨fun e => ?_, fun e => ?_⟩⟩, fun w1 hE c0 c1 => get_hit S ev n f u s w1 x0 x1 _ hu hs hE c0 c1 h⟩
    · have := hc.1 e; cases this
    · have := (hc.2 a ha).1 e; cases this
    · obtain ⟨v', e', d', g', c', e2, h2, _, _, h3⟩ := (hc.2 a ha).2 e
      cases e'
      cases e2
      exact ⟨rfl, rfl, rfl, d, g', c', rfl, h2, h3⟩

set_option maxRecDepth 100000 in
set_option maxHeartbeats 2000000 in
theorem walk (pa : Option Addr) (no ca : Nat) (L : List Up) (pk qu qi : Int) (QU QI : Int) (w : World)
    (k0 : 0 ≤ pk) (k1 : pk ≤ 255) (k2 : 0 ≤ qu) (k3 : qu ≤ 255) (k4 : 0 ≤ qi) (k5 : qi ≤ 255) (k6 : 0 ≤ QU) (k7 : QU ≤ 255) (k8 : 0 ≤ QI) (k9 : QI ≤ 255)
    (hL : InRow w.heap.size w pa L) (hno : L.length = no) (hok : ∀ a ∈ L, a.ok ∧ BytesUnder w.heap.size w a.q a.ys ∧ a.m ≤ 140737488355328)
    (hpick : (0 < no ∧ pk % 2 = 0 ∧ ∃ a, L[(pk / 2 % (no : Int)).toNat]? = some a ∧ QU = a.u ∧ QI = a.i) ∨ ((no = 0 ∨ pk % 2 = 1) ∧ QU = qu ∧ QI = qi)) :
    Calls Yba.prog 3 #[.slice pa no ca, .int .u8 pk, .int .u8 qu, .int .u8 qi] w fun e w' => e = .returned (.bool true) ∧ Below w.heap.size w w' := by
  by_cases hn : 1024 < (no : Int)
  · go_enter Yba.func3, Yba.ntmps3
    go_wp2
    go_ret
    exact ⟨rfl, Below.refl _ _⟩
  have hnu := isNm_nm QU k6
  have hns := isNm_nm QI k8
  have HP : Hid _ := hpick
  clear hpick
  go_enter Yba.func3, Yba.ntmps3
  go_wp2_with fail
  go_loopg [10] L.length (fun gk i wr => ∃ (k : Nat) (cnt : Int) (ev : Value) (f : Lit → Option Value), gk + k = L.length ∧ i = .int .i64 (k : Int) ∧ Ent wr ev k f ∧ Box wr w.heap.size (stc cnt 0 ev) 48 ∧ Below w.heap.size w wr ∧ (∀ l v, f l = some v → Good' wr w.heap.size v) ∧ Cur wr w.heap.size (nm QU) (nm QI) (L.take k) (f (kl (nm QU) (nm QI))) ∧ (∀ b, ev = .map (some b) → w.heap.size ≤ b))
  case atStart => exact ⟨0, 0, .map none, fun _ => none, rfl, rfl, .inl ⟨rfl, fun _ => rfl⟩, Box.new w _ 48, (Below.refl _ _).alloc (Nat.le_refl _) _, fun l v h => (by cases h), ⟨fun _ => rfl, fun a h => (by cases h)⟩, fun b e => (by cases e)⟩
  case round =>
    obtain ⟨k, cnt, ev, f, hk, rfl, hE, hS, hbel, hgood, hcur, hevb⟩ := hrel
    have hzr := hbel.size
    have hSl := hS.lt
    by_cases hlt : k < L.length
    · have ha : L[k]? = some L[k] := List.getElem?_eq_getElem hlt
      obtain ⟨hka, hkb, hkm⟩ := hok L[k] (List.getElem_mem hlt)
      have hL' := hL.later hbel
      obtain ⟨g, og, hpo, hgB, hrow⟩ := hL' (by intro h; rw [h] at hlt; simp at hlt)
      obtain ⟨q0, q1, q2, q3, q4⟩ := hrow k _ ha
      have HT : Hid (L.take (k + 1) = L.take k ++ [L[k]]) := List.take_succ_eq_append_getElem hlt
      generalize L[k] = av at hka hkb hkm q0 q1 q2 q3 q4 ha HT
      obtain ⟨au, ai, asq, adel, aq, am, ad, ays⟩ := av
      obtain ⟨u0, u1', i0, i1, alen, anil⟩ := hka
      dsimp only at u0 u1' i0 i1 alen anil q0 q1 q2 q3 q4 hkb hkm
      subst hpo
      clear hrow hL' hL
      have hki : (k : Int) < (no : Int) := by omega
      have hgl : g < wr.heap.size := by omega
      go_wp2_with fail
      go_cut [12] (fun s12 wc => s12 = .pointer (some ⟨wr.heap.size + 1, 0, none⟩) ∧ wc = ((wr.alloc (.cells #[.int .u8 au, .int .u8 ai, .int .u16 asq, .bool adel, .slice aq am ad] 52)).alloc (.cells #[.string (nm ai), .int .u16 asq, .pointer none] 56)).drew)
      case first =>
        go_region_held3 (fun w' => w'.cell? ⟨wr.heap.size, 1, none⟩ = some (.int .u8 ai) ∧ w'.cell? ⟨wr.heap.size, 2, none⟩ = some (.int .u16 asq)) (go_keep)
          (first | (go_at_call 4; refine (name_4 _ _ i0 i1).mono ?_; rintro e w' ⟨rfl, rfl⟩))
        all_goals (go_wp2_with fail; go_meet; exact ⟨rfl, rfl⟩)
      case rest =>
      obtain ⟨rfl, rfl⟩ := hcut
      go_upto_if 45 with fail
      go_cut [13] (fun s13 wc => ∃ pp, Box wc wr.heap.size #[.int .u8 au, .int .u8 ai, .int .u16 asq, .bool adel, .slice aq am ad] 52 ∧ Box wc (wr.heap.size + 1) #[.string (nm ai), .int .u16 asq, .pointer pp] 56 ∧ Below wr.heap.size wr wc ∧
        Got wc wr.heap.size adel am ays pp)
      case first =>
        have heq := eql_slice
        cases adel with
        | true =>
          go_wp2_with fail
          go_meet
          exact ⟨none, ((Box.new wr _ 52).alloc _).drew, (box1 wr _ _ 56).drew, (bel2 wr _ _).drew, .inl ⟨rfl, rfl⟩⟩
        | false =>
          cases aq with
          | none =>
            obtain ⟨rfl, rfl⟩ := anil rfl
            obtain rfl : ays = [] := List.eq_nil_of_length_eq_zero alen
            go_wp2_with fail
            refine (clone_nil _).mono ?_
            rintro e w' ⟨rfl, rfl⟩
            go_wp2_with fail
            go_meet
            exact ⟨_, ((((Box.new wr _ 52).alloc _).alloc _).alloc _).drew, (((box1 wr _ _ 56).alloc _).alloc _).drew, (bel4 wr _ _ _ _).drew, .inr ⟨rfl, _, _, _, rfl, (box3 wr _ _ _ _ 59).drew, by omega, by omega, fun h => by simp at h⟩⟩
          | some a =>
            go_wp2_with fail
            refine (clone_some a am ad ays _ alen hkm ?_).mono ?_
            · exact (hkb.later (hbel.trans ((bel2 wr _ _).drew.mono hzr))).at (by simp; omega)
            rintro e w2 ⟨g2, c2, rfl, hb2, hbel2, hg2⟩
            have hz2 := hbel2.size
            simp at hz2 hg2
            have hO2 := ((Box.new wr #[.int .u8 au, .int .u8 ai, .int .u16 asq, .bool false, .slice (some a) am ad] 52).alloc (.cells #[.string (nm ai), .int .u16 asq, .pointer none] 56)).drew.below hbel2
            have hT2 := (box1 wr (.cells #[.int .u8 au, .int .u8 ai, .int .u16 asq, .bool false, .slice (some a) am ad] 52) #[.string (nm ai), .int .u16 asq, .pointer none] 56).drew.below hbel2
            have hbel3 : Below wr.heap.size wr w2 := (bel2 wr _ _).drew.trans (hbel2.mono (by simp; omega))
            have t2 : w2.cell? ⟨wr.heap.size + 1, 2, none⟩ = some (.pointer none) := hT2.cell 2 rfl
            have v2 := hT2.free 2
            have t2' := fun o => cell_up t2 o
            have v2' := fun o => (hT2.alloc o).free 2
            have hTl : wr.heap.size + 1 < w2.heap.size := hT2.lt
            go_wp2_with fail
            go_meet
            refine ⟨_, (hO2.other (a := ⟨wr.heap.size + 1, 2, none⟩) (by show wr.heap.size ≠ wr.heap.size + 1; omega) _).alloc _, (hT2.set 2 _).alloc _, (hbel3.setCell (by show wr.heap.size ≤ wr.heap.size + 1; omega) _).alloc (by simp [World.setCell]; omega) _, .inr ⟨rfl, w2.heap.size, g2, c2, rfl, ?_, by omega, by omega, fun h0 => ?_⟩⟩
            · have := Box.new (w2.setCell ⟨wr.heap.size + 1, 2, none⟩ (.pointer (some ⟨w2.heap.size, 0, none⟩))) #[.slice (some ⟨g2, 0, none⟩) am c2] 59
              rwa [show (w2.setCell ⟨wr.heap.size + 1, 2, none⟩ (.pointer (some ⟨w2.heap.size, 0, none⟩))).heap.size = w2.heap.size by simp [World.setCell]] at this
            · obtain ⟨b, o, e, hlt, hc⟩ := hb2 h0
              cases e
              refine ⟨g2, 0, rfl, by simp [World.setCell]; omega, fun i hi => cell_up ?_ _⟩
              rw [← hc i hi]
              exact World.cell?_of_block (Below.heap_setCell _ _ _ _ (by show g2 ≠ wr.heap.size + 1; omega))
      case rest =>
      obtain ⟨pp, hO, hT, hbc, hgot⟩ := hcut
      have hzc := hbc.size
      have hEc := hE.below hbc
      have hSc := hS.below hbc
      have hstc := Step.of_below (S := w.heap.size) ev hbc
      have hgoodc : ∀ l v, f l = some v → Good' wc w.heap.size v := fun l v h => (hgood l v h).step hE hstc
      have hcurc := hcur.step hE hstc
      have o0 : wc.cell? ⟨wr.heap.size, 0, none⟩ = some (.int .u8 au) := hO.cell 0 rfl
      have p0 : wc.cell? ⟨wr.heap.size + 1, 0, none⟩ = some (.string (nm ai)) := hT.cell 0 rfl
      have p1 : wc.cell? ⟨wr.heap.size + 1, 1, none⟩ = some (.int .u16 asq) := hT.cell 1 rfl
      have p2 : wc.cell? ⟨wr.heap.size + 1, 2, none⟩ = some (.pointer pp) := hT.cell 2 rfl
      have hup : Up.ok ⟨au, ai, asq, adel, aq, am, ad, ays⟩ := ⟨u0, u1', i0, i1, alen, anil⟩
      have hnu' := isNm_nm au u0
      have hni' := isNm_nm ai i0
      have hk1 : k < 1000000 := by omega
      clear hE hS hgood hcur hstc
      go_wp2_with fail
      go_region_held3 (fun w' => w'.cell? ⟨wr.heap.size, 0, none⟩ = some (.int .u8 au) ∧ w'.cell? ⟨wr.heap.size + 1, 0, none⟩ = some (.string (nm ai)) ∧ w'.cell? ⟨wr.heap.size + 1, 1, none⟩ = some (.int .u16 asq) ∧ w'.cell? ⟨wr.heap.size + 1, 2, none⟩ = some (.pointer pp)) (go_keep)
        (first | (go_at_call 4; refine (name_4 _ _ u0 u1').mono ?_; rintro e w' ⟨rfl, rfl⟩) | (go_at_call 6; refine (apply_6 w.heap.size cnt ev k f (nm au) (nm ai) asq pp _ hnu' hni' hk1 hEc.drew hSc.drew (fun v h => (hgoodc _ v h).good) hgot.sz).mono ?_; rintro e w4 ⟨rfl, cnt4, ev4, hE4, hS4, hst4⟩; have hO4 : Box w4 wr.heap.size #[.int .u8 au, .int .u8 ai, .int .u16 asq, .bool adel, .slice aq am ad] 52 := Box.step hO.drew hEc.drew hst4 (by omega); have hT4 : Box w4 (wr.heap.size + 1) #[.string (nm ai), .int .u16 asq, .pointer pp] 56 := Box.step hT.drew hEc.drew hst4 (by omega); have o0 : w4.cell? ⟨wr.heap.size, 0, none⟩ = some (.int .u8 au) := hO4.cell 0 rfl; have p0 : w4.cell? ⟨wr.heap.size + 1, 0, none⟩ = some (.string (nm ai)) := hT4.cell 0 rfl; have p1 : w4.cell? ⟨wr.heap.size + 1, 1, none⟩ = some (.int .u16 asq) := hT4.cell 1 rfl; have p2 : w4.cell? ⟨wr.heap.size + 1, 2, none⟩ = some (.pointer pp) := hT4.cell 2 rfl))
      all_goals
        go_wp2_with fail
        go_roundg (gk - 1)
        case measure => omega
        case rel =>
          obtain ⟨r1, r2⟩ := turned (a := ⟨au, ai, asq, adel, aq, am, ad, ays⟩) k6 k8 hup (Nat.lt_of_lt_of_le hSl (Nat.le_refl _)) hEc.drew hst4 hgoodc hcurc hgot
          obtain ⟨r3, r4⟩ := below_step ((hbel.trans (hbc.mono hzr)).drew) (by simp; omega) hevb hst4
          exact ⟨k + 1, cnt4, ev4, _, by omega, by go_num, hE4, hS4, r3, r1, by rw [HT.out]; exact r2, r4⟩
    · obtain rfl : no = k := by omega
      rw [show L.take no = L by rw [← hno]; exact List.take_length] at hcur
      obtain ⟨y0, y1, yp, ok, hans, hget⟩ := asked (ev := ev) (n := no) hnu hns hgood hcur
      have hgetH : Hid _ := hget
      clear hget hgood hcur hevb
      have hL' := hL.later hbel
      clear hL
      go_upto_region 15 with fail
      go_cut [69] (fun s69 wc => s69 = .bool (decide (0 < no ∧ pk % 2 = 0)) ∧ wc = wr)
      case first =>
        have e2 : pk.tmod 2 = pk % 2 := Int.tmod_eq_emod_of_nonneg k0
        go_wp2_with fail
        all_goals
          go_meet
          refine ⟨?_, rfl⟩
          by_cases hp : pk % 2 = 0 <;> simp [hp] <;> omega
      case rest =>
      obtain ⟨rfl, rfl⟩ := hcut
      go_upto_if 69 with fail
      go_cut [2, 3, 14] (fun s2 s3 s14 wd => s2 = .int .u8 QU ∧ s3 = .int .u8 QI ∧ Below wc.heap.size wc wd)
      case first =>
        rcases HP.out with ⟨h0, h1, a, ha, hqa, hqb⟩ | ⟨h0, rfl, rfl⟩
        · have hne : L ≠ [] := by intro h; rw [h] at hno; simp at hno; omega
          obtain ⟨b, o, rfl, hb, hc⟩ := hL' hne
          obtain ⟨c0, c1, c2, c3, c4⟩ := hc _ a ha
          have ej : ((pk / 2 % (no : Int)).toNat : Int) = pk / 2 % (no : Int) := Int.toNat_of_nonneg (Int.emod_nonneg _ (by omega))
          have hjl : pk / 2 % (no : Int) < (no : Int) := Int.emod_lt_of_pos _ (by omega)
          generalize (pk / 2 % (no : Int)).toNat = j at c0 c1 c2 c3 c4 ej ha
          rw [← hqa] at c0
          rw [← hqb] at c1
          have e1 : pk.tdiv 2 = pk / 2 := Int.tdiv_eq_ediv_of_nonneg k0
          have e2 : (pk / 2).tmod (no : Int) = (j : Int) := by rw [Int.tmod_eq_emod_of_nonneg (by omega), ej]
          have hd : decide (0 < no ∧ pk % 2 = 0) = true := by simp [h0, h1]
          have hjn : (j : Int) < (no : Int) := by omega
          clear ej hjl hc HP ha hqa hqb
          go_wp2_with fail
          all_goals
            go_meet
            exact ⟨rfl, rfl, bel1 _ _⟩
        · have hd : decide (0 < no ∧ pk % 2 = 0) = false := by simp; omega
          clear HP
          go_wp2_with fail
          go_meet
          exact ⟨rfl, rfl, Below.refl _ _⟩
      case rest =>
      obtain ⟨rfl, rfl, hbd⟩ := hcut
      have hEd := hE.below hbd
      have hSd := hS.below hbd
      have hansd := hans.later hbd
      have hbel' := hbel.trans (hbd.mono hzr)
      have hLd := hL'.later (hbd.mono hzr)
      have hzd := hbd.size
      clear hE hS hans hL' hbel HP
      go_wp2_with (first | (go_at_call 4; refine (name_4 _ _ ‹_› ‹_›).mono ?_; rintro e w' ⟨rfl, rfl⟩) | (go_at_call 7; go_must (refine (get_7 w.heap.size cnt ev no f (nm QU) (nm QI) _ y0 y1 yp ok hEd hSd hgetH.out).mono ?_)))
      rintro e w1 ⟨rfl, hb1⟩
      have hans1 := hansd.later hb1
      have hL1 := hLd.later (hb1.mono (Nat.le_trans hzr hzd))
      have hbel1 := hbel'.trans (hb1.mono (Nat.le_trans hzr hzd))
      have hz1 := hb1.size
      clear hEd hSd hansd hLd hbel' hgetH
      have hans2 := hans1.later (bel1 w1 (.cells #[.string y0, .int .u16 y1, .pointer yp] 56))
      have hL2 := hL1.later ((bel1 w1 (.cells #[.string y0, .int .u16 y1, .pointer yp] 56)).mono (Nat.le_trans hzr (Nat.le_trans hzd hz1)))
      have hbel2 := hbel1.trans ((bel1 w1 (.cells #[.string y0, .int .u16 y1, .pointer yp] 56)).mono (Nat.le_trans hzr (Nat.le_trans hzd hz1)))
      have hI := Box.new w1 #[.string y0, .int .u16 y1, .pointer yp] 56
      clear hans1 hL1 hbel1
      go_wp2_with fail
      go_loopg [19, 20] (no + 1) (fun gk last i wq => ∃ k : Nat, k ≤ no ∧ gk = k + 1 ∧ last = .int .i64 (-1) ∧ i = .int .i64 ((k : Int) - 1) ∧ wq = w1.alloc (.cells #[.string y0, .int .u16 y1, .pointer yp] 56) ∧ ∀ a ∈ L.drop k, mt (nm QU) (nm QI) a = false)
      case atStart => exact ⟨no, Nat.le_refl _, rfl, rfl, rfl, rfl, by rw [← hno, List.drop_length]; simp⟩
      case round =>
        obtain ⟨k, hk, rfl, rfl, rfl, rfl, hno2⟩ := hrel
        cases k with
        | zero =>
          have hlast := lastM_none (nm QU) (nm QI) L (by simpa using hno2)
          obtain rfl := hans2.1 hlast
          go_wp2_with fail
          go_ret
          exact ⟨rfl, hbel2⟩
        | succ k =>
          have hkl : k < L.length := by omega
          have ha : L[k]? = some L[k] := List.getElem?_eq_getElem hkl
          obtain ⟨g, og, hpo, hgB, hrow⟩ := hL2 (by intro h; rw [h] at hkl; simp at hkl)
          obtain ⟨q0, q1, q2, q3, q4⟩ := hrow k _ ha
          obtain ⟨hka, hkb, hkm⟩ := hok L[k] (List.getElem_mem hkl)
          have hat := hkb.later hbel2
          have HL : Hid (lastM (nm QU) (nm QI) L = some L[k] ∨ mt (nm QU) (nm QI) L[k] = false) := by
            by_cases hm : mt (nm QU) (nm QI) L[k] = true
            · exact .inl (lastM_at _ _ L k hkl hm hno2)
            · exact .inr (by simpa using hm)
          have HD : Hid (mt (nm QU) (nm QI) L[k] = false → ∀ a ∈ L.drop k, mt (nm QU) (nm QI) a = false) := by
            intro hm a ha'
            rw [List.drop_eq_getElem_cons hkl] at ha'
            rcases List.mem_cons.1 ha' with rfl | ha'
            · exact hm
            · exact hno2 a ha'
          have HM : Hid (∀ b1 b2 : Bool, ((nm (L[k]).u).toList == (nm QU).toList) = b1 → ((nm (L[k]).i).toList == (nm QI).toList) = b2 → mt (nm QU) (nm QI) L[k] = (b1 && b2)) := fun b1 b2 h1 h2 => by unfold mt; rw [h1, h2]
          clear hno2 hrow hL2
          generalize L[k] = av at hka hkm q0 q1 q2 q3 q4 ha hat HL HD HM hkb
          obtain ⟨au, ai, asq, adel, aq, am, ad, ays⟩ := av
          obtain ⟨u0, u1', i0, i1, alen, anil⟩ := hka
          dsimp only at u0 u1' i0 i1 alen anil q0 q1 q2 q3 q4 hat hkm hkb
          clear anil hkb
          subst hpo
          have hki : (k : Int) < (no : Int) := by omega
          have hkn : ((k + 1 : Nat) : Int) - 1 = (k : Int) := by omega
          have HA : Hid _ := hans2
          clear hans2 ha hok
          cases hb1 : (nm au).toList == (nm QU).toList with
          | false =>
            have hm : Hid (mt (nm QU) (nm QI) ⟨au, ai, asq, adel, aq, am, ad, ays⟩ = false) := HM.out false _ hb1 rfl
            go_wp2_with (go_at_call 4; refine (name_4 _ _ ‹_› ‹_›).mono ?_; rintro e w' ⟨rfl, rfl⟩)
            go_roundg (k + 1)
            case measure => omega
            case rel => exact ⟨k, by omega, rfl, rfl, by go_num, rfl, HD.out hm.out⟩
          | true =>
            cases hb2 : (nm ai).toList == (nm QI).toList with
            | false =>
              have hm : Hid (mt (nm QU) (nm QI) ⟨au, ai, asq, adel, aq, am, ad, ays⟩ = false) := HM.out true false hb1 hb2
              go_wp2_with (go_at_call 4; refine (name_4 _ _ ‹_› ‹_›).mono ?_; rintro e w' ⟨rfl, rfl⟩)
              go_roundg (k + 1)
              case measure => omega
              case rel => exact ⟨k, by omega, rfl, rfl, by go_num, rfl, HD.out hm.out⟩
            | true =>
              have hm : Hid (mt (nm QU) (nm QI) ⟨au, ai, asq, adel, aq, am, ad, ays⟩ = true) := HM.out true true hb1 hb2
              have hlast : Hid (lastM (nm QU) (nm QI) L = some ⟨au, ai, asq, adel, aq, am, ad, ays⟩) := by
                rcases HL.out with h | h
                · exact h
                · rw [hm.out] at h; cases h
              cases adel with
              | true =>
                obtain rfl := (HA.out.2 _ hlast.out).1 rfl
                clear HL HD HM
                go_wp2_with (go_at_call 4; refine (name_4 _ _ ‹_› ‹_›).mono ?_; rintro e w' ⟨rfl, rfl⟩)
                go_ret
                exact ⟨rfl, hbel2⟩
              | false =>
                obtain ⟨rfl, rfl, rfl, d, g2, c2, rfl, hD, hbytes⟩ := (HA.out.2 _ hlast.out).2 rfl
                clear HL HD HM HA
                have hDl := hD.lt
                simp at hDl
                have hB3 : ∀ o, Below w.heap.size w ((w1.alloc (.cells #[.string (nm QI), .int .u16 y1, .pointer (some ⟨d, 0, none⟩)] 56)).alloc o) := fun o => hbel2.alloc (by simp; omega) o
                have hI3 := fun o => hI.alloc o
                have hD3 := fun o => hD.alloc o
                have hb3 : ∀ o, BytesAt ((w1.alloc (.cells #[.string (nm QI), .int .u16 y1, .pointer (some ⟨d, 0, none⟩)] 56)).alloc o) (some ⟨g2, 0, none⟩) ays := fun o => hbytes.later (bel1 _ o)
                have hq3 : ∀ o, BytesAt ((w1.alloc (.cells #[.string (nm QI), .int .u16 y1, .pointer (some ⟨d, 0, none⟩)] 56)).alloc o) aq ays := fun o => (hat.later ((bel1 _ o).mono (by simp; omega))).at (by simp; omega)
                have d3 := fun o => (hD3 o).cell 0 rfl
                clear hI hD hbytes hat
                go_wp2_with (go_at_call 4; refine (name_4 _ _ ‹_› ‹_›).mono ?_; rintro e w' ⟨rfl, rfl⟩)
                go_region_held3 (fun w' => w'.cell? ⟨w1.heap.size, 0, none⟩ = some (.string (nm QI)) ∧ w'.cell? ⟨w1.heap.size, 1, none⟩ = some (.int .u16 y1) ∧ w'.cell? ⟨w1.heap.size, 2, none⟩ = some (.pointer (some ⟨d, 0, none⟩)) ∧ w'.cell? ⟨d, 0, none⟩ = some (.slice (some ⟨g2, 0, none⟩) am c2) ∧ w'.cell? ⟨w1.heap.size + 1, 2, none⟩ = some (.int .u16 y1) ∧ w'.cell? ⟨w1.heap.size + 1, 4, none⟩ = some (.slice aq am ad)) (go_keep)
                  (first | (go_at_call 8; refine (equal_same (some ⟨g2, 0, none⟩) aq am c2 ad ays _ alen ?_ ?_).mono ?_; exact (hb3 _).later ((Below.refl _ _).drew); exact (hq3 _).later ((Below.refl _ _).drew); rintro e w' ⟨rfl, rfl⟩))
                all_goals
                  go_wp2_with fail
                  go_ret
                  exact ⟨rfl, (hB3 _).drew⟩
end Go.Proofs.Ybulkbaoo.lawS2588CLastApplied

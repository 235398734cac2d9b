/- (*Conn).SendRequest on a connection that is not broken. -/
import Derived.Test.YbulkbaooFmtMsg
namespace Go.Proofs.YbulkbaooFmt
open Go.ChangeShapes Go.WideShapes Go.ChangeAt Go.RowKit
set_option linter.unusedVariables false

/-- Of the blocks of w all but C, R and v's own are in w' as they were. -/
structure Frame3 (w w' : World) (C R : Nat) (v : Value) : Prop where
  os : w'.os = w.os
  tape : w'.tape = w.tape
  output : w'.output = w.output
  size : w.heap.size ≤ w'.heap.size
  block : ∀ k, k < w.heap.size → k ≠ C → k ≠ R → some k ≠ v.ownBlock → w'.heap[k]? = w.heap[k]?

theorem Frame3.below {w w' : World} {C R : Nat} {v : Value} (h : Frame3 w w' C R v) {B : Nat} (hB : B ≤ w.heap.size) (hC : B ≤ C) (hR : B ≤ R) (hv : ∀ k, v.ownBlock = some k → B ≤ k) : Below B w w' :=
  ⟨h.os, h.tape, h.output, h.size, fun k hk => h.block k (by omega) (by omega) (by omega) (fun e => by have := hv k e.symm; omega)⟩

theorem Owns.block {w w' : World} {base : Nat} {v : Value} {n : Nat} {xs : List Int} (h : Owns w base v n xs) (hb : ∀ k, v.ownBlock = some k → w'.heap[k]? = w.heap[k]?) : Owns w' base v n xs := by
  refine ⟨h.1, ?_⟩
  rcases h.2 with hn | ⟨g, cap, cur, rfl, hb', hgg, rest⟩
  · exact .inl hn
  · exact .inr ⟨g, cap, cur, rfl, hb', by rw [hb g rfl]; exact hgg, rest⟩

theorem Owns.other {w : World} {base : Nat} {v : Value} {n : Nat} {xs : List Int} (h : Owns w base v n xs) {a : Addr} (ha : some a.block ≠ v.ownBlock) (u : Value) : Owns (w.setCell a u) base v n xs :=
  h.block fun k hk => Below.heap_setCell _ _ _ _ (fun e => ha (by rw [hk, e]))

theorem AvRow.other {w : World} {po : Option Addr} {v : Value} {L : List Av} (h : AvRow w po v L) {a : Addr} (ha : ∀ g, po = some ⟨g, 0, none⟩ → g ≠ a.block) (u : Value) : AvRow (w.setCell a u) po v L := fun h0 => by
  obtain ⟨g, cur, hp, hB, hne, hc⟩ := h h0
  exact ⟨g, cur, hp, hB.other (ha g hp) u, hne, hc⟩

theorem Box.c9 {w : World} {b : Nat} {a0 a1 a2 a3 a4 a5 a6 a7 a8 : Value} {t : TypeId} (h : Box w b #[a0, a1, a2, a3, a4, a5, a6, a7, a8] t) :
    w.cell? ⟨b, 4, none⟩ = some a4 ∧ w.cell? ⟨b, 5, none⟩ = some a5 ∧ w.cell? ⟨b, 7, none⟩ = some a7 ∧ w.cell? ⟨b, 8, none⟩ = some a8 :=
  ⟨h.cell 4 rfl, h.cell 5 rfl, h.cell 7 rfl, h.cell 8 rfl⟩

/-- The connection's cells. -/
def conn (x y : Int) (q : Value) : Array Value := #[.string ⟨#[]⟩, .string ⟨#[]⟩, .nilIface, .pointer none, .int .u32 x, .int .u32 y, .pointer none, q, .nilIface]
/-- A message's cells. -/
def mess (fl cd ap hh ee : Int) (avs : Value) : Array Value := #[.int .u8 fl, .int .u32 cd, .int .u32 ap, .int .u32 hh, .int .u32 ee, avs]

set_option maxRecDepth 100000 in
set_option maxHeartbeats 1000000 in
theorem send_7 (C R : Nat) (x y fl cd ap hh ee : Int) (po : Option Addr) (no co : Nat) (L : List Av) (p : Option Addr) (n c : Nat) (xs : List Int) (w : World) (B : Nat)
    (k0 : 0 ≤ cd) (k1 : cd ≤ 4294967295) (k2 : 0 ≤ ap) (k3 : ap ≤ 4294967295) (k4 : 0 ≤ fl) (k5 : fl ≤ 255) (k6 : 0 ≤ x) (k7 : x ≤ 4294967295) (k8 : 0 ≤ y) (k9 : y ≤ 4294967295)
    (hC : Box w C (conn x y (.slice p n c)) 39) (hR : Box w R (mess fl cd ap hh ee (.slice po no co)) 43) (hCR : C ≠ R) (hBC : B ≤ C) (hBR : B ≤ R)
    (hneC : some C ≠ (Value.slice p n c).ownBlock) (hneR : some R ≠ (Value.slice p n c).ownBlock)
    (hown : Owns w B (.slice p n c) n xs) (hn : n ≤ 100000000) (hB : B ≤ w.heap.size)
    (hL : AvRow w po (.slice p n c) L) (hpo : ∀ g, po = some ⟨g, 0, none⟩ → g ≠ C ∧ g ≠ R) (hno : L.length = no) (hno1 : no ≤ 1024) (hok : ∀ a ∈ L, a.ok ∧ BytesUnder B w a.q a.ys) (hbig : 20 + (L.flatMap Av.enc).length ≤ 16777215) :
    Calls Ybaf.prog 7 #[.pointer (some ⟨C, 0, none⟩), .pointer (some ⟨R, 0, none⟩)] w fun e w' => e = .returned .nilIface ∧ ∃ p' n' c',
      Box w' C (conn ((x + 1) % 4294967296) ((y + 1) % 4294967296) (.slice p' n' c')) 39 ∧ Box w' R (mess fl cd ap x y (.slice po no co)) 43 ∧
      Owns w' B (.slice p' n' c') n' (xs ++ encM fl cd ap x y L) ∧ Frame3 w w' C R (.slice p n c) ∧
      ((Value.slice p' n' c').ownBlock = (Value.slice p n c).ownBlock ∨ ∃ k, (Value.slice p' n' c').ownBlock = some k ∧ w.heap.size ≤ k) := by
  unfold conn at hC
  unfold mess at hR
  obtain ⟨s4, s5, s7, s8⟩ := hC.c9
  obtain ⟨t0, t1, t2, t3, t4, t5⟩ := hR.c6
  have f4 := hC.free 4
  have f5 := hC.free 5
  have f7 := hC.free 7
  have g3 := hR.free 3
  have g4 := hR.free 4
  go_enter Ybaf.func7, Ybaf.ntmps7
  go_wp2_with fail
  refine (stamp C 4 R x y _ _ w hCR s4 s5 t3 t4 f4 f5 g3 g4).mono ?_
  rintro e w' ⟨rfl, rfl⟩
  generalize hW : ((((w.setCell ⟨R, 3, none⟩ (.int .u32 x)).setCell ⟨R, 4, none⟩ (.int .u32 y)).setCell ⟨C, 4, none⟩ (.int .u32 ((x + 1) % 4294967296))).setCell ⟨C, 4 + 1, none⟩ (.int .u32 ((y + 1) % 4294967296))).drew = w1
  have hC1 : Box w1 C (conn ((x + 1) % 4294967296) ((y + 1) % 4294967296) (.slice p n c)) 39 := by
    subst hW
    exact Box.drew (((hC.other hCR _).other hCR _).set 4 _ |>.set 5 _)
  have hR1 : Box w1 R (mess fl cd ap x y (.slice po no co)) 43 := by
    subst hW
    exact Box.drew (((hR.set 3 _).set 4 _).other (fun e => hCR e.symm) _ |>.other (fun e => hCR e.symm) _)
  have hown1 : Owns w1 B (.slice p n c) n xs := by
    subst hW
    exact Owns.drew ((((hown.other hneR _).other hneR _).other hneC _).other hneC _)
  have hL1 : AvRow w1 po (.slice p n c) L := by
    subst hW
    exact (((hL.other (fun g e => (hpo g e).2) _).other (fun g e => (hpo g e).2) _).other (fun g e => (hpo g e).1) _).other (fun g e => (hpo g e).1) _
  have hbel : Below B w w1 := by
    subst hW
    exact ((((Below.refl B w).setCell hBR _).setCell hBR _).setCell hBC _ |>.setCell hBC _).drew
  have hfr : Frame3 w w1 C R (.slice p n c) := by
    subst hW
    refine ⟨rfl, rfl, rfl, by simp [World.setCell], fun k hk h1 h2 h3 => ?_⟩
    show (World.setCell _ _ _).heap[k]? = _
    rw [Below.heap_setCell _ _ _ _ h1, Below.heap_setCell _ _ _ _ h1, Below.heap_setCell _ _ _ _ h2, Below.heap_setCell _ _ _ _ h2]
  have hok1 : ∀ a ∈ L, a.ok ∧ BytesUnder B w1 a.q a.ys := fun a ha => ⟨(hok a ha).1, (hok a ha).2.later hbel⟩
  have hz1 : B ≤ w1.heap.size := Nat.le_trans hB hbel.size
  clear hW s4 s5 s7 s8 t0 t1 t2 t3 t4 t5 f4 f5 f7 g3 g4 hC hR hown hL hok
  obtain ⟨s4, s5, s7, s8⟩ := hC1.c9
  go_wp2_with fail
  refine (msg_11 R fl cd ap x y po no co L p n c xs w1 B k0 k1 k2 k3 k4 k5 k6 k7 k8 k9 hR1 hneR hown1 hn hz1 hL1 hno hno1 hok1 hbig).mono ?_
  rintro e w2 ⟨p2, n2, c2, rfl, hown2, happ2, hc2⟩
  obtain ⟨hC2, hneC2⟩ := hC1.app hneC happ2
  obtain ⟨hR2, hneR2⟩ := hR1.app hneR happ2
  obtain ⟨s4, s5, s7, s8⟩ := hC2.c9
  have f7 := hC2.free 7
  clear hL1 hok1 hbig hno1
  go_wp2
  go_ret
  refine ⟨rfl, p2, n2, c2, hC2.set 7 _, hR2.other (fun e => hCR e.symm) _, hown2.other hneC2 _, ⟨happ2.grew.os.trans hfr.os, happ2.grew.tape.trans hfr.tape, happ2.grew.output.trans hfr.output, ?_, fun k hk h1 h2 h3 => ?_⟩, ?_⟩
  · exact Nat.le_trans hfr.size (Nat.le_trans happ2.grew.size (by simp [World.setCell]))
  · rw [Below.heap_setCell _ _ _ _ h1, happ2.grew.block k (Nat.lt_of_lt_of_le hk hfr.size) h3, hfr.block k hk h1 h2 h3]
  · rcases happ2.lies with h | ⟨k, h, hk⟩
    · exact .inl h
    · exact .inr ⟨k, h, Nat.le_trans hfr.size hk⟩

end Go.Proofs.YbulkbaooFmt

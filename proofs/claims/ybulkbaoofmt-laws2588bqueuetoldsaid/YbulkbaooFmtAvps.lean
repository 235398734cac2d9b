/- zzs2588bavps. -/
import Derived.Test.YbulkbaooFmtEnc
namespace Go.Proofs.YbulkbaooFmt
open Go.ChangeShapes Go.WideShapes Go.ChangeAt Go.RowKit
set_option linter.unusedVariables false

theorem info56 : (Ybaf.prog.info? 56).map (fun i => (i.zero, i.size, i.bytes)) = some (some (.agg #[.int .u32 0, .int .u8 0, .int .u32 0, .slice none 0 0]), 4, 40) := by kernel_rfl

def Av.cells (a : Av) : List Value := [.int .u32 a.cd, .int .u8 a.fl, .int .u32 a.vi, .slice a.q a.m a.d]

theorem cells_new (w : World) (b : Nat) (hb : w.heap.size = b) (vs : List Value) (t : TypeId) : ∀ j u, vs[j]? = some u → (w.alloc (.cells vs.toArray t)).cell? ((⟨b, 0, none⟩ : Addr).add j) = some u := by
  intro j u hu
  subst hb
  have hbx := Box.new w vs.toArray t
  rw [Go.WideShapes.add_plain, Nat.zero_add]
  exact hbx.cell j (by simpa using hu)

set_option maxRecDepth 100000 in
set_option maxHeartbeats 1000000 in
theorem avps_6 (pa : Option Addr) (no ca : Nat) (L : List Av) (w : World) (B : Nat) (hB : B ≤ w.heap.size) (hL : InRow B w pa L) (hno : L.length = no) (hno1 : no ≤ 1024) :
    Calls Ybaf.prog 6 #[.slice pa no ca] w fun e w' => ∃ v, e = .returned v ∧ w'.ownsRow w.heap.size 56 4 v no (L.flatMap Av.cells) ∧ Below w.heap.size w w' := by
  obtain ⟨i56, hi, hz, hs, hby⟩ := info_parts info56
  go_enter Ybaf.func6, Ybaf.ntmps6
  go_wp2_with fail
  go_loopg [3, 4] L.length (fun gk v i wr => ∃ (k : Nat), gk + k = L.length ∧ i = .int .i64 (k : Int) ∧ wr.ownsRow w.heap.size 56 4 v k ((L.take k).flatMap Av.cells) ∧ Below w.heap.size w wr)
  case atStart => exact ⟨0, rfl, rfl, World.ownsRow_nil _ _ _ _, Below.refl _ _⟩
  case round =>
    obtain ⟨k, hk, rfl, hown, hbel⟩ := hrel
    have hzr : w.heap.size ≤ wr.heap.size := hbel.size
    by_cases hlt : k < L.length
    · have ha : L[k]? = some L[k] := List.getElem?_eq_getElem hlt
      have hL' := hL.later (hbel.mono hB)
      obtain ⟨g, og, hpo, hgB, hcur⟩ := hL' (by intro h; rw [h] at hlt; simp at hlt)
      obtain ⟨q0, q1, q2, q3⟩ := hcur k _ ha
      have hfm : (L.take (k + 1)).flatMap Av.cells = (L.take k).flatMap Av.cells ++ L[k].cells := by
        rw [List.take_succ_eq_append_getElem hlt, List.flatMap_append]; simp
      have HF := show Hid _ from hfm
      clear hfm
      generalize L[k] = av at HF q0 q1 q2 q3 ha
      obtain ⟨acd, afl, avi, aq, am, ad, ays⟩ := av
      dsimp only at q0 q1 q2 q3
      subst hpo
      clear hcur hL' hL
      have hki : (k : Int) < (no : Int) := by omega
      have hgl : g < wr.heap.size := by omega
      have hgl' : g < wr.heap.size + 1 := by omega
      go_wp2_with (at_builtin; go_must (refine wpList_append_own _ rfl _ _ 41 rfl w.heap.size 56 i56 _ 4 40 Ybaf.underlying41 hi hz hs hby rfl (by omega) _ k _ rfl ((hown.alloc _).alloc _) ⟨wr.heap.size + 1, 0, none⟩ 1 1 [.int .u32 acd, .int .u8 afl, .int .u32 avi, .slice aq am ad] rfl rfl ?c1 ?c2 (by simp only [maxLen]; omega) (by omega) (by simp; omega) ?K))
      case c2 => intro u hu; simp at hu; rcases hu with rfl | rfl | rfl | rfl <;> rfl
      case c1 => exact cells_new (wr.alloc _) _ (by simp) _ 56
      intro v' w1 hown1 hg1 hnil
      go_wp2_with fail
      go_roundg (gk - 1)
      case measure => omega
      case rel =>
        refine ⟨k + 1, by omega, by go_num, ?_, ?_⟩
        · rw [HF.out]; exact hown1
        · exact (((hbel.alloc hzr _).alloc (by simp; omega) _).grown hg1 (by simp; omega) (fun b hb => (hown.lt b hb).1))
    · have hke : k = no := by omega
      go_wp2
      go_ret
      rw [List.take_of_length_le (by omega)] at hown
      exact ⟨_, rfl, by rw [← hke]; exact hown, hbel⟩

end Go.Proofs.YbulkbaooFmt

/- (*Startup).of, (*startupRound).hold. -/
import Derived.Test.YbulkbapcBase
namespace Go.Proofs.Ybulkbapc
open Go.ChangeShapes Go.WideShapes Go.ChangeAt Go.RowKit
set_option linter.unusedVariables false

/-- The cells of a Startup. -/
def sc (n f self rd ph : Int) (adj M sb m : Nat) : Array Value :=
  #[.int .i64 n, .int .i64 f, .float .f64 0, .float .f64 0, .float .f64 0, .float .f64 0, .float .f64 0, .float .f64 0, .int .i64 self, .int .i64 0, .int .i64 rd, .int .u8 ph, .float .f64 0, .float .f64 adj, .map (some M), .slice (some ⟨sb, 0, none⟩) m m]

/-- The cells of a startupRound. -/
def rc (c0 c1 c2 m : Nat) (cnt : Int) : Array Value :=
  #[.slice (some ⟨c0, 0, none⟩) m m, .slice (some ⟨c1, 0, none⟩) m m, .slice (some ⟨c2, 0, none⟩) m m, .int .i64 cnt]

theorem of_9 (S C : Nat) (n f self rd ph : Int) (adj M sb m k : Nat) (g : Lit → Option Value) (w : World) (r0 : -9223372036854775808 ≤ rd) (r1 : rd ≤ 9223372036854775807)
    (hS : Box w S (sc n f self rd ph adj M sb m) 36) (hM : HasMap Yba.prog 2 w M k g) (hg : g (kl rd) = some (.pointer (some ⟨C, 0, none⟩))) :
    Calls Yba.prog 9 #[.pointer (some ⟨S, 0, none⟩), .int .i64 rd] w fun e w' => e = .returned (.pointer (some ⟨C, 0, none⟩)) ∧ w' = w := by
  have hl := hM.look (t := 34) (e := 26) law2 Yba.underlying34 (zero26 w) (key_ok rd r0 r1)
  rw [hg] at hl
  have c14 : w.cell? ⟨S, 14, none⟩ = some (.map (some M)) := hS.cell 14 rfl
  go_enter Yba.func9, Yba.ntmps9
  go_wp2
  go_ret
  exact ⟨rfl, rfl⟩

theorem hold_10 (C c0 c1 c2 m : Nat) (cnt : Int) (q : Nat) (bs : List Bool) (x : Bool) (w : World) (hC : Box w C (rc c0 c1 c2 m cnt) 29) (hB : Box w c2 (bools bs) 4) (hx : bs[q]? = some x) (hm : bs.length = m) (h0 : 0 ≤ cnt) (h1 : cnt ≤ 1000) (hmm : m ≤ 1000) :
    Calls Yba.prog 10 #[.pointer (some ⟨C, 0, none⟩), .int .i64 q] w fun e w' => e = .returned (.tuple #[]) ∧ Box w' C (rc c0 c1 c2 m (if x = true then cnt else cnt + 1)) 29 ∧ Box w' c2 (bools (bs.set q true)) 4 ∧ But (fun k => k = C ∨ k = c2) w w' := by
  have hq : q < m := by have := (List.getElem?_eq_some_iff.1 hx).1; omega
  have hqi : (q : Int) < (m : Int) := by omega
  have d2 : w.cell? ⟨C, 2, none⟩ = some (.slice (some ⟨c2, 0, none⟩) m m) := hC.cell 2 rfl
  have d3 : w.cell? ⟨C, 3, none⟩ = some (.int .i64 cnt) := hC.cell 3 rfl
  have dq : w.cell? ⟨c2, q, none⟩ = some (.bool x) := hB.cell q (bools_at hx)
  have fq := hB.free q
  have f3 := hC.free 3
  have hne : C ≠ c2 := hC.ne hB (by decide)
  have hC1 := hC.other (a := ⟨c2, q, none⟩) hne (.bool true)
  have e2 : (w.setCell ⟨c2, q, none⟩ (.bool true)).cell? ⟨C, 2, none⟩ = some (.slice (some ⟨c2, 0, none⟩) m m) := hC1.cell 2 rfl
  have e3 : (w.setCell ⟨c2, q, none⟩ (.bool true)).cell? ⟨C, 3, none⟩ = some (.int .i64 cnt) := hC1.cell 3 rfl
  have g3 := hC1.free 3
  cases x with
  | true =>
    go_enter Yba.func10, Yba.ntmps10
    go_wp2
    go_end0
    refine ⟨rfl, hC, ?_, But.refl _ _⟩
    rw [show bs.set q true = bs from ?_]; exact hB
    apply List.ext_getElem?
    intro i
    by_cases e : q = i
    · subst e; rw [List.getElem?_set_self (by omega), hx]
    · rw [List.getElem?_set_ne e]
  | false =>
    go_enter Yba.func10, Yba.ntmps10
    go_wp2
    go_end0
    refine ⟨rfl, ?_, ?_, ?_⟩
    · exact hC1.set 3 (.int .i64 (cnt + 1))
    · have := (hB.set q (.bool true)).other (a := ⟨C, 3, none⟩) (fun e => hne e.symm) (.int .i64 (cnt + 1))
      rw [bools_set] at this
      exact this
    · exact ((But.refl _ w).setCell (.inr rfl) _).setCell (.inl rfl) _

end Go.Proofs.Ybulkbapc

/-
  The law past its bound: it answers true at once.
-/
import Derived.Test.YbulkecgoDoorOpen
import Derived.Deep.CutRange
import Derived.BigRegion
namespace Go.Proofs.YbulkecgoDoor
open Go.RowKit Go.Shelf _root_.Go.Proofs.YbulkecgoDoor.Own
set_option linter.unusedVariables false
set_option maxRecDepth 100000
set_option maxHeartbeats 1000000 in
theorem law_big (w : World) (va ia0 ea0 pa0 : Option Addr) (n vc C ic X ec Y pc : Nat) (sc : Int) (lim S O Z : Int) (h : 65536 < n ∨ 65536 < C ∨ 65536 < X ∨ 65536 < Y) :
    Calls Ybad.prog 4 #[.slice va n vc, .int .u8 sc, .int .i64 lim, .agg #[.slice ia0 C ic, .slice ea0 X ec, .slice pa0 Y pc, .int .i64 S, .int .i64 O, .int .i64 Z]] w
      fun e w' => e = .returned (.bool true) ∧ Below w.heap.size w w' := by
  by_cases h1 : 65536 < n
  · have q1 : (65536 : Int) < n := by omega
    go_enter Ybad.func4, Ybad.ntmps4
    go_wp2_with fail
    go_ret
    exact ⟨rfl, (Below.refl _ w).alloc (Nat.le_refl _) _⟩
  · have q1 : ¬ (65536 : Int) < n := by omega
    by_cases h2 : 65536 < C
    · have q2 : (65536 : Int) < C := by omega
      go_enter Ybad.func4, Ybad.ntmps4
      go_wp2_with fail
      go_ret
      exact ⟨rfl, (Below.refl _ w).alloc (Nat.le_refl _) _⟩
    · have q2 : ¬ (65536 : Int) < C := by omega
      by_cases h3 : 65536 < X
      · have q3 : (65536 : Int) < X := by omega
        go_enter Ybad.func4, Ybad.ntmps4
        go_wp2_with fail
        go_ret
        exact ⟨rfl, (Below.refl _ w).alloc (Nat.le_refl _) _⟩
      · have q3 : ¬ (65536 : Int) < X := by omega
        have q4 : (65536 : Int) < Y := by omega
        go_enter Ybad.func4, Ybad.ntmps4
        go_wp2_with fail
        go_ret
        exact ⟨rfl, (Below.refl _ w).alloc (Nat.le_refl _) _⟩
end Go.Proofs.YbulkecgoDoor

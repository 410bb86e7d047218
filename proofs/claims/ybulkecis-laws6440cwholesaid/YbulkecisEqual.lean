/-
  slices.Equal at []int: two slices that own the same numbers are equal.
-/
import Derived.Test.YbulkecisOwn
import Derived.Test.YbulkecisRows
import Derived.BigQuiet
import Derived.Deep.QuietTactic
namespace Go.Proofs.Ybulkecis
open Go.RowKit Own
set_option linter.unusedVariables false
set_option maxHeartbeats 400000 in
theorem equal_none (a1 a2 : Option Addr) (c1 c2 : Nat) (w : World) :
    Calls Yba.prog 15 #[.slice a1 0 c1, .slice a2 0 c2] w fun e w' => e = .returned (.bool true) ∧ ∃ n, w' = w.drewN n := by
  go_enter Yba.func15, Yba.ntmps15
  go_wp2_with fail
  refine wp_loop_rounds 1 ?_
  rw [rounds_succ]
  go_wp2
  go_ret
  exact ⟨rfl, 0, rfl⟩
set_option maxHeartbeats 400000 in
theorem equal_some (g1 g2 n c1 c2 : Nat) (xs : List Int) (w : World) (hn : n = xs.length) (h1 : n ≤ c1) (h2 : n ≤ c2) (hm : n ≤ 1000000)
    (H1 : Hid (OwnV w 3 (.slice (some ⟨g1, 0, none⟩) n c1) (xs.map (Value.int .i64)))) (H2 : Hid (OwnV w 3 (.slice (some ⟨g2, 0, none⟩) n c2) (xs.map (Value.int .i64)))) :
    Calls Yba.prog 15 #[.slice (some ⟨g1, 0, none⟩) n c1, .slice (some ⟨g2, 0, none⟩) n c2] w fun e w' => e = .returned (.bool true) ∧ ∃ n, w' = w.drewN n := by
  have HE : Hid (n = xs.length) := hn
  clear hn
  go_enter Yba.func15, Yba.ntmps15
  go_wp2_with fail
  go_loopw [13] (fun i wr => ∃ k m : Nat, k ≤ n ∧ i = .int .i64 k ∧ wr = w.drewN m) (fun i _ => n - (intOf i).toNat)
  case atStart => exact ⟨0, 0, by omega, rfl, rfl⟩
  case round =>
    obtain ⟨k, m, hk, rfl, rfl⟩ := hrel
    by_cases hkl : k < n
    · have e1 : w.cell? ⟨g1, k, none⟩ = some (.int .i64 (xs.getD k 0)) := by
        rw [H1.out.cell (by simp [← HE.out]) (by simp [← HE.out, hkl])]
        have : k < xs.length := by rw [← HE.out]; exact hkl
        simp [this]
      have e2 : w.cell? ⟨g2, k, none⟩ = some (.int .i64 (xs.getD k 0)) := by
        rw [H2.out.cell (by simp [← HE.out]) (by simp [← HE.out, hkl])]
        have : k < xs.length := by rw [← HE.out]; exact hkl
        simp [this]
      go_wp2
      go_quiet (fail)
      go_wp2
      go_roundw
      case rel => exact ⟨k + 1, _, by omega, by go_num, rfl⟩
      case measure => simp [intOf]; omega
    · go_wp2
      go_ret
      exact ⟨rfl, _, rfl⟩
theorem equal_same (v1 v2 : Value) (xs : List Int) (w : World) (hm : xs.length ≤ 1000000) (H1 : OwnV w 3 v1 (xs.map (Value.int .i64))) (H2 : OwnV w 3 v2 (xs.map (Value.int .i64))) :
    Calls Yba.prog 15 #[v1, v2] w fun e w' => e = .returned (.bool true) ∧ ∃ n, w' = w.drewN n := by
  by_cases h0 : xs.length = 0
  · obtain ⟨a1, c1, e1⟩ := H1.form'
    obtain ⟨a2, c2, e2⟩ := H2.form'
    rw [List.length_map, h0] at e1 e2
    subst e1 e2
    exact equal_none a1 a2 c1 c2 w
  · rcases H1.form with ⟨_, h⟩ | ⟨g1, c1, e1, _, l1, _⟩
    · exact absurd (by simpa using congrArg List.length h) h0
    · rcases H2.form with ⟨_, h⟩ | ⟨g2, c2, e2, _, l2, _⟩
      · exact absurd (by simpa using congrArg List.length h) h0
      · rw [List.length_map] at e1 e2 l1 l2
        subst e1 e2
        exact equal_some g1 g2 xs.length c1 c2 xs w rfl l1 l2 hm H1 H2
end Go.Proofs.Ybulkecis

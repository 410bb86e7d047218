/-
  slices.Grow at []int64.
-/
import Derived.Test.YbulkecgoDoorDlen
import Derived.Laws.AppendOwn
import Derived.OwnWalk
namespace Go.Proofs.YbulkecgoDoor
open Go.RowKit Go.Shelf
set_option linter.unusedVariables false
set_option maxRecDepth 100000

theorem zeroCells_one (z : Value) (n : Nat) : Builtin.zeroCells #[z] n = Array.replicate n z := by
  unfold Builtin.zeroCells
  apply Array.ext
  · simp
  · intro i h1 h2
    simp [Nat.mod_one]

theorem info2 : (Ybad.prog.info? 2).map (fun i => (i.zero, i.size, i.bytes)) = some (some (.int .i64 0), 1, 8) := by kernel_rfl

/-- append of n zeros that does not fit. -/
theorem run_append_zeros (w : World) (ty : TypeId) (base : Option Addr) (L : Nat) (olds : List Value) (hlo : olds.length = L) (hnone : base = none → L = 0) (holds : ∀ a, base = some a → ∀ j v, olds[j]? = some v → w.cell? (a.add j) = some v)
    (n : Nat) (hn0 : 0 < n) (hn : L + n ≤ 1048576) :
    (Builtin.append_ #[24, 3] ty #[.slice base L L, .int .i64 n]).run Ybad.prog w =
      .ok (.slice (some ⟨w.heap.size, 0, none⟩) (L + n) (grownCap w (L + n) L 2)) (w.drew.alloc (.cells (olds.toArray ++ Array.replicate n (Value.int .i64 0) ++ Array.replicate (grownCap w (L + n) L 2 - (L + n)) (Value.int .i64 0)) 2)) := by
  obtain ⟨i0, hi, hz, hs, hb⟩ := info_parts info2
  have h1 : ¬ (L + n ≤ L) := by omega
  have h63 : ¬ (9223372036854775807 < ((L : Int) + (n : Int))) := by omega
  have hfit := growslice_fits (need := L + n) (old := L) (bytes := i0.bytes) (by omega) (by rw [hb]; omega)
  have h48 : ¬ (281474976710656 < Builtin.nextslicecap (L + n) L * i0.bytes) := by omega
  have hw : IntKind.i64.wrap (n : Int) = (n : Int) := by rw [i64wrap]; unfold wrap64; omega
  have hneg : ¬ ((n : Int) < 0) := by omega
  have h8 : ¬ (281474976710656 < (n : Int) * ((i0.bytes : Nat) : Int)) := by rw [hb]; omega
  have hn1 : n ≠ 0 := by omega
  have hzc : ∀ k, Builtin.zeroCells (Value.int IntKind.i64 0).cells k = Array.replicate k (Value.int .i64 0) := fun k => zeroCells_one _ k
  have hfo : (Builtin.firstCells 1 L (.slice base L L)).run Ybad.prog w.drew = .ok olds.toArray w.drew := by
    cases base with
    | none =>
      have hL := hnone rfl
      have : olds = [] := List.eq_nil_of_length_eq_zero (by omega)
      subst this
      rfl
    | some a => exact run_firstCells_some (P := Ybad.prog) w.drew 1 L a L L olds (by simpa using hlo) (by simpa using holds a rfl)
  simp [Builtin.append_, run_underlying Ybad.underlying24, run_underlying Ybad.underlying3, sizeOf, typeInfo, zeroValue, hi, hz, hs, asInt, asIntOf, hw, hneg, h8, hn1, h1, h63, h48, Question.forced, hfo, newRow, grownCap, hzc]

theorem wpList_append_zeros {w : World} {ops : Array Oper} {rest : List Oper} {o : Oper} {a : Act} {Q : Exit → Act → World → Prop} (hgd : o.guard = none) (s x : Operand)
    (ho : o.op = .call { callee := .builtin .append, args := #[s, x], argTypes := #[24, 3] })
    (base : Option Addr) (L : Nat) (olds : List Value) (hs : a.eval s = .slice base L L) (hlo : olds.length = L) (hnone : base = none → L = 0) (holds : ∀ a, base = some a → ∀ j v, olds[j]? = some v → w.cell? (a.add j) = some v)
    (n : Nat) (hx : a.eval x = .int .i64 n) (hn0 : 0 < n) (hn : L + n ≤ 1048576)
    (h : wpList Ybad.prog ops Q rest (a.put o.dst (.slice (some ⟨w.heap.size, 0, none⟩) (L + n) (grownCap w (L + n) L 2))) (w.drew.alloc (.cells (olds.toArray ++ Array.replicate n (Value.int .i64 0) ++ Array.replicate (grownCap w (L + n) L 2 - (L + n)) (Value.int .i64 0)) 2))) :
    wpList Ybad.prog ops Q (o :: rest) a w := by
  refine wpList_plain hgd fun K hK => ?_
  have hr := run_append_zeros w o.type base L olds hlo hnone holds n hn0 hn
  unfold Oper.wp execOp
  simp only [ho, resolve, invoke, builtin, Sem.run_bind, Sem.run_pure, Result.andThen_ok, List.map_toArray, List.map_cons, List.map_nil, hs, hx, hr]
  exact hK _ _ h

set_option maxHeartbeats 1000000 in
theorem grow_keeps (a0 : Option Addr) (C n : Nat) (w : World) (hC : C ≤ 65536) (hn : n ≤ C) :
    Calls Ybad.prog 21 #[.slice a0 0 C, .int .i64 n] w fun e w' => e = .returned (.slice a0 0 C) ∧ w' = w := by
  have h1 : (n : Int) ≤ C := by omega
  have h2 : (0 : Int) ≤ n := by omega
  have h3 : ¬ (0 : Int) < (n : Int) - (C : Int) := by omega
  go_enter Ybad.func21, Ybad.ntmps21
  go_wp2_with fail
  go_ret
  exact ⟨rfl, rfl⟩

theorem zz_eq (olds : List Value) (k : Nat) : olds.toArray ++ Array.replicate k (Value.int .i64 0) = (olds ++ List.replicate k (Value.int .i64 0)).toArray := by simp

set_option maxHeartbeats 1000000 in
theorem grow_grows (a0 : Option Addr) (C n : Nat) (olds : List Value) (w : World) (hlo : olds.length = C) (hnone : a0 = none → C = 0) (holds : ∀ a, a0 = some a → ∀ j v, olds[j]? = some v → w.cell? (a.add j) = some v) (hC : C < n) (hn : n ≤ 65536) :
    Calls Ybad.prog 21 #[.slice a0 0 C, .int .i64 n] w fun e w' => ∃ cap, n ≤ cap ∧ cap ≤ maxLen ∧ e = .returned (.slice (some ⟨w.heap.size, 0, none⟩) 0 cap) ∧ w' = w.drew.alloc (.cells (olds ++ List.replicate (cap - C) (Value.int .i64 0)).toArray 2) := by
  have h1 : (C : Int) < n := by omega
  have h2 : (0 : Int) ≤ n := by omega
  have h3 : (0 : Int) < (n : Int) - (C : Int) := by omega
  have h4 : (n : Int) - (C : Int) = ((n - C : Nat) : Int) := by omega
  have HO := (show Hid _ from holds)
  have HN := (show Hid _ from hnone)
  clear holds hnone
  have e1 : C + (n - C) = n := by omega
  have HG1 := (show Hid _ from grownCap_ge w n C 2)
  have HG2 := (show Hid _ from grownCap_le_maxLen w n C 2 (by unfold maxLen; omega))
  have hG3 : (0 : Int) ≤ grownCap w n C 2 := by omega
  cases a0 with
  | none =>
    obtain rfl : C = 0 := HN.out rfl
    go_enter Ybad.func21, Ybad.ntmps21
    go_wp2_with (at_builtin; refine wpList_append_zeros rfl _ _ rfl none 0 olds rfl hlo (fun _ => rfl) HO.out (n - 0) (by first | rfl | simp) (by omega) (by omega) ?_)
    go_ret
    refine ⟨_, HG1.out, HG2.out, rfl, ?_⟩
    have := HG1.out
    have e : n + (grownCap w n 0 2 - n) = grownCap w n 0 2 := by omega
    rw [← zz_eq olds]
    first | rw [e] | (rw [show n - 0 + (grownCap w n 0 2 - n) = grownCap w n 0 2 - 0 by omega]; rfl)
  | some a =>
    go_enter Ybad.func21, Ybad.ntmps21
    go_wp2_with (at_builtin; refine wpList_append_zeros rfl _ _ rfl (some a) C olds rfl hlo (fun h => by cases h) HO.out (n - C) (by first | rfl | simp) (by omega) (by omega) ?_)
    go_ret
    refine ⟨_, HG1.out, HG2.out, rfl, ?_⟩
    have := HG1.out
    rw [← zz_eq olds, show grownCap w n C 2 - C = n - C + (grownCap w n C 2 - n) by omega]
    rfl
end Go.Proofs.YbulkecgoDoor

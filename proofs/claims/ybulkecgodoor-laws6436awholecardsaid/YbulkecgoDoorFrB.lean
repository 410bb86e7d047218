/-
  A frame's bytes.
-/
import Derived.Test.YbulkecgoDoorBytes
import Derived.Test.YbulkecgoDoorLens
namespace Go.Proofs.YbulkecgoDoor
open Go.RowKit Go.Shelf _root_.Go.Proofs.YbulkecgoDoor.Own
set_option linter.unusedVariables false
set_option maxRecDepth 100000

/-- The first i values of a frame as a number. -/
def pX (D : Nat → Int) (lo : Int) (wd : Nat) : Nat → Nat
  | 0 => 0
  | i + 1 => pX D lo wd i * 2 ^ wd + (D i - lo).toNat
/-- A frame's bytes. -/
def frB (D : Nat → Int) (n : Nat) : List Nat := uvB (zg (mnF D (n - 1))) ++ [frameW D n] ++ pk (pX D (mnF D (n - 1)) (frameW D n) n) (frameW D n * n)
theorem frB_len (D : Nat → Int) (n : Nat) : (frB D n).length = frameL D n := by
  unfold frB frameL
  rw [List.length_append, List.length_append, uvB_len _ _ (Nat.le_refl _), pk_len]
  simp
theorem bl_pow : ∀ (k n : Nat), n < 2 ^ k → n < 2 ^ bl n
  | 0, n, h => by
    obtain rfl : n = 0 := by omega
    rw [bl_zero]; omega
  | k + 1, n, h => by
    by_cases h0 : n = 0
    · subst h0; rw [bl_zero]; omega
    · rw [bl_pos h0, Nat.add_comm, Nat.pow_succ]
      have := bl_pow k (n / 2) (by rw [Nat.pow_succ] at h; omega)
      omega
theorem frame_val {n : Nat} {D : Nat → Int} (hI : I64 n D) {i : Nat} (hi : i < n) : (D i - mnF D (n - 1)).toNat < 2 ^ frameW D n ∧ 0 ≤ D i - mnF D (n - 1) ∧ D i - mnF D (n - 1) < 18446744073709551616 := by
  have hmn : ∀ j, i ≤ j → mnF D j ≤ D i := by
    intro j hj
    induction j with
    | zero => obtain rfl : i = 0 := by omega
              exact Int.le_refl _
    | succ j ih =>
      rw [mnF_succ]
      by_cases h : i ≤ j
      · exact Int.le_trans (Int.min_le_left _ _) (ih h)
      · obtain rfl : i = j + 1 := by omega
        exact Int.min_le_right _ _
  have hmx : ∀ j, i ≤ j → D i ≤ mxF D j := by
    intro j hj
    induction j with
    | zero => obtain rfl : i = 0 := by omega
              exact Int.le_refl _
    | succ j ih =>
      rw [mxF_succ]
      by_cases h : i ≤ j
      · exact Int.le_trans (ih h) (Int.le_max_left _ _)
      · obtain rfl : i = j + 1 := by omega
        exact Int.le_max_right _ _
  have h1 := hmn (n - 1) (by omega)
  have h2 := hmx (n - 1) (by omega)
  have h3 := mnF_in hI (n - 1) (by omega)
  have h4 := mxF_in hI (n - 1) (by omega)
  refine ⟨?_, by omega, by omega⟩
  unfold frameW
  have h5 := bl_pow 64 (mxF D (n - 1) - mnF D (n - 1)).toNat (by omega)
  omega

theorem Bf.row {w w' : World} {v v' : Value} {bs : List Nat} (h : Bf w w' v v' bs) {b o n : Nat} {D : Nat → Int} (hr : Row w b o n D) (hb : v.ownBlock ≠ some b) : Row w' b o n D := fun i hi => by
  have hc := hr i hi
  rw [← hc]
  have := h.onl.block b (World.block_lt_of_cell? w _ hc) hb
  simp only [World.cell?]
  rw [this]
theorem u64_wrap64 {d : Nat} (h : d < 18446744073709551616) : IntKind.u64.wrap (wrap64 (d : Int)) = (d : Int) := by
  by_cases h1 : d < 9223372036854775808
  · have e : wrap64 (d : Int) = (d : Int) := by unfold wrap64; omega
    rw [e, IntKind.wrap_u64]; omega
  · have e : wrap64 (d : Int) = (d : Int) - 18446744073709551616 := by unfold wrap64; omega
    rw [e, IntKind.wrap_u64]; omega
theorem one_cell' {w : World} {z : Int} {b : Nat} (hz : z = (b : Int)) : ∀ j, j < 1 → (w.alloc (.cells #[.int .u8 z] 5)).cell? ⟨w.heap.size, j, none⟩ = some (.int .u8 (([b].getD j 0 : Nat) : Int)) := by
  intro j hj
  obtain rfl : j = 0 := by omega
  subst hz
  simp
end Go.Proofs.YbulkecgoDoor

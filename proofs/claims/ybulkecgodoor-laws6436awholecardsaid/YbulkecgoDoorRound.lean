/-
  math.Round, math.Pow10, scaled numbers.
-/
import Derived.Test.YbulkecgoDoorWhole
import Derived.BigRegion
namespace Go.Proofs.YbulkecgoDoor
open Go.RowKit Go.Shelf
set_option linter.unusedVariables false
set_option maxRecDepth 100000
open Ieee

/-- math.Round, on the word; E: its exponent field. -/
def rndE (b E : Nat) : Nat :=
  if E < 1023 then (if E = 1022 then (bits BinOp.or IntKind.u64 (bits BinOp.and IntKind.u64 (b : Int) 9223372036854775808) 4607182418800017408).toNat else (bits BinOp.and IntKind.u64 (b : Int) 9223372036854775808).toNat)
  else if E < 1075 then (bits BinOp.andNot IntKind.u64 (IntKind.u64.wrap ((b : Int) + 2251799813685248 / 2 ^ (E - 1023))) (4503599627370495 / 2 ^ (E - 1023))).toNat
  else b
def rnd (b : Nat) : Nat := rndE b (b / 4503599627370496 % 2048)
theorem and_lt64 (x y : Int) : (bits BinOp.and IntKind.u64 x y).toNat < 18446744073709551616 := by
  show (IntKind.u64.wrap _).toNat < _
  rw [IntKind.wrap_u64]; omega
theorem or_lt64 (x y : Int) : (bits BinOp.or IntKind.u64 x y).toNat < 18446744073709551616 := by
  show (IntKind.u64.wrap _).toNat < _
  rw [IntKind.wrap_u64]; omega
theorem andNot_lt64 (x y : Int) : (bits BinOp.andNot IntKind.u64 x y).toNat < 18446744073709551616 := by
  show (IntKind.u64.wrap _).toNat < _
  rw [IntKind.wrap_u64]; omega
theorem rnd_lt {b : Nat} (hb : b < 18446744073709551616) : rnd b < 18446744073709551616 := by
  unfold rnd rndE
  split
  · split
    · exact or_lt64 _ _
    · exact and_lt64 _ _
  · split
    · exact andNot_lt64 _ _
    · exact hb
theorem frombitsI (n : Int) (w : World) : (callFunc 41 #[.int .u64 n]).run Ybad.prog w = .ok (.value (.float .f64 n.toNat)) w := by
  rw [run_callFunc_extern Ybad.func41 (by kernel_rfl) (by kernel_rfl) (by kernel_rfl) (e := Extern.MathFloatBits.float64frombits) (by kernel_rfl)]
  rfl
theorem exp_num (b : Nat) (hb : b < 18446744073709551616) : bits BinOp.and IntKind.u64 ((b : Int) / 4503599627370496) 2047 = ((b / 4503599627370496 % 2048 : Nat) : Int) := by
  have h := u64_and_nat (b / 4503599627370496) 2047 (by omega) (by omega)
  have e : ((b : Int) / 4503599627370496) = ((b / 4503599627370496 : Nat) : Int) := by omega
  rw [e]
  rw [show ((2047 : Nat) : Int) = 2047 by rfl] at h
  rw [h]
  congr 1
  exact Nat.and_two_pow_sub_one_eq_mod _ 11

set_option maxHeartbeats 1000000 in
theorem round_walk (b : Nat) (hb : b < 18446744073709551616) (w : World) :
    Calls Ybad.prog 28 #[.float .f64 b] w fun e w' => e = .returned (.float .f64 (rnd b)) ∧ w' = w := by
  have HB := @bits64
  have HF := @frombitsI
  have HE := exp_num b hb
  have HR : Hid (rnd b = rndE b (b / 4503599627370496 % 2048)) := rfl
  generalize b / 4503599627370496 % 2048 = E at *
  by_cases h1 : E < 1023
  · have h1' : (E : Int) < 1023 := by omega
    by_cases h2 : E = 1022
    · have HR2 : Hid (rnd b = (bits BinOp.or IntKind.u64 (bits BinOp.and IntKind.u64 (b : Int) 9223372036854775808) 4607182418800017408).toNat) := by show rnd b = _; rw [HR.out]; unfold rndE; rw [if_pos h1, if_pos h2]
      subst h2
      go_enter Ybad.func28, Ybad.ntmps28
      go_wp2_with fail
      go_ret
      exact ⟨by rw [HR2.out]; rfl, rfl⟩
    · have HR2 : Hid (rnd b = (bits BinOp.and IntKind.u64 (b : Int) 9223372036854775808).toNat) := by show rnd b = _; rw [HR.out]; unfold rndE; rw [if_pos h1, if_neg h2]
      have h2' : ¬ (E : Int) = 1022 := by omega
      go_enter Ybad.func28, Ybad.ntmps28
      go_wp2_with fail
      go_ret
      exact ⟨by rw [HR2.out]; rfl, rfl⟩
  · have h1' : ¬ (E : Int) < 1023 := by omega
    by_cases h2 : E < 1075
    · have HR2 : Hid (rnd b = (bits BinOp.andNot IntKind.u64 (IntKind.u64.wrap ((b : Int) + 2251799813685248 / 2 ^ (E - 1023))) (4503599627370495 / 2 ^ (E - 1023))).toNat) := by show rnd b = _; rw [HR.out]; unfold rndE; rw [if_neg h1, if_pos h2]
      have h2' : (E : Int) < 1075 := by omega
      go_enter Ybad.func28, Ybad.ntmps28
      go_wp2_with fail
      go_ret
      exact ⟨by rw [HR2.out]; rfl, rfl⟩
    · have HR2 : Hid (rnd b = b) := by show rnd b = _; rw [HR.out]; unfold rndE; rw [if_neg h1, if_neg h2]
      have h2' : ¬ (E : Int) < 1075 := by omega
      go_enter Ybad.func28, Ybad.ntmps28
      go_wp2_with fail
      go_ret
      exact ⟨by rw [HR2.out]; rfl, rfl⟩
end Go.Proofs.YbulkecgoDoor

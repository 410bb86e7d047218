/-
  Numbers: base-128 lengths, zigzag, bit lengths.
-/
import Derived.Test.YbulkecgoDoorRows
import Derived.WalkKit
import Derived.ProofKit
import Derived.Shelf.Strconv.Itoa0
import Derived.Laws.BitsAllLaws
namespace Go.Proofs.YbulkecgoDoor
open Go.RowKit Go.Shelf
set_option linter.unusedVariables false

def ren129 : Go.Shelf.Ren := ⟨fun | 129 => 47 | n => n, fun | 46 => 34 | 53 => 27 | n => n, fun n => n⟩
theorem lays129 : Lays.n129 Ybad.prog ren129 := {
  mixed := by kernel_rfl
  f129 := Ybad.func47.trans (by kernel_rfl)
  t3 := Ybad.underlying3, a3 := Ybad.isAgg3, z3 := Ybad.sizeOf3, v3 := Ybad.zeroValue3
  t4 := Ybad.underlying4, a4 := Ybad.isAgg4, z4 := Ybad.sizeOf4, v4 := Ybad.zeroValue4
  t5 := Ybad.underlying5, a5 := Ybad.isAgg5, z5 := Ybad.sizeOf5, v5 := Ybad.zeroValue5
  t9 := Ybad.underlying9, a9 := Ybad.isAgg9, z9 := Ybad.sizeOf9, v9 := Ybad.zeroValue9
  t46 := Ybad.underlying34, a46 := Ybad.isAgg34, z46 := Ybad.sizeOf34, v46 := Ybad.zeroValue34
  t53 := Ybad.underlying27, a53 := Ybad.isAgg27, z53 := Ybad.sizeOf27, v53 := Ybad.zeroValue27 }
theorem len64 (x : Int) (w : World) (h0 : 0 ≤ x) (h1 : x ≤ 18446744073709551615) :
    Calls Ybad.prog 47 #[.int .u64 x] w fun e w' => e = .returned (.int .i64 (Lib.bitLen x.toNat)) ∧ w' = w := Any.bits_Len64 lays129 x w h0 h1

/-- How many halvings. -/
def bl (n : Nat) : Nat := if h : n = 0 then 0 else 1 + bl (n / 2)
/-- How many bytes base 128. -/
def uvl (n : Nat) : Nat := if h : n < 128 then 1 else 1 + uvl (n / 128)

theorem bl_zero : bl 0 = 0 := by rw [bl]; simp
theorem bl_pos {n : Nat} (h : n ≠ 0) : bl n = 1 + bl (n / 2) := by rw [bl]; simp [h]
theorem bl_lt : ∀ (k n : Nat), n < 2 ^ k → bl n ≤ k
  | 0, n, h => by have : n = 0 := by simpa using h
                  subst this; rw [bl_zero]; omega
  | k + 1, n, h => by
    by_cases h0 : n = 0
    · subst h0; rw [bl_zero]; omega
    · rw [bl_pos h0]
      have := bl_lt k (n / 2) (by rw [Nat.pow_succ] at h; omega)
      omega
theorem bitLenAux_eq : ∀ (f n : Nat), n < 2 ^ f → Lib.bitLenAux f n = bl n
  | 0, n, h => by have : n = 0 := by simpa using h
                  subst this; rw [bl_zero]; rfl
  | f + 1, n, h => by
    unfold Lib.bitLenAux
    by_cases h0 : n = 0
    · simp [h0, bl_zero]
    · rw [if_neg h0, bl_pos h0, bitLenAux_eq f (n / 2) (by rw [Nat.pow_succ] at h; omega)]
theorem bitLen_eq {n : Nat} (h : n < 18446744073709551616) : Lib.bitLen n = bl n := bitLenAux_eq 64 n (by omega)
theorem bl_div128 : ∀ (k n : Nat), n < 2 ^ k → 128 ≤ n → bl n = 7 + bl (n / 128) := by
  intro k n _ h
  rw [bl_pos (by omega), bl_pos (n := n / 2) (by omega), bl_pos (n := n / 2 / 2) (by omega), bl_pos (n := n / 2 / 2 / 2) (by omega), bl_pos (n := n / 2 / 2 / 2 / 2) (by omega), bl_pos (n := n / 2 / 2 / 2 / 2 / 2) (by omega), bl_pos (n := n / 2 / 2 / 2 / 2 / 2 / 2) (by omega)]
  have : n / 2 / 2 / 2 / 2 / 2 / 2 / 2 = n / 128 := by simp only [Nat.div_div_eq_div_mul]
  rw [this]; omega
theorem uvl_small {n : Nat} (h : n < 128) : uvl n = 1 := by rw [uvl]; simp [h]
theorem uvl_big {n : Nat} (h : ¬ n < 128) : uvl n = 1 + uvl (n / 128) := by rw [uvl]; simp [h]
theorem uvl_pos (n : Nat) : 1 ≤ uvl n := by rw [uvl]; split <;> omega
theorem uvl_bl : ∀ (f n : Nat), n < 128 ^ (f + 1) → 0 < n → (bl n + 6) / 7 = uvl n
  | 0, n, h, h0 => by
    have h : n < 128 := by simpa using h
    rw [uvl_small h]
    have h7 : bl n ≤ 7 := bl_lt 7 n (by omega)
    have h1 : 1 ≤ bl n := by rw [bl_pos (by omega)]; omega
    omega
  | f + 1, n, h, h0 => by
    by_cases hs : n < 128
    · rw [uvl_small hs]
      have h7 : bl n ≤ 7 := bl_lt 7 n (by omega)
      have h1 : 1 ≤ bl n := by rw [bl_pos (by omega)]; omega
      omega
    · rw [uvl_big hs, bl_div128 (7 * (f + 2)) n (by rw [Nat.pow_mul]; exact h) (by omega)]
      have := uvl_bl f (n / 128) (by rw [Nat.pow_succ] at h; omega) (by omega)
      omega
theorem uvl_le : ∀ (f n : Nat), n < 128 ^ (f + 1) → uvl n ≤ f + 1
  | 0, n, h => by rw [uvl_small (by simpa using h)]; omega
  | f + 1, n, h => by
    by_cases hs : n < 128
    · rw [uvl_small hs]; omega
    · rw [uvl_big hs]
      have := uvl_le f (n / 128) (by rw [Nat.pow_succ] at h; omega)
      omega
theorem uvl_10 {n : Nat} (h : n < 18446744073709551616) : uvl n ≤ 10 := uvl_le 9 n (by omega)
/-- 'v | 1' is as long as v where v is not nought; of 0 it is 1. -/
theorem uvl_or1 (n : Nat) (h : n < 18446744073709551616) : (bl (n ||| 1) + 6) / 7 = uvl n := by
  have hor : n ||| 1 = 2 * (n / 2) + 1 := by
    apply Nat.eq_of_testBit_eq
    intro i
    cases i with
    | zero => simp [Nat.testBit_zero]
    | succ i =>
      rw [Nat.testBit_or, Nat.testBit_succ, Nat.testBit_succ, Nat.testBit_succ]
      have e : (2 * (n / 2) + 1) / 2 = n / 2 := by omega
      rw [e]; simp
  by_cases h0 : n = 0
  · subst h0; rw [uvl_small (by omega)]; simp [bl]
  · have hb : bl (n ||| 1) = bl n := by
      rw [hor, bl_pos (by omega), bl_pos h0]
      have e : (2 * (n / 2) + 1) / 2 = n / 2 := by omega
      rw [e]
    rw [hb]
    exact uvl_bl 9 n (by omega) (by omega)

/-- zigzag. -/
def zg (v : Int) : Nat := if 0 ≤ v then (2 * v).toNat else (-2 * v - 1).toNat
theorem zg_lt {v : Int} (h : -9223372036854775808 ≤ v ∧ v ≤ 9223372036854775807) : zg v < 18446744073709551616 := by unfold zg; split <;> omega

theorem xor_ones (a : Nat) (h : a < 18446744073709551616) : a ^^^ 18446744073709551615 = 18446744073709551615 - a := by
  have h1 : (BitVec.ofNat 64 a ^^^ BitVec.allOnes 64).toNat = (~~~ BitVec.ofNat 64 a).toNat := by rw [BitVec.xor_allOnes]
  rw [BitVec.toNat_xor, BitVec.toNat_not, BitVec.toNat_ofNat, BitVec.toNat_allOnes, Nat.mod_eq_of_lt (by omega)] at h1
  exact h1
theorem zigzag_num (v : Int) (h : -9223372036854775808 ≤ v ∧ v ≤ 9223372036854775807) : bits BinOp.xor IntKind.u64 (IntKind.u64.wrap (wrap64 (v * 2))) (IntKind.u64.wrap (v / 9223372036854775808)) = ((zg v : Nat) : Int) := by
  have e1 : IntKind.u64.wrap (wrap64 (v * 2)) = v * 2 % 18446744073709551616 := by rw [IntKind.wrap_u64]; unfold wrap64; omega
  rw [e1, IntKind.wrap_u64]
  by_cases h0 : 0 ≤ v
  · have e2 : v / 9223372036854775808 % 18446744073709551616 = 0 := by omega
    have e3 : v * 2 % 18446744073709551616 = v * 2 := by omega
    rw [e2, e3, u64_xor _ _ (by omega) (by omega) (by omega) (by omega)]
    unfold zg
    rw [if_pos h0]
    simp
    omega
  · have e2 : v / 9223372036854775808 % 18446744073709551616 = 18446744073709551615 := by omega
    have e3 : v * 2 % 18446744073709551616 = v * 2 + 18446744073709551616 := by omega
    rw [e2, e3, u64_xor _ _ (by omega) (by omega) (by omega) (by omega)]
    unfold zg
    rw [if_neg h0]
    show (((v * 2 + 18446744073709551616).toNat ^^^ 18446744073709551615 : Nat) : Int) = _
    rw [xor_ones _ (by omega)]
    omega

/-! ### The walks -/
set_option maxRecDepth 100000
theorem zigzag_walk (v : Int) (w : World) (hv : -9223372036854775808 ≤ v ∧ v ≤ 9223372036854775807) :
    Calls Ybad.prog 38 #[.int .i64 v] w fun e w' => e = .returned (.int .u64 (zg v)) ∧ w' = w := by
  have HZ := (show Hid _ from zigzag_num v hv)
  obtain ⟨h1, h2⟩ := hv
  go_enter Ybad.func38, Ybad.ntmps38
  go_wp2_with fail
  go_ret
  exact ⟨by rw [HZ.out]; rfl, rfl⟩
theorem bzz_walk (v : Int) (w : World) (hv : -9223372036854775808 ≤ v ∧ v ≤ 9223372036854775807) :
    Calls Ybad.prog 29 #[.int .i64 v] w fun e w' => e = .returned (.int .u64 (zg v)) ∧ w' = w := by
  have HZ : Hid (((zg v : Nat) : Int) = if 0 ≤ v then v * 2 else -(v + 1) * 2 + 1) := by show _ = _; unfold zg; split <;> omega
  obtain ⟨h1, h2⟩ := hv
  by_cases h0 : 0 ≤ v
  · go_enter Ybad.func29, Ybad.ntmps29
    go_wp2_with fail
    go_ret
    exact ⟨by rw [HZ.out, if_pos h0]; rfl, rfl⟩
  · go_enter Ybad.func29, Ybad.ntmps29
    go_wp2_with fail
    go_ret
    exact ⟨by rw [HZ.out, if_neg (by omega)]; rfl, rfl⟩
theorem uvarintLen_walk (n : Nat) (w : World) (hn : n < 18446744073709551616) :
    Calls Ybad.prog 37 #[.int .u64 n] w fun e w' => e = .returned (.int .i64 (uvl n)) ∧ w' = w := by
  have hor : n ||| 1 < 18446744073709551616 := Nat.or_lt_two_pow (n := 64) (by omega) (by omega)
  have hbl : bl (n ||| 1) ≤ 64 := bl_lt 64 _ hor
  have HOR : Hid (bits BinOp.or IntKind.u64 (n : Int) 1 = ((n ||| 1 : Nat) : Int)) := u64_or_nat n 1 hn (by omega)
  have HU := (show Hid _ from uvl_or1 n hn)
  have hc := len64 ((n ||| 1 : Nat) : Int) w (by omega) (by omega)
  rw [Int.toNat_natCast, bitLen_eq hor] at hc
  have HC := (show Hid _ from hc)
  clear hc
  generalize bl (n ||| 1) = b at *
  generalize n ||| 1 = m at *
  go_enter Ybad.func37, Ybad.ntmps37
  go_wp2_with fail
  rw [HOR.out]
  refine Calls.mono HC.out ?_
  rintro e w' ⟨rfl, rfl⟩
  have hb2 : (b : Int) ≤ 64 := by omega
  go_wp2_with fail
  go_ret
  have e : ((b : Int) + 6) / 7 = (uvl n : Int) := by have := HU.out; omega
  exact ⟨by rw [← e]; rfl, rfl⟩
theorem buvlen_walk (n : Nat) (w : World) (hn : n < 18446744073709551616) :
    Calls Ybad.prog 14 #[.int .u64 n] w fun e w' => e = .returned (.int .i64 (uvl n)) ∧ w' = w := by
  have h10 := uvl_10 hn
  have HUV := (show Hid _ from h10)
  go_enter Ybad.func14, Ybad.ntmps14
  go_wp2_with fail
  go_loopw [0, 3] (fun u c wr => ∃ (m k : Nat), u = .int .u64 m ∧ c = .int .i64 k ∧ wr = w ∧ m < 18446744073709551616 ∧ 1 ≤ k ∧ k + uvl m = uvl n + 1) (fun u _ _ => (intOf u).toNat)
  case atStart => exact ⟨n, 1, rfl, rfl, rfl, hn, by omega, by omega⟩
  case round =>
    obtain ⟨m, k, rfl, rfl, hwr, hm, hk, he⟩ := hrel
    obtain rfl : w = wr := hwr.symm
    have HE := (show Hid _ from he)
    have hkb : k ≤ 10 := by have := uvl_pos m; have := HUV.out; omega
    clear he h10
    by_cases h : m < 128
    · have h' : (m : Int) < 128 := by omega
      go_wp2_with fail
      go_ret
      refine ⟨?_, rfl⟩
      have := HE.out
      rw [uvl_small h] at this
      obtain rfl : k = uvl n := by omega
      rfl
    · have h' : ¬ (m : Int) < 128 := by omega
      go_wp2_with fail
      go_roundw
      case rel =>
        have := HE.out
        rw [uvl_big h] at this
        exact ⟨m / 128, k + 1, by first | rfl | go_num, by first | rfl | go_num, by trivial, by omega, by omega, by omega⟩
      case measure => simp [intOf]; omega
theorem bbits_walk (n : Nat) (w : World) (hn : n < 18446744073709551616) :
    Calls Ybad.prog 30 #[.int .u64 n] w fun e w' => e = .returned (.int .i64 (bl n)) ∧ w' = w := by
  have h10 := bl_lt 64 n hn
  have HUV := (show Hid _ from h10)
  go_enter Ybad.func30, Ybad.ntmps30
  go_wp2_with fail
  go_loopw [0, 3] (fun u c wr => ∃ (m k : Nat), u = .int .u64 m ∧ c = .int .i64 k ∧ wr = w ∧ m < 18446744073709551616 ∧ k + bl m = bl n) (fun u _ _ => (intOf u).toNat)
  case atStart => exact ⟨n, 0, rfl, rfl, rfl, hn, by omega⟩
  case round =>
    obtain ⟨m, k, rfl, rfl, hwr, hm, he⟩ := hrel
    obtain rfl : w = wr := hwr.symm
    have HE := (show Hid _ from he)
    have hkb : k ≤ 64 := by have := HUV.out; omega
    clear he h10
    by_cases h : m = 0
    · subst h
      go_wp2_with fail
      go_ret
      refine ⟨?_, rfl⟩
      have := HE.out
      rw [bl_zero] at this
      obtain rfl : k = bl n := by omega
      rfl
    · have h' : ¬ (m : Int) = 0 := by omega
      go_wp2_with fail
      go_roundw
      case rel =>
        have := HE.out
        rw [bl_pos h] at this
        exact ⟨m / 2, k + 1, by first | rfl | go_num, by first | rfl | go_num, by trivial, by omega, by omega⟩
      case measure => simp [intOf]; omega
end Go.Proofs.YbulkecgoDoor

/-
  Floats: whole numbers among them.
-/
import Derived.Test.YbulkecgoDoorNum
import Derived.Laws.FloatArith
import Derived.Laws.Externs
import Derived.WalkLawsBesides
namespace Go.Proofs.YbulkecgoDoor
open Go.RowKit Go.Shelf
set_option linter.unusedVariables false
set_option maxRecDepth 100000

theorem bits64 (b : Nat) (w : World) : (callFunc 5 #[.float .f64 b]).run Ybad.prog w = .ok (.value (.int .u64 b)) w := by
  rw [run_callFunc_extern Ybad.func5 (by kernel_rfl) (by kernel_rfl) (by kernel_rfl) (e := Extern.MathFloatBits.float64bits) (by kernel_rfl)]
  rfl
theorem frombits64 (b : Nat) (w : World) : (callFunc 41 #[.int .u64 b]).run Ybad.prog w = .ok (.value (.float .f64 b)) w := by
  rw [run_callFunc_extern Ybad.func41 (by kernel_rfl) (by kernel_rfl) (by kernel_rfl) (e := Extern.MathFloatBits.float64frombits) (by kernel_rfl)]
  rfl
theorem archTrunc (b : Nat) (w : World) (s : Bool) (m : Nat) (i : Int) (h : FloatKind.f64.decode b = .number s m i) : (callFunc 31 #[.float .f64 b]).run Ybad.prog w = .ok (.value (.float .f64 (FloatKind.f64.encode ((FloatKind.f64.decode b).integral .zero)))) w := by
  rw [run_callFunc_extern Ybad.func31 (by kernel_rfl) (by kernel_rfl) (by kernel_rfl) (e := Extern.MathFloor.toIntegral "math.archTrunc" .zero) (by kernel_rfl)]
  change (Sem.run Ybad.prog (match FloatKind.f64.decode b with
    | .nan s t => if FloatKind.f64.format.quiet t = t then pure (Value.float .f64 b) else do
      let kept ← choose (.extern "math.Floor,Ceil,Trunc,RoundToEven.signallingNaN kept" 2)
      pure (Value.float .f64 (if kept == 1 then b else FloatKind.f64.encode (.nan s (FloatKind.f64.format.quiet t))))
    | d => pure (Value.float .f64 (FloatKind.f64.encode (d.integral .zero)))) w).andThen _ = _
  rw [h]
  rfl

/-! ### Plain facts -/
open Ieee

/-- A word's sign and rung. -/
theorem read_cases (b : Nat) : ∃ (s : Bool), (∃ m i, double.read b = .number s m i ∧ (m < 9007199254740992) ∧ ((i = -1074 ∧ m = b % 9223372036854775808 ∧ m < 4503599627370496) ∨ (4503599627370496 ≤ m ∧ i = -1074 + ((b % 9223372036854775808 / 4503599627370496 - 1 : Nat) : Int) ∧ m = 4503599627370496 + b % 9223372036854775808 % 4503599627370496 ∧ 4503599627370496 ≤ b % 9223372036854775808)) ∧ s = (b / 9223372036854775808 % 2 == 1)) ∨ double.read b = .infinity s ∨ ∃ t, double.read b = .nan s t := by
  refine ⟨b / 9223372036854775808 % 2 == 1, ?_⟩
  have e1 : double.signWeight = 9223372036854775808 := rfl
  have e2 : double.binade = 4503599627370496 := rfl
  have e3 : double.leastPlace = -1074 := rfl
  unfold Format.read
  simp only [e1, e2, e3]
  by_cases h1 : b % 9223372036854775808 < 4503599627370496
  · left
    rw [if_pos h1]
    exact ⟨_, _, rfl, by omega, .inl ⟨rfl, rfl, h1⟩, trivial⟩
  · rw [if_neg h1]
    by_cases h2 : b % 9223372036854775808 < double.infRung
    · left
      rw [if_pos h2]
      exact ⟨_, _, rfl, by omega, .inr ⟨by omega, rfl, rfl, by omega⟩, trivial⟩
    · rw [if_neg h2]
      right
      by_cases h3 : b % 9223372036854775808 = double.infRung
      · rw [if_pos h3]; exact .inl rfl
      · rw [if_neg h3]; exact .inr ⟨_, rfl⟩

/-- Two finite words that stand for one number other than nought are one word. -/
theorem read_inj {b c : Nat} (hb : b < 18446744073709551616) (hc : c < 18446744073709551616) {s : Bool} {m n : Nat} {i j : Int} (h1 : double.read b = .number s m i) (h2 : double.read c = .number s n j) (he : m * 2 ^ (i - min i j).toNat = n * 2 ^ (j - min i j).toNat) : b = c := by
  obtain ⟨s1, (⟨m1, i1, e1, l1, f1, g1⟩ | e | ⟨t, e⟩)⟩ := read_cases b
  · rw [h1] at e1
    cases e1
    obtain ⟨s2, (⟨m2, i2, e2, l2, f2, g2⟩ | e | ⟨t, e⟩)⟩ := read_cases c
    · rw [h2] at e2
      cases e2
      have hs : b / 9223372036854775808 = c / 9223372036854775808 := by
        have : (b / 9223372036854775808 % 2 == 1) = (c / 9223372036854775808 % 2 == 1) := g1.symm.trans g2
        have e : decide (b / 9223372036854775808 % 2 = 1) = decide (c / 9223372036854775808 % 2 = 1) := by simpa [BEq.beq] using this
        by_cases hh : b / 9223372036854775808 % 2 = 1 <;> by_cases hh2 : c / 9223372036854775808 % 2 = 1 <;> simp [hh, hh2] at e <;> omega
      have hr : b % 9223372036854775808 = c % 9223372036854775808 := by
        rcases f1 with ⟨rfl, hm1, hl1⟩ | ⟨k1, hi1, hm1, hr1⟩ <;> rcases f2 with ⟨rfl, hm2, hl2⟩ | ⟨k2, hi2, hm2, hr2⟩
        · simp at he; omega
        · exfalso
          have hle : (-1074 : Int) ≤ j := by omega
          rw [Int.min_eq_left hle] at he
          simp at he
          have hp : 1 ≤ 2 ^ (j + 1074).toNat := Nat.one_le_two_pow
          have : n ≤ n * 2 ^ (j + 1074).toNat := Nat.le_mul_of_pos_right _ (by omega)
          omega
        · exfalso
          have hle : (-1074 : Int) ≤ i := by omega
          rw [Int.min_eq_right hle] at he
          simp at he
          have hp : 1 ≤ 2 ^ (i + 1074).toNat := Nat.one_le_two_pow
          have : m ≤ m * 2 ^ (i + 1074).toNat := Nat.le_mul_of_pos_right _ (by omega)
          omega
        · have hij : i = j := by
            rcases Int.lt_trichotomy i j with hl | he' | hl
            · exfalso
              rw [Int.min_eq_left (by omega)] at he
              simp at he
              have : (j - i).toNat = (j - i).toNat - 1 + 1 := by omega
              rw [this, Nat.pow_succ] at he
              have hp : 1 ≤ 2 ^ ((j - i).toNat - 1) := Nat.one_le_two_pow
              have h3 : n * 2 ≤ n * (2 ^ ((j - i).toNat - 1) * 2) := Nat.mul_le_mul_left n (by omega)
              omega
            · exact he'
            · exfalso
              rw [Int.min_eq_right (by omega)] at he
              simp at he
              have : (i - j).toNat = (i - j).toNat - 1 + 1 := by omega
              rw [this, Nat.pow_succ] at he
              have hp : 1 ≤ 2 ^ ((i - j).toNat - 1) := Nat.one_le_two_pow
              have h3 : m * 2 ≤ m * (2 ^ ((i - j).toNat - 1) * 2) := Nat.mul_le_mul_left m (by omega)
              omega
          subst hij
          simp at he
          omega
      omega
    · rw [h2] at e; cases e
    · rw [h2] at e; cases e
  · rw [h1] at e; cases e
  · rw [h1] at e; cases e

theorem cmp_eq {a b : Int} : compare a b = Ordering.eq ↔ a = b := by
  show compareOfLessAndEq a b = Ordering.eq ↔ a = b
  unfold compareOfLessAndEq
  by_cases h1 : a < b
  · simp [h1]; omega
  · by_cases h2 : a = b <;> simp [h1, h2]
theorem cmp_lt {a b : Int} : compare a b = Ordering.lt ↔ a < b := by
  show compareOfLessAndEq a b = Ordering.lt ↔ a < b
  unfold compareOfLessAndEq
  by_cases h1 : a < b
  · simp [h1]
  · by_cases h2 : a = b <;> simp [h1, h2]
theorem cmp_gt {a b : Int} : compare a b = Ordering.gt ↔ b < a := by
  show compareOfLessAndEq a b = Ordering.gt ↔ b < a
  unfold compareOfLessAndEq
  by_cases h1 : a < b
  · simp [h1]; omega
  · by_cases h2 : a = b
    · simp [h2]
    · simp [h1, h2]; omega
theorem signed_eq (s : Bool) (m u : Nat) : signed s m u = if s then -((m * 2 ^ u : Nat) : Int) else ((m * 2 ^ u : Nat) : Int) := by unfold signed; rw [Nat.shiftLeft_eq]

/-- The number cut towards zero. -/
def kut (m : Nat) (i : Int) : Nat := Toward.zero.cut false (m <<< i.toNat) (-i).toNat
theorem kut_eq (s : Bool) (m : Nat) (i : Int) : Toward.zero.cut s (m <<< i.toNat) (-i).toNat = kut m i := rfl
theorem kut_nonneg {m : Nat} {i : Int} (h : 0 ≤ i) : kut m i = m * 2 ^ i.toNat := by
  unfold kut Toward.cut
  have : (-i).toNat = 0 := by omega
  simp [this, Nat.shiftLeft_eq]
theorem kut_neg {m : Nat} {i : Int} (h : i < 0) : kut m i ≤ m := by
  unfold kut Toward.cut
  have : i.toNat = 0 := by omega
  simp only [this, Nat.shiftLeft_zero]
  simp
  exact Nat.div_le_self _ _

/-- In range: what the two comparisons say. -/
def inR (b : Nat) : Bool := (FloatKind.f64.format.order b 14114281232179134464 == some Ordering.gt || FloatKind.f64.format.order b 14114281232179134464 == some Ordering.eq) && (FloatKind.f64.format.order b 4890909195324358656 == some Ordering.lt)

theorem pow_split {i : Int} (h0 : 0 ≤ i) (h : i ≤ 11) : 4503599627370496 * 2 ^ (11 - i).toNat * 2 ^ i.toNat = 9223372036854775808 := by
  rw [Nat.mul_assoc, ← Nat.pow_add, show (11 - i).toNat + i.toNat = 11 by omega]
theorem mag_lt {m : Nat} {i : Int} (hi : 0 ≤ i) (hcan : 12 ≤ i → 4503599627370496 ≤ m) (h : m * 2 ^ (i - min i 11).toNat < 4503599627370496 * 2 ^ (11 - min i 11).toNat) : m * 2 ^ i.toNat < 9223372036854775808 := by
  by_cases h11 : i ≤ 11
  · rw [Int.min_eq_left h11, Int.sub_self] at h
    have h3 : m < 4503599627370496 * 2 ^ (11 - i).toNat := by simpa using h
    have h4 := Nat.mul_lt_mul_of_pos_right h3 (Nat.two_pow_pos i.toNat)
    rw [pow_split hi h11] at h4
    exact h4
  · exfalso
    rw [Int.min_eq_right (by omega), Int.sub_self] at h
    have hm := hcan (by omega)
    have h3 : m * 1 ≤ m * 2 ^ (i - 11).toNat := Nat.mul_le_mul_left m Nat.one_le_two_pow
    have h5 : m * 2 ^ (i - 11).toNat < 4503599627370496 * 1 := h
    omega
theorem mag_le {m : Nat} {i : Int} (hi : 0 ≤ i) (hcan : 12 ≤ i → 4503599627370496 ≤ m) (h : m * 2 ^ (i - min i 11).toNat ≤ 4503599627370496 * 2 ^ (11 - min i 11).toNat) : m * 2 ^ i.toNat ≤ 9223372036854775808 := by
  by_cases h11 : i ≤ 11
  · rw [Int.min_eq_left h11, Int.sub_self] at h
    have h3 : m ≤ 4503599627370496 * 2 ^ (11 - i).toNat := by simpa using h
    have h4 := Nat.mul_le_mul_right (2 ^ i.toNat) h3
    rw [pow_split hi h11] at h4
    exact h4
  · exfalso
    rw [Int.min_eq_right (by omega), Int.sub_self] at h
    have hm := hcan (by omega)
    have h3 : m * 2 ≤ m * 2 ^ (i - 11).toNat := Nat.mul_le_mul_left m (by
      have : (i - 11).toNat = (i - 11).toNat - 1 + 1 := by omega
      rw [this, Nat.pow_succ]
      have := Nat.one_le_two_pow (n := (i - 11).toNat - 1)
      omega)
    have h5 : m * 2 ^ (i - 11).toNat ≤ 4503599627370496 * 1 := h
    omega

theorem inR_number {b : Nat} (h : inR b = true) : ∃ s m i, double.read b = .number s m i ∧ (s = false → kut m i ≤ 9223372036854775807) ∧ (s = true → kut m i ≤ 9223372036854775808) := by
  unfold inR at h
  simp only [Bool.and_eq_true, Bool.or_eq_true, beq_iff_eq] at h
  obtain ⟨h1, h2⟩ := h
  have r1 : double.read 14114281232179134464 = .number true 4503599627370496 11 := by decide +kernel
  have r2 : double.read 4890909195324358656 = .number false 4503599627370496 11 := by decide +kernel
  have h1' : (double.read b).order (double.read 14114281232179134464) = some .gt ∨ (double.read b).order (double.read 14114281232179134464) = some .eq := h1
  have h2' : (double.read b).order (double.read 4890909195324358656) = some .lt := h2
  rw [r1] at h1'
  rw [r2] at h2'
  clear h1 h2 r1 r2
  obtain ⟨s, (⟨m, i, e, l, f, _⟩ | e | ⟨t, e⟩)⟩ := read_cases b
  · have hcan : 12 ≤ i → 4503599627370496 ≤ m := by
      intro hi
      rcases f with ⟨rfl, _⟩ | ⟨h, _⟩
      · omega
      · exact h
    refine ⟨s, m, i, e, ?_, ?_⟩
    · rintro rfl
      rw [e] at h2'
      by_cases hi : i < 0
      · have := kut_neg (m := m) hi; omega
      · rw [kut_nonneg (by omega)]
        have h3 := cmp_lt.1 (Option.some.inj h2')
        simp only [signed_eq, Bool.false_eq_true, if_false] at h3
        have := mag_lt (by omega) hcan (Int.ofNat_lt.1 h3)
        omega
    · rintro rfl
      rw [e] at h1'
      by_cases hi : i < 0
      · have := kut_neg (m := m) hi; omega
      · rw [kut_nonneg (by omega)]
        have h3 : signed true 4503599627370496 (11 - min i 11).toNat ≤ signed true m (i - min i 11).toNat := by
          rcases h1' with h1' | h1'
          · have := cmp_gt.1 (Option.some.inj h1'); omega
          · have := cmp_eq.1 (Option.some.inj h1'); omega
        simp only [signed_eq, if_true] at h3
        exact mag_le (by omega) hcan (Int.ofNat_le.1 (by omega))
  · exfalso
    rw [e] at h1' h2'
    cases s
    · cases h2'
    · rcases h1' with h1' | h1' <;> cases h1'
  · exfalso
    rw [e] at h2'
    cases h2'

/-- The word cut towards zero. -/
def trw (b : Nat) : Nat := FloatKind.f64.encode ((FloatKind.f64.decode b).integral .zero)
theorem trw_eq {b : Nat} {s : Bool} {m : Nat} {i : Int} (h : double.read b = .number s m i) : trw b = double.nearest s (kut m i) 0 := by
  show double.write ((double.read b).integral .zero) = _
  rw [h]
  rfl
theorem trw_lt (b : Nat) : trw b < 18446744073709551616 := double.write_lt _
theorem pow_ne (u : Nat) : (2 : Nat) ^ u ≠ 0 := Nat.ne_of_gt (Nat.two_pow_pos u)
/-- The number cut towards zero is nought only where it is below one. -/
theorem kut_zero_of {m : Nat} {i : Int} (h : m = 0) : kut m i = 0 := by
  subst h
  unfold kut Toward.cut
  simp

theorem read_zero (s : Bool) : double.read (double.word s 0) = .number s 0 (-1074) := by cases s <;> decide +kernel

theorem signed_zero_iff (s : Bool) (m u : Nat) : signed s m u = 0 ↔ m = 0 := by
  rw [signed_eq]
  have hp := pow_ne u
  constructor
  · intro e
    have : m * 2 ^ u = 0 := by
      generalize m * 2 ^ u = X at *
      cases s <;> simp at e <;> omega
    rcases Nat.mul_eq_zero.1 this with h | h
    · exact h
    · exact absurd h hp
  · rintro rfl
    cases s <;> simp
theorem signed_inj {s t : Bool} {X Y : Nat} (hX : X ≠ 0) (h : (if s then -((X : Nat) : Int) else ((X : Nat) : Int)) = (if t then -((Y : Nat) : Int) else ((Y : Nat) : Int))) : s = t ∧ X = Y := by
  cases s <;> cases t <;> simp at h <;> first | exact ⟨rfl, by omega⟩ | (exfalso; omega)

theorem exact_whole {b : Nat} (hb : b < 18446744073709551616) {s : Bool} {m : Nat} {i : Int} (h : double.read b = .number s m i) :
    (FloatKind.f64.nearest (signed s (kut m i) 0) = b) ↔ (double.order b (trw b) = some .eq ∧ ¬ (double.order b 0 = some .eq ∧ b ≠ 0)) := by
  have r0 : double.read 0 = .number false 0 (-1074) := by decide +kernel
  have o0 : double.order b 0 = some .eq ↔ m = 0 := by
    show (double.read b).order (double.read 0) = some .eq ↔ _
    rw [h, r0]
    show some (compare (signed s m (i - min i (-1074)).toNat) (signed false 0 (-1074 - min i (-1074)).toNat)) = some .eq ↔ _
    rw [Option.some.injEq, cmp_eq, (signed_zero_iff false 0 _).2 rfl, signed_zero_iff]
  by_cases hk : kut m i = 0
  · have hn : FloatKind.f64.nearest (signed s (kut m i) 0) = 0 := by
      rw [hk]
      have : signed s 0 0 = 0 := by cases s <;> rfl
      rw [this]
      decide +kernel
    have ht : trw b = double.word s 0 := by
      rw [trw_eq h, hk]; rfl
    have ot : double.order b (trw b) = some .eq ↔ m = 0 := by
      rw [ht]
      show (double.read b).order (double.read (double.word s 0)) = some .eq ↔ _
      rw [h, read_zero]
      show some (compare (signed s m (i - min i (-1074)).toNat) (signed s 0 (-1074 - min i (-1074)).toNat)) = some .eq ↔ _
      rw [Option.some.injEq, cmp_eq, (signed_zero_iff s 0 _).2 rfl, signed_zero_iff]
    rw [hn, ot, o0]
    constructor
    · rintro rfl
      rw [r0] at h
      cases h
      exact ⟨rfl, fun h => h.2 rfl⟩
    · rintro ⟨hm, hz⟩
      exact Classical.byContradiction fun hne => hz ⟨hm, fun e => hne e.symm⟩
  · have hm : m ≠ 0 := fun e => hk (kut_zero_of e)
    have hn : FloatKind.f64.nearest (signed s (kut m i) 0) = trw b := by
      rw [trw_eq h]
      show double.nearest (decide (signed s (kut m i) 0 < 0)) (signed s (kut m i) 0).natAbs 0 = _
      have e1 : decide (signed s (kut m i) 0 < 0) = s := by
        rw [signed_eq]
        cases s <;> simp <;> omega
      have e2 : (signed s (kut m i) 0).natAbs = kut m i := by
        rw [signed_eq]
        cases s <;> simp
      rw [e1, e2]
    rw [hn, o0]
    constructor
    · intro e
      refine ⟨?_, fun h => hm h.1⟩
      rw [e]
      show (double.read b).order (double.read b) = some .eq
      rw [h]
      show some (compare _ _) = some .eq
      rw [Option.some.injEq, cmp_eq]
    · rintro ⟨e, _⟩
      obtain ⟨s2, (⟨m2, i2, e2, _⟩ | e2 | ⟨t2, e2⟩)⟩ := read_cases (trw b)
      · have e' : (double.read b).order (double.read (trw b)) = some .eq := e
        rw [h, e2] at e'
        have e3 : signed s m (i - min i i2).toNat = signed s2 m2 (i2 - min i i2).toNat := cmp_eq.1 (Option.some.inj e')
        rw [signed_eq, signed_eq] at e3
        have hp1 : m * 2 ^ (i - min i i2).toNat ≠ 0 := fun h => by
          rcases Nat.mul_eq_zero.1 h with h | h
          · exact hm h
          · exact pow_ne _ h
        obtain ⟨rfl, he⟩ := signed_inj hp1 e3
        exact (read_inj hb (trw_lt b) h e2 he).symm
      · have e' : (double.read b).order (double.read (trw b)) = some .eq := e
        rw [h, e2] at e'
        cases s2 <;> cases e'
      · have e' : (double.read b).order (double.read (trw b)) = some .eq := e
        rw [h, e2] at e'
        cases e'
end Go.Proofs.YbulkecgoDoor

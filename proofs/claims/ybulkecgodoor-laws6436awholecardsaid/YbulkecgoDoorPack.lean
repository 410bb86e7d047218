/-
  A stream of bits as a number X of T bits; its bytes; how the law and the program come to them. No Go here.
-/
import Derived.Laws.BitsAllLaws
namespace Go.Proofs.YbulkecgoDoor
open Go
set_option linter.unusedVariables false
set_option linter.unnecessarySimpa false

/-- The first k bytes. -/
def byt (X T k : Nat) : List Nat := (List.range k).map fun j => X / 2 ^ (T - 8 * (j + 1)) % 256
/-- All bytes, the last filled up with noughts. -/
def pk (X T : Nat) : List Nat := byt X T (T / 8) ++ (if T % 8 = 0 then [] else [X * 2 ^ (8 - T % 8) % 256])
theorem byt_len (X T k : Nat) : (byt X T k).length = k := by simp [byt]
theorem byt_succ (X T k : Nat) : byt X T (k + 1) = byt X T k ++ [X / 2 ^ (T - 8 * (k + 1)) % 256] := by simp [byt, List.range_succ]
theorem byt_lt (X T k : Nat) : ∀ b ∈ byt X T k, b < 256 := by
  intro b hb
  simp only [byt, List.mem_map] at hb
  obtain ⟨j, _, rfl⟩ := hb
  exact Nat.mod_lt _ (by omega)
theorem pk_len (X T : Nat) : (pk X T).length = (T + 7) / 8 := by
  unfold pk
  rw [List.length_append, byt_len]
  split
  · simp; omega
  · simp; omega
theorem div_app {X w u : Nat} (hu : u < 2 ^ w) : (X * 2 ^ w + u) / 2 ^ w = X := by
  rw [Nat.mul_comm, Nat.mul_add_div (Nat.two_pow_pos w), Nat.div_eq_of_lt hu, Nat.add_zero]
theorem div_app' {X w u : Nat} (hu : u < 2 ^ w) (e : Nat) : (X * 2 ^ w + u) / 2 ^ (e + w) = X / 2 ^ e := by
  rw [Nat.add_comm e w, Nat.pow_add, ← Nat.div_div_eq_div_mul, div_app hu]
theorem mod_app {X w u : Nat} (hu : u < 2 ^ w) (m : Nat) : (X * 2 ^ w + u) % 2 ^ (m + w) = X % 2 ^ m * 2 ^ w + u := by
  have h2 : X % 2 ^ m < 2 ^ m := Nat.mod_lt _ (Nat.two_pow_pos m)
  have h1 := (Nat.div_add_mod X (2 ^ m)).symm
  rw [Nat.pow_add]
  generalize X / 2 ^ m = q at *
  generalize X % 2 ^ m = r at *
  generalize 2 ^ m = A at *
  generalize 2 ^ w = B at *
  subst h1
  have e : (A * q + r) * B + u = (r * B + u) + A * B * q := by
    rw [Nat.add_mul, Nat.mul_right_comm]; omega
  rw [e, Nat.add_mul_mod_self_left]
  refine Nat.mod_eq_of_lt ?_
  calc r * B + u < r * B + B := by omega
    _ = (r + 1) * B := by rw [Nat.add_mul, Nat.one_mul]
    _ ≤ A * B := Nat.mul_le_mul_right B h2
theorem byt_ext {X T k w u : Nat} (hk : 8 * k ≤ T) (hu : u < 2 ^ w) : byt (X * 2 ^ w + u) (T + w) k = byt X T k := by
  unfold byt
  refine List.map_congr_left fun j hj => ?_
  have hj' : j < k := List.mem_range.1 hj
  rw [show T + w - 8 * (j + 1) = (T - 8 * (j + 1)) + w by omega, div_app' hu]

/-- The law's round, the byte not full. -/
theorem bit_go {X T c : Nat} (hc : c < 2) (h : T % 8 ≠ 7) : byt (X * 2 + c) (T + 1) ((T + 1) / 8) = byt X T (T / 8) ∧ X % 2 ^ (T % 8) * 2 + c = (X * 2 + c) % 2 ^ ((T + 1) % 8) := by
  have h1 : (T + 1) / 8 = T / 8 := by omega
  have h2 : (T + 1) % 8 = T % 8 + 1 := by omega
  rw [h1, h2]
  exact ⟨byt_ext (w := 1) (by omega) (by omega), (mod_app (w := 1) (by omega) _).symm⟩
/-- The byte full. -/
theorem bit_full {X T c : Nat} (hc : c < 2) (h : T % 8 = 7) : byt (X * 2 + c) (T + 1) ((T + 1) / 8) = byt X T (T / 8) ++ [X % 2 ^ (T % 8) * 2 + c] := by
  have h1 : (T + 1) / 8 = T / 8 + 1 := by omega
  rw [h1, byt_succ]
  have e1 := byt_ext (X := X) (T := T) (k := T / 8) (w := 1) (u := c) (by omega) (by omega)
  rw [Nat.pow_one] at e1
  rw [e1, show T + 1 - 8 * (T / 8 + 1) = 0 by omega, Nat.pow_zero, Nat.div_one, h]
  have e2 := mod_app (X := X) (w := 1) (u := c) (by omega) 7
  rw [Nat.pow_one] at e2
  rw [← e2]

/-- The eight bytes of a word, the highest first. -/
def be8 (W : Nat) : List Nat := [W / 2 ^ 56 % 256, W / 2 ^ 48 % 256, W / 2 ^ 40 % 256, W / 2 ^ 32 % 256, W / 2 ^ 24 % 256, W / 2 ^ 16 % 256, W / 2 ^ 8 % 256, W % 256]
theorem mod_div {Y e : Nat} (he : e + 8 ≤ 64) : Y % 2 ^ 64 / 2 ^ e % 256 = Y / 2 ^ e % 256 := by
  have h1 : (2 : Nat) ^ 64 = 2 ^ e * 2 ^ (64 - e) := by rw [← Nat.pow_add]; congr 1; omega
  rw [h1, Nat.mod_mul_right_div_self]
  exact Nat.mod_mod_of_dvd _ ⟨2 ^ (56 - e), by rw [show (256 : Nat) = 2 ^ 8 by decide, ← Nat.pow_add]; congr 1; omega⟩
/-- The program's word, not full. -/
theorem word_go {X T w u acc : Nat} (hu : u < 2 ^ w) (hn : T % 64 + w < 64) (ha : acc % 2 ^ (T % 64) = X % 2 ^ (T % 64)) :
    byt (X * 2 ^ w + u) (T + w) (8 * ((T + w) / 64)) = byt X T (8 * (T / 64)) ∧ (T + w) % 64 = T % 64 + w ∧ ((acc * 2 ^ w % 2 ^ 64) ||| u) % 2 ^ (T % 64 + w) = (X * 2 ^ w + u) % 2 ^ (T % 64 + w) := by
  have h1 : (T + w) / 64 = T / 64 := by omega
  refine ⟨by rw [h1]; exact byt_ext (by omega) hu, by omega, ?_⟩
  have hj : (acc * 2 ^ w % 2 ^ 64) % 2 ^ w = 0 := by
    rw [Nat.mod_mod_of_dvd _ (Nat.pow_dvd_pow 2 (by omega))]
    exact Nat.mul_mod_left _ _
  rw [nat_join w _ _ hj hu]
  have h2 : (acc * 2 ^ w % 2 ^ 64 + u) % 2 ^ (T % 64 + w) = (acc * 2 ^ w + u) % 2 ^ (T % 64 + w) := by
    rw [Nat.add_mod, Nat.mod_mod_of_dvd _ (Nat.pow_dvd_pow 2 (by omega)), ← Nat.add_mod]
  rw [h2, mod_app hu, mod_app hu, ha]
/-- The word full: what goes out, what stays. -/
theorem word_full {X T w u acc : Nat} (hu : u < 2 ^ w) (hw : w ≤ 64) (hn : 64 ≤ T % 64 + w) (ha : acc % 2 ^ (T % 64) = X % 2 ^ (T % 64)) :
    byt (X * 2 ^ w + u) (T + w) (8 * ((T + w) / 64)) = byt X T (8 * (T / 64)) ++ be8 ((acc * 2 ^ (64 - T % 64) % 2 ^ 64) ||| (u / 2 ^ (T % 64 + w - 64))) ∧ (T + w) % 64 = T % 64 + w - 64 ∧ u % 2 ^ (T % 64 + w - 64) = (X * 2 ^ w + u) % 2 ^ (T % 64 + w - 64) := by
  have hT : T % 64 < 64 := Nat.mod_lt _ (by omega)
  obtain ⟨n, hn0⟩ : ∃ n, T % 64 = n := ⟨_, rfl⟩
  rw [hn0] at ha hn hT ⊢
  obtain ⟨r, hr⟩ : ∃ r, n + w - 64 = r := ⟨_, rfl⟩
  rw [hr]
  obtain ⟨f, hf⟩ : ∃ f, 64 - n = f := ⟨_, rfl⟩
  rw [hf]
  have hwr : w = f + r := by omega
  have hur : u / 2 ^ r < 2 ^ f := by
    rw [Nat.div_lt_iff_lt_mul (Nat.two_pow_pos r), ← Nat.pow_add, ← hwr]
    exact hu
  have hdiv : (X * 2 ^ w + u) / 2 ^ r = X * 2 ^ f + u / 2 ^ r := by
    rw [hwr, Nat.pow_add, ← Nat.mul_assoc, Nat.mul_comm (X * 2 ^ f) (2 ^ r), Nat.mul_add_div (Nat.two_pow_pos r)]
  have hword : (acc * 2 ^ f % 2 ^ 64) ||| (u / 2 ^ r) = (X * 2 ^ w + u) / 2 ^ r % 2 ^ 64 := by
    have h64 : (2 : Nat) ^ 64 = 2 ^ (n + f) := by congr 1; omega
    rw [hdiv, h64, mod_app hur]
    have h0 := mod_app (X := acc) (w := f) (u := 0) (Nat.two_pow_pos f) n
    rw [Nat.add_zero, Nat.add_zero] at h0
    rw [h0, ha]
    exact nat_join f _ _ (Nat.mul_mod_left _ _) hur
  refine ⟨?_, by omega, ?_⟩
  · rw [hword]
    have h8 : 8 * ((T + w) / 64) = 8 * (T / 64) + 1 + 1 + 1 + 1 + 1 + 1 + 1 + 1 := by omega
    rw [h8]
    simp only [byt_succ, List.append_assoc, byt_ext (X := X) (T := T) (k := 8 * (T / 64)) (w := w) (u := u) (by omega) hu]
    congr 1
    unfold be8
    rw [mod_div (by omega), mod_div (by omega), mod_div (by omega), mod_div (by omega), mod_div (by omega), mod_div (by omega), mod_div (by omega)]
    have hm0 : (X * 2 ^ w + u) / 2 ^ r % 2 ^ 64 % 256 = (X * 2 ^ w + u) / 2 ^ r % 256 := by have := mod_div (Y := (X * 2 ^ w + u) / 2 ^ r) (e := 0) (by omega); simpa using this
    rw [hm0]
    simp only [Nat.div_div_eq_div_mul, ← Nat.pow_add, List.cons_append, List.nil_append]
    rw [show T + w - 8 * (8 * (T / 64) + 1) = r + 56 by omega, show T + w - 8 * (8 * (T / 64) + 1 + 1) = r + 48 by omega, show T + w - 8 * (8 * (T / 64) + 1 + 1 + 1) = r + 40 by omega, show T + w - 8 * (8 * (T / 64) + 1 + 1 + 1 + 1) = r + 32 by omega,
      show T + w - 8 * (8 * (T / 64) + 1 + 1 + 1 + 1 + 1) = r + 24 by omega, show T + w - 8 * (8 * (T / 64) + 1 + 1 + 1 + 1 + 1 + 1) = r + 16 by omega, show T + w - 8 * (8 * (T / 64) + 1 + 1 + 1 + 1 + 1 + 1 + 1) = r + 8 by omega, show T + w - 8 * (8 * (T / 64) + 1 + 1 + 1 + 1 + 1 + 1 + 1 + 1) = r by omega]
  · rw [hwr, Nat.pow_add, ← Nat.mul_assoc, Nat.mul_comm (X * 2 ^ f) (2 ^ r), Nat.mul_add_mod]
/-- The flush's round. -/
theorem flush_go {X T k acc : Nat} (hk : 8 * k + 8 ≤ T) (ha : acc % 2 ^ (T - 8 * k) = X % 2 ^ (T - 8 * k)) :
    byt X T (k + 1) = byt X T k ++ [acc / 2 ^ (T - 8 * (k + 1)) % 256] ∧ acc % 2 ^ (T - 8 * (k + 1)) = X % 2 ^ (T - 8 * (k + 1)) := by
  obtain ⟨e, he⟩ : ∃ e, T - 8 * (k + 1) = e := ⟨_, rfl⟩
  have h8 : T - 8 * k = e + 8 := by omega
  rw [h8] at ha
  rw [he]
  have h1 : ∀ Y : Nat, Y % 2 ^ (e + 8) / 2 ^ e = Y / 2 ^ e % 256 := fun Y => by rw [Nat.pow_add, Nat.mod_mul_right_div_self]
  refine ⟨?_, ?_⟩
  · rw [byt_succ, he, ← h1 acc, ha, h1]
  · have h2 := congrArg (· % 2 ^ e) ha
    simp only [Nat.mod_mod_of_dvd _ (Nat.pow_dvd_pow 2 (Nat.le_add_right e 8))] at h2
    exact h2
theorem flush_end {X T acc : Nat} (h0 : T % 8 ≠ 0) (ha : acc % 2 ^ (T % 8) = X % 2 ^ (T % 8)) : acc * 2 ^ (8 - T % 8) % 256 = X * 2 ^ (8 - T % 8) % 256 := by
  have h : ∀ Y : Nat, Y * 2 ^ (8 - T % 8) % 256 = Y % 2 ^ (T % 8) * 2 ^ (8 - T % 8) := fun Y => by
    have := mod_app (X := Y) (w := 8 - T % 8) (u := 0) (Nat.two_pow_pos _) (T % 8)
    rw [Nat.add_zero, Nat.add_zero, show T % 8 + (8 - T % 8) = 8 by omega] at this
    exact this
  rw [h, h, ha]
end Go.Proofs.YbulkecgoDoor

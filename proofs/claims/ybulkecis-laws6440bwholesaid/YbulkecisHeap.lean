/-
  A binary heap in an array, its elements each once. No Go here.
-/
import Derived.WalkKit
namespace Go.Proofs.Ybulkecis
set_option linter.unusedVariables false

/-- Two places exchanged. -/
def sw (a : Nat → Int) (i j : Nat) (k : Nat) : Int := if k = i then a j else if k = j then a i else a k
theorem sw_l (a : Nat → Int) (i j : Nat) : sw a i j i = a j := by unfold sw; rw [if_pos rfl]
theorem sw_r (a : Nat → Int) (i j : Nat) : sw a i j j = a i := by
  unfold sw
  by_cases h : j = i
  · rw [if_pos h, h]
  · rw [if_neg h, if_pos rfl]
theorem sw_o {a : Nat → Int} {i j k : Nat} (h1 : k ≠ i) (h2 : k ≠ j) : sw a i j k = a k := by unfold sw; rw [if_neg h1, if_neg h2]

def Hp (a : Nat → Int) (m : Nat) : Prop := ∀ k, 0 < k → k < m → a ((k - 1) / 2) ≤ a k
theorem Hp.min {a : Nat → Int} {m : Nat} (h : Hp a m) : ∀ k, k < m → a 0 ≤ a k := by
  intro k
  induction k using Nat.strongRecOn with
  | _ k ih =>
    intro hk
    by_cases h0 : k = 0
    · subst h0; exact Int.le_refl _
    · exact Int.le_trans (ih ((k - 1) / 2) (by omega) (by omega)) (h k (by omega) hk)

/-- A heap but for place i, whose element may be too small. -/
structure HpUp (a : Nat → Int) (m i : Nat) : Prop where
  h : ∀ k, 0 < k → k < m → k ≠ i → a ((k - 1) / 2) ≤ a k
  c : ∀ k, k < m → 0 < k → 0 < i → (k - 1) / 2 = i → a ((i - 1) / 2) ≤ a k
theorem HpUp.stop0 {a : Nat → Int} {m : Nat} (h : HpUp a m 0) : Hp a m := fun k h0 hk => h.h k h0 hk (by omega)
theorem HpUp.stop {a : Nat → Int} {m i : Nat} (h : HpUp a m i) (hi : a ((i - 1) / 2) ≤ a i) : Hp a m := fun k h0 hk => by
  by_cases e : k = i
  · subst e; exact hi
  · exact h.h k h0 hk e
theorem HpUp.step {a : Nat → Int} {m i : Nat} (h : HpUp a m i) (hi : 0 < i) (him : i < m) (hlt : a i < a ((i - 1) / 2)) : HpUp (sw a ((i - 1) / 2) i) m ((i - 1) / 2) := by
  obtain ⟨p, hp⟩ : ∃ p, (i - 1) / 2 = p := ⟨_, rfl⟩
  rw [hp] at hlt ⊢
  have hpi : p ≠ i := by omega
  constructor
  · intro k h0 hk hkp
    by_cases e : k = i
    · subst e
      rw [hp, sw_l, sw_r]; omega
    · rw [sw_o hkp e]
      by_cases e1 : (k - 1) / 2 = p
      · rw [e1, sw_l]
        have := h.h k h0 hk e
        rw [e1] at this; omega
      · by_cases e2 : (k - 1) / 2 = i
        · rw [e2, sw_r]
          have := h.c k hk h0 hi e2
          rw [hp] at this; exact this
        · rw [sw_o e1 e2]; exact h.h k h0 hk e
  · intro k hk h0 hp0 hkp
    have hg1 : (p - 1) / 2 ≠ p := by omega
    have hg2 : (p - 1) / 2 ≠ i := by omega
    rw [sw_o hg1 hg2]
    have hgp := h.h p hp0 (by omega) hpi
    by_cases e : k = i
    · subst e; rw [sw_r]; exact hgp
    · rw [sw_o (by omega) e]
      have := h.h k h0 hk e
      rw [hkp] at this; omega

/-- A heap but for place i, whose element may be too great. -/
structure HpDn (a : Nat → Int) (m i : Nat) : Prop where
  h : ∀ k, 0 < k → k < m → (k - 1) / 2 ≠ i → a ((k - 1) / 2) ≤ a k
  c : ∀ k, k < m → 0 < k → 0 < i → (k - 1) / 2 = i → a ((i - 1) / 2) ≤ a k
theorem HpDn.stop {a : Nat → Int} {m i : Nat} (h : HpDn a m i) (h1 : 2 * i + 1 < m → a i ≤ a (2 * i + 1)) (h2 : 2 * i + 2 < m → a i ≤ a (2 * i + 2)) : Hp a m := fun k h0 hk => by
  by_cases e : (k - 1) / 2 = i
  · rw [e]
    have : k = 2 * i + 1 ∨ k = 2 * i + 2 := by omega
    rcases this with rfl | rfl
    · exact h1 hk
    · exact h2 hk
  · exact h.h k h0 hk e
theorem HpDn.step {a : Nat → Int} {m i l : Nat} (h : HpDn a m i) (hl : l = 2 * i + 1 ∨ l = 2 * i + 2) (hlm : l < m) (hlt : a l < a i) (h1 : 2 * i + 1 < m → a l ≤ a (2 * i + 1)) (h2 : 2 * i + 2 < m → a l ≤ a (2 * i + 2)) : HpDn (sw a i l) m l := by
  constructor
  · intro k h0 hk hkl
    by_cases e : (k - 1) / 2 = i
    · rw [e, sw_l]
      by_cases ek : k = l
      · subst ek; rw [sw_r]; omega
      · rw [sw_o (by omega) ek]
        have : k = 2 * i + 1 ∨ k = 2 * i + 2 := by omega
        rcases this with rfl | rfl
        · exact h1 hk
        · exact h2 hk
    · rw [sw_o e hkl]
      by_cases ek : k = i
      · subst ek
        rw [sw_l]
        exact h.c l hlm (by omega) h0 (by omega)
      · by_cases ek2 : k = l
        · exfalso; omega
        · rw [sw_o ek ek2]; exact h.h k h0 hk e
  · intro k hk h0 hl0 hkl
    have e1 : (l - 1) / 2 = i := by omega
    rw [e1, sw_l, sw_o (by omega) (by omega)]
    have := h.h k h0 hk (by omega)
    rw [hkl] at this; exact this

/-- The first m are just those with P, each once. -/
structure Cov (a : Nat → Int) (m : Nat) (P : Int → Prop) : Prop where
  all : ∀ k, k < m → P (a k)
  get : ∀ c, P c → ∃ k, k < m ∧ a k = c
  inj : ∀ i j, i < m → j < m → a i = a j → i = j
theorem Cov.swap {a : Nat → Int} {m : Nat} {P : Int → Prop} (h : Cov a m P) {i j : Nat} (hi : i < m) (hj : j < m) : Cov (sw a i j) m P := by
  have key : ∀ k, k < m → ∃ k', k' < m ∧ sw a i j k = a k' ∧ (k' = if k = i then j else if k = j then i else k) := by
    intro k hk
    unfold sw
    by_cases e : k = i
    · exact ⟨j, hj, by rw [if_pos e], by rw [if_pos e]⟩
    · by_cases e2 : k = j
      · exact ⟨i, hi, by rw [if_neg e, if_pos e2], by rw [if_neg e, if_pos e2]⟩
      · exact ⟨k, hk, by rw [if_neg e, if_neg e2], by rw [if_neg e, if_neg e2]⟩
  refine ⟨fun k hk => ?_, fun c hc => ?_, fun x y hx hy hxy => ?_⟩
  · obtain ⟨k', h1, h2, _⟩ := key k hk
    rw [h2]; exact h.all k' h1
  · obtain ⟨k, hk, rfl⟩ := h.get c hc
    by_cases e : k = i
    · exact ⟨j, hj, by rw [sw_r, e]⟩
    · by_cases e2 : k = j
      · exact ⟨i, hi, by rw [sw_l, e2]⟩
      · exact ⟨k, hk, sw_o e e2⟩
  · obtain ⟨x', hx1, hx2, hx3⟩ := key x hx
    obtain ⟨y', hy1, hy2, hy3⟩ := key y hy
    rw [hx2, hy2] at hxy
    have := h.inj x' y' hx1 hy1 hxy
    rw [hx3, hy3] at this
    split at this <;> split at this <;> (try split at this) <;> (try split at this) <;> omega
/-- One more at the end. -/
theorem Cov.push {a : Nat → Int} {m : Nat} {P : Int → Prop} (h : Cov a m P) {x : Int} (hx : ¬ P x) {b : Nat → Int} (hb : ∀ k, k < m → b k = a k) (hbm : b m = x) : Cov b (m + 1) (fun c => P c ∨ c = x) := by
  refine ⟨fun k hk => ?_, fun c hc => ?_, fun i j hi hj hij => ?_⟩
  · by_cases e : k = m
    · subst e; exact .inr hbm
    · rw [hb k (by omega)]; exact .inl (h.all k (by omega))
  · rcases hc with hc | rfl
    · obtain ⟨k, hk, e⟩ := h.get c hc
      exact ⟨k, by omega, by rw [hb k hk]; exact e⟩
    · exact ⟨m, by omega, hbm⟩
  · by_cases e : i = m
    · by_cases e2 : j = m
      · omega
      · subst e
        exfalso
        rw [hbm, hb j (by omega)] at hij
        exact hx (hij ▸ h.all j (by omega))
    · by_cases e2 : j = m
      · subst e2
        exfalso
        rw [hbm, hb i (by omega)] at hij
        exact hx (hij ▸ h.all i (by omega))
      · rw [hb i (by omega), hb j (by omega)] at hij
        exact h.inj i j (by omega) (by omega) hij
/-- The first taken away, the last in its place. -/
theorem Cov.pop {a : Nat → Int} {m : Nat} {P : Int → Prop} (h : Cov a (m + 1) P) : Cov (fun k => if k = 0 then a m else a k) m (fun c => P c ∧ c ≠ a 0) := by
  refine ⟨fun k hk => ?_, fun c hc => ?_, fun i j hi hj hij => ?_⟩
  · by_cases e : k = 0
    · subst e
      simp only [if_true]
      exact ⟨h.all m (by omega), fun e => by have := h.inj m 0 (by omega) (by omega) e; omega⟩
    · simp only [e, if_false]
      exact ⟨h.all k (by omega), fun e' => by have := h.inj k 0 (by omega) (by omega) e'; omega⟩
  · obtain ⟨k, hk, rfl⟩ := h.get c hc.1
    by_cases e : k = m
    · subst e
      have hm : 0 < k := by
        rcases Nat.eq_zero_or_pos k with e0 | e0
        · subst e0; exact absurd rfl hc.2
        · exact e0
      exact ⟨0, hm, by simp⟩
    · have hk0 : k ≠ 0 := fun e0 => by subst e0; exact hc.2 rfl
      exact ⟨k, by omega, by simp [hk0]⟩
  · by_cases e : i = 0
    · by_cases e2 : j = 0
      · omega
      · simp only [e, e2, if_true, if_false] at hij
        have := h.inj m j (by omega) (by omega) hij
        omega
    · by_cases e2 : j = 0
      · simp only [e, e2, if_true, if_false] at hij
        have := h.inj i m (by omega) (by omega) hij
        omega
      · simp only [e, e2, if_false] at hij
        exact h.inj i j (by omega) (by omega) hij
theorem Hp.pop {a : Nat → Int} {m : Nat} (h : Hp a (m + 1)) : HpDn (fun k => if k = 0 then a m else a k) m 0 := by
  constructor
  · intro k h0 hk hne
    simp only [show k ≠ 0 by omega, hne, if_false]
    exact h k h0 (by omega)
  · intro k hk h0 hi; omega
theorem Hp.push {a : Nat → Int} {m : Nat} (h : Hp a m) {b : Nat → Int} (hb : ∀ k, k < m → b k = a k) : HpUp b (m + 1) m := by
  constructor
  · intro k h0 hk hne
    rw [hb k (by omega), hb ((k - 1) / 2) (by omega)]
    exact h k h0 (by omega)
  · intro k hk h0 hm hkm; omega
end Go.Proofs.Ybulkecis

/-
  What New lays: counts, places, the closed-up rows. No Go here.
-/
import Derived.Test.YbulkecisGraph
import Derived.Test.YbulkecisSort
namespace Go.Proofs.Ybulkecis
open Go.RowKit _root_.Go.Proofs.Ybulkecis.Own
set_option linter.unusedVariables false

section
variable (A : Nat → Nat) (R : Nat)
/-- Where v's successors start. -/
def F0 (s : Nat) : Nat := cnt (fun r => decide (A r < s)) R
def cA (v j : Nat) : Nat := cnt (fun r => A r == v) j
/-- Where arc r goes. -/
def pos (r : Nat) : Nat := F0 A R (A r) + cA A (A r) r
theorem F0_zero : F0 A R 0 = 0 := by
  unfold F0
  rw [cnt_zero]
  intro i _; simp
theorem cnt_split : ∀ (j v : Nat), cnt (fun r => decide (A r < v + 1)) j = cnt (fun r => decide (A r < v)) j + cnt (fun r => A r == v) j
  | 0, v => rfl
  | j + 1, v => by
    rw [cnt, cnt, cnt, cnt_split j v]
    by_cases h : A j = v
    · simp [h]; omega
    · by_cases h2 : A j < v
      · have h3 : A j < v + 1 := by omega
        simp [h, h2, h3]; omega
      · have h3 : ¬ A j < v + 1 := by omega
        simp [h, h2, h3]
theorem F0_succ (v : Nat) : F0 A R (v + 1) = F0 A R v + cA A v R := cnt_split A R v
theorem cnt_all {p : Nat → Bool} : ∀ n, (∀ i, i < n → p i = true) → cnt p n = n
  | 0, _ => rfl
  | n + 1, h => by rw [cnt, cnt_all n fun i hi => h i (by omega), h n (by omega)]; simp
theorem F0_top {t : Nat} (h : ∀ r, r < R → A r < t) : F0 A R t = R := cnt_all R fun i hi => by simpa using h i hi
theorem F0_mono {u v : Nat} (h : u ≤ v) : F0 A R u ≤ F0 A R v := cnt_le (fun i hi => by simp at hi ⊢; omega) R
theorem F0_le (v : Nat) : F0 A R v ≤ R := cnt_le_n _ _
theorem cnt_mono {p : Nat → Bool} {m n : Nat} (h : m ≤ n) : cnt p m ≤ cnt p n := by
  induction n with
  | zero => rw [show m = 0 by omega]; exact Nat.le_refl _
  | succ n ih =>
    by_cases e : m = n + 1
    · rw [e]; exact Nat.le_refl _
    · have := ih (by omega); rw [cnt]; omega
theorem cnt_lt {p : Nat → Bool} {m n : Nat} (h : m < n) (hp : p m = true) : cnt p m < cnt p n := by
  have h1 : cnt p (m + 1) ≤ cnt p n := cnt_mono h
  rw [cnt, hp] at h1
  simp at h1
  omega
theorem cnt_find {p : Nat → Bool} {i : Nat} : ∀ n, i < cnt p n → ∃ r, r < n ∧ p r = true ∧ cnt p r = i
  | 0, h => by simp [cnt] at h
  | n + 1, h => by
    by_cases e : i < cnt p n
    · obtain ⟨r, h1, h2⟩ := cnt_find n e
      exact ⟨r, by omega, h2⟩
    · rw [cnt] at h
      cases hp : p n
      · rw [hp] at h; simp at h; omega
      · rw [hp] at h; simp at h
        exact ⟨n, by omega, hp, by omega⟩
variable {A R}
theorem pos_lt {r : Nat} (h : r < R) : pos A R r < F0 A R (A r + 1) := by
  rw [F0_succ]
  unfold pos
  have := cnt_lt (p := fun r' => A r' == A r) h (by simp)
  unfold cA
  omega
theorem pos_ge {r : Nat} : F0 A R (A r) ≤ pos A R r := Nat.le_add_right _ _
theorem pos_R {r : Nat} (h : r < R) : pos A R r < R := Nat.lt_of_lt_of_le (pos_lt h) (F0_le A R _)
theorem pos_inj {r s : Nat} (hr : r < R) (hs : s < R) (e : pos A R r = pos A R s) : r = s := by
  rcases Nat.lt_trichotomy (A r) (A s) with h | h | h
  · have h1 := pos_lt (A := A) hr
    have h2 := F0_mono A R (u := A r + 1) (v := A s) h
    have h3 := pos_ge (A := A) (R := R) (r := s)
    omega
  · unfold pos at e
    rw [h] at e
    have e' : cA A (A s) r = cA A (A s) s := by omega
    unfold cA at e'
    rcases Nat.lt_trichotomy r s with h2 | h2 | h2
    · have := cnt_lt (p := fun r' => A r' == A s) h2 (by simp [h]); omega
    · exact h2
    · have := cnt_lt (p := fun r' => A r' == A s) h2 (by simp); omega
  · have h1 := pos_lt (A := A) hs
    have h2 := F0_mono A R (u := A s + 1) (v := A r) h
    have h3 := pos_ge (A := A) (R := R) (r := r)
    omega
theorem pos_onto {v k : Nat} (h1 : F0 A R v ≤ k) (h2 : k < F0 A R (v + 1)) : ∃ r, r < R ∧ A r = v ∧ pos A R r = k := by
  rw [F0_succ] at h2
  obtain ⟨r, h3, h4, h5⟩ := cnt_find (p := fun r => A r == v) (i := k - F0 A R v) R (by unfold cA at h2; omega)
  have h4' : A r = v := by simpa using h4
  refine ⟨r, h3, h4', ?_⟩
  unfold pos cA
  rw [h4', h5]; omega
end

/-- The first v rows sorted, without repeats, closed up; the rest as filled. -/
structure Cm (R : Nat) (A B : Nat → Nat) (T0 : Nat → Int) (v : Nat) (F1 : Nat → Nat) (T : Nat → Int) : Prop where
  z : F1 0 = 0
  up : ∀ u, u < v → F1 u ≤ F1 (u + 1)
  le : F1 v ≤ F0 A R v
  rest : ∀ k, F0 A R v ≤ k → T k = T0 k
  inc : ∀ u, u < v → ∀ k l, F1 u ≤ k → k < l → l < F1 (u + 1) → T k < T l
  mem : ∀ u, u < v → ∀ x, (∃ k, F1 u ≤ k ∧ k < F1 (u + 1) ∧ T k = x) ↔ ∃ r, r < R ∧ A r = u ∧ (B r : Int) = x
section
variable {R : Nat} {A B : Nat → Nat} {T0 : Nat → Int} {v : Nat} {F1 : Nat → Nat} {T : Nat → Int}
theorem Cm.start : Cm R A B T0 0 (fun _ => 0) T0 := ⟨rfl, fun u h => by omega, Nat.zero_le _, fun _ _ => rfl, fun u h => by omega, fun u h => by omega⟩
theorem Cm.mono (h : Cm R A B T0 v F1 T) : ∀ {a b : Nat}, a ≤ b → b ≤ v → F1 a ≤ F1 b := by
  intro a b hab
  induction b with
  | zero => intro _; rw [show a = 0 by omega]; exact Nat.le_refl _
  | succ b ih =>
    intro hb
    by_cases e : a = b + 1
    · rw [e]; exact Nat.le_refl _
    · exact Nat.le_trans (ih (by omega) (by omega)) (h.up b (by omega))
theorem Seg.move {L o a m : Nat} {T T' : Nat → Int} (h : Seg L o 0 T T' m) (hm : m = 0) : Seg L a 0 T T' m := by
  subst hm
  refine ⟨fun k _ => h.out k (by omega), fun x => ?_⟩
  constructor
  · rintro ⟨k, h1, h2, _⟩; omega
  · rintro ⟨k, h1, h2, _⟩; omega
theorem Seg.trans {L a n m : Nat} {T T' T'' : Nat → Int} (h : Seg L a n T T' n) (k : Seg L a n T' T'' m) : Seg L a n T T'' m :=
  ⟨fun i hi => (k.out i hi).trans (h.out i hi), fun x => (k.mem x).trans (h.mem x)⟩
theorem Cm.step (h : Cm R A B T0 v F1 T) (hfill : ∀ r, r < R → T0 (pos A R r) = B r) {L n m : Nat} {T2 : Nat → Int} (hn : F0 A R v + n = F0 A R (v + 1)) (hm : m ≤ n) (hs : Seg L (F0 A R v) n T T2 m)
    (hi : ∀ k l, F0 A R v ≤ k → k < l → l < F0 A R v + m → T2 k < T2 l) :
    Cm R A B T0 (v + 1) (fun s => if s ≤ v then F1 s else F1 v + m) (over T2 (F1 v) (seg T2 (F0 A R v) m)) := by
  have hle := h.le
  have hlen := seg_len T2 (F0 A R v) m
  have hlow : ∀ k, k < F1 v → over T2 (F1 v) (seg T2 (F0 A R v) m) k = T k := fun k hk => by
    rw [over_out (by omega), hs.out k (by omega)]
  have hmid : ∀ i, i < m → over T2 (F1 v) (seg T2 (F0 A R v) m) (F1 v + i) = T2 (F0 A R v + i) := fun i hi => by
    rw [over_in (by omega)]
    have := seg_get (T := T2) (a := F0 A R v) hi
    rw [List.getElem?_eq_getElem (by omega)] at this
    exact Option.some.inj this
  refine ⟨?_, fun u hu => ?_, ?_, fun k hk => ?_, fun u hu k l h1 h2 h3 => ?_, fun u hu x => ?_⟩
  · simp [h.z]
  · by_cases e : u = v
    · subst e; simp only [Nat.le_refl, if_true]; rw [if_neg (by omega)]; omega
    · rw [if_pos (by omega), if_pos (by omega)]; exact h.up u (by omega)
  · rw [if_neg (by omega)]; omega
  · rw [over_out (by omega), hs.out k (by omega)]
    exact h.rest k (by omega)
  · by_cases e : u = v
    · subst e
      rw [if_pos (Nat.le_refl _)] at h1
      rw [if_neg (by omega)] at h3
      have e1 := hmid (k - F1 u) (by omega)
      have e2 := hmid (l - F1 u) (by omega)
      rw [show F1 u + (k - F1 u) = k by omega] at e1
      rw [show F1 u + (l - F1 u) = l by omega] at e2
      rw [e1, e2]
      exact hi _ _ (by omega) (by omega) (by omega)
    · rw [if_pos (by omega)] at h1 h3
      have := h.mono (a := u + 1) (b := v) (by omega) (Nat.le_refl _)
      rw [hlow k (by omega), hlow l (by omega)]
      exact h.inc u (by omega) k l h1 h2 h3
  · by_cases e : u = v
    · subst e
      rw [if_pos (Nat.le_refl _), if_neg (by omega)]
      have h1 : (∃ k, F1 u ≤ k ∧ k < F1 u + m ∧ over T2 (F1 u) (seg T2 (F0 A R u) m) k = x) ↔ ∃ k, F0 A R u ≤ k ∧ k < F0 A R u + m ∧ T2 k = x := by
        constructor
        · rintro ⟨k, h1, h2, h3⟩
          have e1 := hmid (k - F1 u) (by omega)
          rw [show F1 u + (k - F1 u) = k by omega] at e1
          exact ⟨F0 A R u + (k - F1 u), by omega, by omega, by rw [← e1]; exact h3⟩
        · rintro ⟨k, h1, h2, h3⟩
          exact ⟨F1 u + (k - F0 A R u), by omega, by omega, by rw [hmid _ (by omega), show F0 A R u + (k - F0 A R u) = k by omega]; exact h3⟩
      rw [h1, hs.mem x]
      constructor
      · rintro ⟨k, h2, h3, h4⟩
        obtain ⟨r, h5, h6, h7⟩ := pos_onto h2 (by omega)
        refine ⟨r, h5, h6, ?_⟩
        rw [← hfill r h5, h7, ← h.rest k (by omega)]; exact h4
      · rintro ⟨r, h5, h6, h7⟩
        subst h6
        have h8 := pos_ge (A := A) (R := R) (r := r)
        have h9 := pos_lt (A := A) h5
        exact ⟨pos A R r, h8, by omega, by rw [h.rest _ h8, hfill r h5]; exact h7⟩
    · rw [if_pos (by omega), if_pos (by omega), ← h.mem u (by omega) x]
      have := h.mono (a := u + 1) (b := v) (by omega) (Nat.le_refl _)
      constructor
      · rintro ⟨k, h1, h2, h3⟩; exact ⟨k, h1, h2, by rw [← hlow k (by omega)]; exact h3⟩
      · rintro ⟨k, h1, h2, h3⟩; exact ⟨k, h1, h2, by rw [hlow k (by omega)]; exact h3⟩
/-- Some row holds k. -/
theorem Cm.find (h : Cm R A B T0 v F1 T) {k : Nat} (hk : k < F1 v) : ∃ u, u < v ∧ F1 u ≤ k ∧ k < F1 (u + 1) := by
  have : ∀ b, b ≤ v → k < F1 b → ∃ u, u < b ∧ F1 u ≤ k ∧ k < F1 (u + 1) := by
    intro b
    induction b with
    | zero => intro _ h1; rw [h.z] at h1; omega
    | succ b ih =>
      intro hb h1
      by_cases e : k < F1 b
      · obtain ⟨u, h2, h3⟩ := ih (by omega) e
        exact ⟨u, by omega, h3⟩
      · exact ⟨b, by omega, by omega, h1⟩
  exact this v (Nat.le_refl _) hk
theorem Cm.cell (h : Cm R A B T0 v F1 T) {k : Nat} (hk : k < F1 v) : ∃ r, r < R ∧ (B r : Int) = T k := by
  obtain ⟨u, h1, h2, h3⟩ := h.find hk
  obtain ⟨r, h4, _, h5⟩ := (h.mem u h1 (T k)).1 ⟨k, h2, h3, rfl⟩
  exact ⟨r, h4, h5⟩
theorem Cm.sg {M : Nat → Nat → Bool} (h : Cm R A B T0 v F1 T) (hB : ∀ r, r < R → B r < v) (hM : ∀ u, u < v → ∀ s, M u s = true ↔ ∃ r, r < R ∧ A r = u ∧ B r = s) : Sg v (F1 v) F1 (fun k => (T k).toNat) M := by
  have hnn : ∀ k, k < F1 v → T k = ((T k).toNat : Int) := fun k hk => by
    obtain ⟨r, _, e⟩ := h.cell hk
    omega
  refine ⟨h.z, h.up, rfl, fun k hk => ?_, fun u hu s => ?_, fun u hu k l h1 h2 h3 h4 e => ?_⟩
  · obtain ⟨r, h1, e⟩ := h.cell hk
    have := hB r h1
    show (T k).toNat < v
    omega
  · have hle := h.mono (a := u + 1) (b := v) hu (Nat.le_refl _)
    have := h.mem u hu (s : Int)
    rw [hM u hu s]
    constructor
    · rintro ⟨r, h1, h2, h3⟩
      obtain ⟨k, h4, h5, h6⟩ := this.2 ⟨r, h1, h2, by omega⟩
      exact ⟨k, h4, h5, by show (T k).toNat = s; omega⟩
    · rintro ⟨k, h4, h5, h6⟩
      have h6' : (T k).toNat = s := h6
      have := hnn k (by omega)
      obtain ⟨r, h1, h2, h3⟩ := (h.mem u hu (s : Int)).1 ⟨k, h4, h5, by omega⟩
      exact ⟨r, h1, h2, by omega⟩
  · have hle := h.mono (a := u + 1) (b := v) hu (Nat.le_refl _)
    have e' : (T k).toNat = (T l).toNat := e
    have e1 := hnn k (by omega)
    have e2 := hnn l (by omega)
    rcases Nat.lt_trichotomy k l with h5 | h5 | h5
    · have := h.inc u hu k l h1 h5 h4; omega
    · exact h5
    · have := h.inc u hu l k h3 h5 h2; omega
end
end Go.Proofs.Ybulkecis

/-
  The topological order that always takes the lowest node (Kahn). No Go here.
-/
import Derived.Test.YbulkecisHeap
namespace Go.Proofs.Ybulkecis
set_option linter.unusedVariables false

/-- How many i < n with p. -/
def cnt (p : Nat → Bool) : Nat → Nat
  | 0 => 0
  | n + 1 => cnt p n + if p n then 1 else 0
theorem cnt_ext {p q : Nat → Bool} : ∀ n, (∀ i, i < n → p i = q i) → cnt p n = cnt q n
  | 0, _ => rfl
  | n + 1, h => by rw [cnt, cnt, cnt_ext n fun i hi => h i (by omega), h n (by omega)]
theorem cnt_zero {p : Nat → Bool} : ∀ n, cnt p n = 0 ↔ ∀ i, i < n → p i = false
  | 0 => by simp [cnt]
  | n + 1 => by
    have ih := cnt_zero (p := p) n
    rw [cnt]
    constructor
    · intro h i hi
      by_cases e : i = n
      · subst e
        cases hp : p i
        · rfl
        · rw [hp] at h; simp at h
      · exact ih.1 (by omega) i (by omega)
    · intro h
      rw [ih.2 fun i hi => h i (by omega), h n (by omega)]
      rfl
theorem cnt_drop {p q : Nat → Bool} {j : Nat} (hq : ∀ i, i ≠ j → q i = p i) (hj : q j = false) : ∀ n, j < n → cnt q n + (if p j then 1 else 0) = cnt p n
  | 0, h => by omega
  | n + 1, h => by
    rw [cnt, cnt]
    by_cases e : n = j
    · subst e
      rw [cnt_ext n fun i hi => hq i (by omega), hj]
      simp
    · have ih := cnt_drop hq hj n (by omega)
      rw [hq n e]; omega
theorem cnt_le {p q : Nat → Bool} (h : ∀ i, q i = true → p i = true) : ∀ n, cnt q n ≤ cnt p n
  | 0 => Nat.le_refl _
  | n + 1 => by
    have ih := cnt_le h n
    rw [cnt, cnt]
    cases hq : q n
    · cases p n <;> simp <;> omega
    · rw [h n hq]; omega
theorem cnt_le_n (p : Nat → Bool) : ∀ n, cnt p n ≤ n
  | 0 => Nat.le_refl _
  | n + 1 => by have := cnt_le_n p n; rw [cnt]; split <;> omega

theorem pigeon : ∀ (t m : Nat) (f : Nat → Nat), (∀ i, i < m → f i < t) → (∀ i j, i < m → j < m → f i = f j → i = j) → m ≤ t
  | 0, m, f, h, _ => by
    by_cases hm : m = 0
    · omega
    · have := h 0 (by omega); omega
  | t + 1, m, f, h, hi => by
    by_cases hx : ∃ i, i < m ∧ f i = t
    · obtain ⟨i0, h0, e0⟩ := hx
      have := pigeon t (m - 1) (fun i => if i < i0 then f i else f (i + 1)) (fun i him => by
        show (if i < i0 then f i else f (i + 1)) < t
        by_cases e : i < i0
        · rw [if_pos e]
          have h1 := h i (by omega)
          have h2 : f i ≠ t := fun e' => by have := hi i i0 (by omega) h0 (by omega); omega
          omega
        · rw [if_neg e]
          have h1 := h (i + 1) (by omega)
          have h2 : f (i + 1) ≠ t := fun e' => by have := hi (i + 1) i0 (by omega) h0 (by omega); omega
          omega) (fun i j hi1 hj1 hij => by
        have hij' : (if i < i0 then f i else f (i + 1)) = (if j < i0 then f j else f (j + 1)) := hij
        by_cases e : i < i0 <;> by_cases e2 : j < i0
        · rw [if_pos e, if_pos e2] at hij'; exact hi i j (by omega) (by omega) hij'
        · rw [if_pos e, if_neg e2] at hij'; have := hi i (j + 1) (by omega) (by omega) hij'; omega
        · rw [if_neg e, if_pos e2] at hij'; have := hi (i + 1) j (by omega) (by omega) hij'; omega
        · rw [if_neg e, if_neg e2] at hij'; have := hi (i + 1) (j + 1) (by omega) (by omega) hij'; omega)
      omega
    · have := pigeon t m f (fun i him => by
        have h1 := h i him
        have h2 : f i ≠ t := fun e => hx ⟨i, him, e⟩
        omega) hi
      omega

section
variable {t : Nat} {M : Nat → Nat → Bool}
/-- How many nodes not yet taken have an arc to s. -/
def dg (t : Nat) (M : Nat → Nat → Bool) (os : List Nat) (s : Nat) : Nat := cnt (fun i => M i s && !os.contains i) t
def ready (t : Nat) (M : Nat → Nat → Bool) (os : List Nat) (c : Nat) : Prop := c < t ∧ c ∉ os ∧ dg t M os c = 0
/-- The nodes taken, the lowest first each time. -/
inductive Kh (t : Nat) (M : Nat → Nat → Bool) : List Nat → Prop
  | nil : Kh t M []
  | step {os : List Nat} {v : Nat} : Kh t M os → ready t M os v → (∀ c, ready t M os c → v ≤ c) → Kh t M (os ++ [v])
theorem dg_snoc {os : List Nat} {j : Nat} (hj : j < t) (hn : j ∉ os) (s : Nat) : dg t M (os ++ [j]) s + (if M j s then 1 else 0) = dg t M os s := by
  unfold dg
  have h := cnt_drop (p := fun i => M i s && !os.contains i) (q := fun i => M i s && !(os ++ [j]).contains i) (j := j) (fun i hi => by
    have : (os ++ [j]).contains i = os.contains i := by simp [hi]
    simp only [this]) (by simp) t hj
  have e : (M j s && !os.contains j) = M j s := by
    have : os.contains j = false := by simpa using hn
    rw [this]; simp
  rw [e] at h
  exact h
theorem dg_pos {os : List Nat} {v s : Nat} (hv : v < t) (hn : v ∉ os) (hM : M v s = true) : 0 < dg t M os s := by
  rcases Nat.eq_zero_or_pos (dg t M os s) with h | h
  · have := (cnt_zero t).1 h v hv
    have e : os.contains v = false := by simpa using hn
    rw [hM, e] at this
    cases this
  · exact h
structure Kd (t : Nat) (M : Nat → Nat → Bool) (os : List Nat) : Prop where
  nd : os.Nodup
  lt : ∀ c, c ∈ os → c < t
  done : ∀ c, c ∈ os → dg t M os c = 0
theorem Kd.step {os : List Nat} {v : Nat} (h : Kd t M os) (hr : ready t M os v) : Kd t M (os ++ [v]) := by
  have hle : ∀ c, dg t M (os ++ [v]) c ≤ dg t M os c := fun c => by have := dg_snoc (M := M) hr.1 hr.2.1 c; omega
  refine ⟨?_, fun c hc => ?_, fun c hc => ?_⟩
  · rw [List.nodup_append]
    refine ⟨h.nd, by simp, fun a ha b hb => ?_⟩
    simp at hb
    subst hb
    intro e; subst e; exact hr.2.1 ha
  · rcases List.mem_append.1 hc with hc | hc
    · exact h.lt c hc
    · simp at hc; subst hc; exact hr.1
  · rcases List.mem_append.1 hc with hc | hc
    · have := hle c; have := h.done c hc; omega
    · simp at hc; subst hc
      have := hle c; have := hr.2.2; omega
theorem Kh.kd {os : List Nat} (h : Kh t M os) : Kd t M os := by
  induction h with
  | nil => exact ⟨List.nodup_nil, fun c hc => by simp at hc, fun c hc => by simp at hc⟩
  | step _ hr _ ih => exact ih.step hr
/-- Who is ready behind one more. -/
theorem ready_step {os : List Nat} {v : Nat} (h : Kd t M os) (hr : ready t M os v) (c : Nat) : ready t M (os ++ [v]) c ↔ (ready t M os c ∧ c ≠ v) ∨ (c < t ∧ M v c = true ∧ dg t M (os ++ [v]) c = 0) := by
  have hs := dg_snoc (M := M) hr.1 hr.2.1 c
  constructor
  · rintro ⟨h1, h2, h3⟩
    have h4 : c ∉ os := fun e => h2 (List.mem_append.2 (.inl e))
    have h5 : c ≠ v := fun e => h2 (List.mem_append.2 (.inr (by simp [e])))
    cases hM : M v c
    · rw [hM] at hs
      exact .inl ⟨⟨h1, h4, by simp at hs; omega⟩, h5⟩
    · exact .inr ⟨h1, rfl, h3⟩
  · rintro (⟨⟨h1, h2, h3⟩, h4⟩ | ⟨h1, h2, h3⟩)
    · refine ⟨h1, fun e => ?_, by omega⟩
      rcases List.mem_append.1 e with e | e
      · exact h2 e
      · simp at e; exact h4 e
    · refine ⟨h1, fun e => ?_, h3⟩
      have hp := dg_pos (M := M) hr.1 hr.2.1 h2
      rcases List.mem_append.1 e with e | e
      · have := h.done c e; omega
      · simp at e; subst e; have := hr.2.2; omega
theorem Kh.len {os : List Nat} (h : Kh t M os) : os.length ≤ t := by
  have hk := h.kd
  refine pigeon t os.length (fun i => os.getD i 0) (fun i hi => ?_) (fun i j hi hj e => ?_)
  · refine hk.lt _ ?_
    rw [List.getD_eq_getElem?_getD, List.getElem?_eq_getElem hi]
    exact List.getElem_mem _
  · have e' : os[i] = os[j] := by
      have h1 : os.getD i 0 = os[i] := by rw [List.getD_eq_getElem?_getD, List.getElem?_eq_getElem hi]; rfl
      have h2 : os.getD j 0 = os[j] := by rw [List.getD_eq_getElem?_getD, List.getElem?_eq_getElem hj]; rfl
      rw [← h1, ← h2]; exact e
    have hp := List.pairwise_iff_getElem.1 hk.nd
    rcases Nat.lt_trichotomy i j with h1 | h1 | h1
    · exact absurd e' (hp i j hi hj h1)
    · exact h1
    · exact absurd e'.symm (hp j i hj hi h1)
/-- One way to go on. -/
theorem Kh.unique {os : List Nat} {u v : Nat} (h1 : ready t M os u) (h2 : ∀ c, ready t M os c → u ≤ c) (h3 : ready t M os v) (h4 : ∀ c, ready t M os c → v ≤ c) : u = v := by
  have := h2 v h3
  have := h4 u h1
  omega
theorem Kh.prefix {os : List Nat} (h : Kh t M os) : ∀ {os' : List Nat}, Kh t M os' → os.length ≤ os'.length → ∃ r, os' = os ++ r := by
  intro os' h'
  induction h' with
  | nil =>
    intro hl
    have : os = [] := List.eq_nil_of_length_eq_zero (by simpa using hl)
    exact ⟨[], by rw [this]; rfl⟩
  | @step os1 v hk hr hm ih =>
    intro hl
    by_cases e : os.length ≤ os1.length
    · obtain ⟨r, hr'⟩ := ih e
      exact ⟨r ++ [v], by rw [hr', List.append_assoc]⟩
    · have hle : os.length = os1.length + 1 := by simp at hl; omega
      cases h with
      | nil => simp at hle
      | @step os2 u hk2 hr2 hm2 =>
        have hl2 : os2.length = os1.length := by simp at hle; omega
        have : os2 = os1 := by
          clear ih
          have := Kh.prefix hk2 hk (by omega)
          obtain ⟨r, hr'⟩ := this
          have : r = [] := by
            have := congrArg List.length hr'
            rw [List.length_append] at this
            exact List.eq_nil_of_length_eq_zero (by omega)
          rw [hr', this, List.append_nil]
        subst this
        have := Kh.unique hr2 hm2 hr hm
        subst this
        exact ⟨[], by simp⟩
termination_by os.length
theorem Kh.cut {os : List Nat} (h : Kh t M os) : ∀ k, Kh t M (os.take k) := by
  induction h with
  | nil => intro k; simp; exact .nil
  | @step os v hk hr hm ih =>
    intro k
    by_cases e : k ≤ os.length
    · rw [List.take_append_of_le_length e]; exact ih k
    · rw [List.take_of_length_le (by simp; omega)]; exact .step hk hr hm
theorem Kh.more {os r : List Nat} {x : Nat} (h : Kh t M (os ++ x :: r)) : ready t M os x ∧ ∀ c, ready t M os c → x ≤ c := by
  have h1 := h.cut (os.length + 1)
  have e : (os ++ x :: r).take (os.length + 1) = os ++ [x] := by
    rw [show os ++ x :: r = (os ++ [x]) ++ r by simp, List.take_append_of_le_length (by simp), List.take_of_length_le (by simp)]
  rw [e] at h1
  generalize hL : os ++ [x] = l at h1
  cases h1 with
  | nil => simp at hL
  | @step os2 v hk hr hm =>
    have := List.append_inj' hL rfl
    obtain ⟨rfl, h2⟩ := this
    cases h2
    exact ⟨hr, hm⟩
/-- Two runs that can go no further, or have taken all, are one. -/
theorem Kh.same {a b : List Nat} (ha : Kh t M a) (hb : Kh t M b) (sa : ∀ c, ¬ ready t M a c) (sb : b.length = t ∨ ∀ c, ¬ ready t M b c) : a = b := by
  rcases Nat.le_total a.length b.length with h | h
  · obtain ⟨r, rfl⟩ := ha.prefix hb h
    cases r with
    | nil => simp
    | cons x r => exact absurd hb.more.1 (sa x)
  · obtain ⟨r, rfl⟩ := hb.prefix ha h
    cases r with
    | nil => simp
    | cons x r =>
      rcases sb with sb | sb
      · have := ha.len
        simp at this; omega
      · exact absurd ha.more.1 (sb x)
end
end Go.Proofs.Ybulkecis

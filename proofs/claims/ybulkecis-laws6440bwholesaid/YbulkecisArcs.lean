/-
  The arcs among the nodes of a list, the queue, the slots. No Go here.
-/
import Derived.Test.YbulkecisKahn
namespace Go.Proofs.Ybulkecis
set_option linter.unusedVariables false

/-- The place of v in th, or -1. -/
def ixo (th : List Nat) (v : Nat) : Int := if v ∈ th then (th.idxOf v : Int) else -1
theorem ixo_in {th : List Nat} {v : Nat} (h : v ∈ th) : ixo th v = (th.idxOf v : Int) := by unfold ixo; rw [if_pos h]
theorem ixo_out {th : List Nat} {v : Nat} (h : v ∉ th) : ixo th v = -1 := by unfold ixo; rw [if_neg h]
theorem ixo_snoc {th : List Nat} {v : Nat} (h : v ∉ th) (u : Nat) : ixo (th ++ [v]) u = if u = v then (th.length : Int) else ixo th u := by
  unfold ixo
  by_cases e : u = v
  · subst e
    rw [if_pos (by simp), if_pos rfl, List.idxOf_append, if_neg h]
    simp
  · rw [if_neg e]
    by_cases hu : u ∈ th
    · rw [if_pos (List.mem_append.2 (.inl hu)), if_pos hu, List.idxOf_append, if_pos hu]
    · rw [if_neg (by simp [hu, e]), if_neg hu]
theorem ixo_lt {th : List Nat} {v : Nat} : ixo th v < th.length := by
  unfold ixo
  split
  · have := List.idxOf_lt_length_iff.2 ‹v ∈ th›; omega
  · omega
theorem ixo_nonneg {th : List Nat} {v : Nat} : 0 ≤ ixo th v ↔ v ∈ th := by
  unfold ixo
  split
  · simp [*]
  · simp [*]
theorem take_snoc' {α : Type} (l : List α) (k : Nat) (h : k < l.length) : l.take (k + 1) = l.take k ++ [l[k]] := by
  rw [List.take_succ_eq_append_getElem h]

/-- One row of arcs. -/
def rowA (th : List Nat) (i : Nat) (l : List Nat) : List (Nat × Nat) := l.filterMap fun x => if x ∈ th then some (i, th.idxOf x) else none
theorem rowA_snoc (th : List Nat) (i : Nat) (l : List Nat) (x : Nat) : rowA th i (l ++ [x]) = rowA th i l ++ (if x ∈ th then [(i, th.idxOf x)] else []) := by
  unfold rowA
  rw [List.filterMap_append]
  by_cases h : x ∈ th <;> simp [h]
theorem rowA_len (th : List Nat) (i : Nat) (l : List Nat) : (rowA th i l).length ≤ l.length := List.length_filterMap_le _ _
theorem rowA_mem {th : List Nat} {i : Nat} {l : List Nat} {p : Nat × Nat} (h : p ∈ rowA th i l) : p.1 = i ∧ p.2 < th.length := by
  unfold rowA at h
  rw [List.mem_filterMap] at h
  obtain ⟨x, _, h⟩ := h
  by_cases hx : x ∈ th
  · rw [if_pos hx] at h
    cases h
    exact ⟨rfl, List.idxOf_lt_length_iff.2 hx⟩
  · rw [if_neg hx] at h; cases h
theorem rowA_take (th : List Nat) (i : Nat) (l : List Nat) (j : Nat) : (rowA th i (l.take j)).length ≤ (rowA th i l).length := ((List.take_sublist j l).filterMap _).length_le
/-- The arcs of the first k nodes. -/
def arcsA (O : Nat → List Nat) (th : List Nat) : Nat → List (Nat × Nat)
  | 0 => []
  | k + 1 => arcsA O th k ++ rowA th k (O (th.getD k 0))
theorem arcsA_mem {O : Nat → List Nat} {th : List Nat} {p : Nat × Nat} : ∀ {k : Nat}, p ∈ arcsA O th k → p.1 < k ∧ p.2 < th.length
  | 0, h => by simp [arcsA] at h
  | k + 1, h => by
    rw [arcsA, List.mem_append] at h
    rcases h with h | h
    · have := arcsA_mem h; omega
    · have := rowA_mem h; omega
theorem sum_le {f : Nat → Nat} : ∀ (l r : List Nat), l.Nodup → (∀ x, x ∈ l → x ∈ r) → (l.map f).sum ≤ (r.map f).sum
  | [], r, _, _ => by simp
  | a :: l, r, hn, hs => by
    have ha := hs a (by simp)
    have hp := (List.perm_cons_erase ha).map f
    have hr : (r.map f).sum = f a + ((r.erase a).map f).sum := by
      rw [hp.sum_nat]; simp
    rw [List.nodup_cons] at hn
    have ih := sum_le (f := f) l (r.erase a) hn.2 fun x hx => (List.mem_erase_of_ne (fun e => hn.1 (by rw [← e]; exact hx))).2 (hs x (List.mem_cons_of_mem _ hx))
    rw [hr]; simp; omega
theorem arcsA_len (O : Nat → List Nat) (th : List Nat) : ∀ k, k ≤ th.length → (arcsA O th k).length ≤ ((th.take k).map fun v => (O v).length).sum
  | 0, _ => by simp [arcsA]
  | k + 1, h => by
    have ih := arcsA_len O th k (by omega)
    have hl := rowA_len th k (O (th.getD k 0))
    rw [arcsA, List.length_append, take_snoc' th k (by omega), List.map_append, List.sum_append]
    have e : th.getD k 0 = th[k] := by rw [List.getD_eq_getElem?_getD, List.getElem?_eq_getElem (by omega)]; rfl
    rw [e] at hl ⊢
    simp only [List.map_cons, List.map_nil, List.sum_cons, List.sum_nil]
    omega
/-- The sum of the first n lengths. -/
def tot (L : Nat → Nat) : Nat → Nat
  | 0 => 0
  | n + 1 => tot L n + L n
theorem tot_sum (L : Nat → Nat) : ∀ n, tot L n = ((List.range n).map L).sum
  | 0 => rfl
  | n + 1 => by rw [tot, tot_sum L n, List.range_succ]; simp
theorem tot_mono (L : Nat → Nat) {m n : Nat} (h : m ≤ n) : tot L m ≤ tot L n := by
  induction n with
  | zero => rw [show m = 0 by omega]; exact Nat.le_refl _
  | succ n ih =>
    by_cases e : m = n + 1
    · rw [e]; exact Nat.le_refl _
    · have := ih (by omega); rw [tot]; omega
theorem tot_ext {L L' : Nat → Nat} : ∀ n, (∀ i, i < n → L i = L' i) → tot L n = tot L' n
  | 0, _ => rfl
  | n + 1, h => by rw [tot, tot, tot_ext n fun i hi => h i (by omega), h n (by omega)]
theorem arcsA_le {O : Nat → List Nat} {th : List Nat} {n k : Nat} (hn : th.Nodup) (hl : ∀ v, v ∈ th → v < n) (hk : k ≤ th.length) : (arcsA O th k).length ≤ tot (fun v => (O v).length) n := by
  refine Nat.le_trans (arcsA_len O th k hk) ?_
  rw [tot_sum]
  refine sum_le _ _ (List.Sublist.nodup (List.take_sublist _ _) hn) fun x hx => ?_
  exact List.mem_range.2 (hl x (List.take_subset _ _ hx))
theorem nodup_le {th : List Nat} {n : Nat} (hn : th.Nodup) (hl : ∀ v, v ∈ th → v < n) : th.length ≤ n := by
  have h := sum_le (f := fun _ => 1) th (List.range n) hn fun x hx => List.mem_range.2 (hl x hx)
  have e : ∀ l : List Nat, (l.map fun _ => 1).sum = l.length := fun l => by
    induction l with
    | nil => rfl
    | cons a l ih => simp [ih]; omega
  rw [e, e, List.length_range] at h
  exact h

/-- All lists one behind the other. -/
def flat (O : Nat → List Nat) : Nat → List Nat
  | 0 => []
  | n + 1 => flat O n ++ O n
theorem flat_len (O : Nat → List Nat) : ∀ n, (flat O n).length = tot (fun v => (O v).length) n
  | 0 => rfl
  | n + 1 => by rw [flat, tot, List.length_append, flat_len O n]
theorem flat_get (O : Nat → List Nat) {v j : Nat} (hj : j < (O v).length) : ∀ n, v < n → (flat O n)[tot (fun v => (O v).length) v + j]? = (O v)[j]?
  | 0, h => by omega
  | n + 1, h => by
    rw [flat]
    by_cases e : v = n
    · subst e
      rw [List.getElem?_append_right (by rw [flat_len]; omega), flat_len]
      congr 1; omega
    · have h2 : tot (fun v => (O v).length) v + j < tot (fun v => (O v).length) n := by
        have := tot_mono (fun v => (O v).length) (m := v + 1) (n := n) (by omega)
        rw [tot] at this; omega
      rw [List.getElem?_append_left (by rw [flat_len]; exact h2)]
      exact flat_get O hj n (by omega)

/-- The numbers not marked. -/
def unq (b : Nat → Bool) : Nat → List Nat
  | 0 => []
  | k + 1 => unq b k ++ (if b k then [] else [k])
theorem unq_len (b : Nat → Bool) : ∀ k, (unq b k).length ≤ k
  | 0 => Nat.le_refl _
  | k + 1 => by
    have := unq_len b k
    rw [unq, List.length_append]
    split <;> simp <;> omega

/-- The matrix of the arcs. -/
def mt (al : List (Nat × Nat)) (u s : Nat) : Bool := decide ((u, s) ∈ al)
theorem mt_snoc {al : List (Nat × Nat)} {i s : Nat} (u r : Nat) : mt (al ++ [(i, s)]) u r = (mt al u r || (decide (u = i) && decide (r = s))) := by
  unfold mt
  by_cases h : (u, r) ∈ al
  · simp [h]
  · simp [h]
theorem cnt_add {p q : Nat → Bool} {j : Nat} (hq : ∀ i, i ≠ j → q i = p i) (hp : p j = false) (hj : q j = true) (n : Nat) (h : j < n) : cnt q n = cnt p n + 1 := by
  have h1 := cnt_drop (p := q) (q := p) (j := j) (fun i hi => (hq i hi).symm) hp n h
  rw [hj] at h1
  simp at h1; omega
theorem cnt_mt_new {al : List (Nat × Nat)} {i s t : Nat} (h : mt al i s = false) (hi : i < t) (r : Nat) : cnt (fun u => mt (al ++ [(i, s)]) u r) t = cnt (fun u => mt al u r) t + if r = s then 1 else 0 := by
  by_cases e : r = s
  · subst e
    rw [if_pos rfl]
    refine cnt_add (j := i) (fun u hu => ?_) h ?_ t hi
    · show mt _ u r = mt _ u r
      rw [mt_snoc]; simp [hu]
    · show mt _ i r = true
      rw [mt_snoc]; simp
  · rw [if_neg e]
    refine cnt_ext t fun u _ => ?_
    rw [mt_snoc]; simp [e]
theorem mt_old {al : List (Nat × Nat)} {i s : Nat} (h : mt al i s = true) (u r : Nat) : mt (al ++ [(i, s)]) u r = mt al u r := by
  rw [mt_snoc]
  by_cases e : u = i ∧ r = s
  · obtain ⟨rfl, rfl⟩ := e; simp [h]
  · by_cases e1 : u = i
    · by_cases e2 : r = s
      · exact absurd ⟨e1, e2⟩ e
      · simp [e2]
    · simp [e1]
theorem dg_mt (al : List (Nat × Nat)) (t s : Nat) : dg t (mt al) [] s = cnt (fun u => mt al u s) t := by
  unfold dg
  exact cnt_ext t fun i _ => by simp
/-- Where (i, s) lies in a matrix of rows of t. -/
theorem mat_at {t i s k : Nat} (hs : s < t) : k = i * t + s ↔ k / t = i ∧ k % t = s := by
  constructor
  · rintro rfl
    constructor
    · rw [Nat.mul_comm, Nat.mul_add_div (by omega), Nat.div_eq_of_lt hs]; omega
    · rw [Nat.mul_comm, Nat.mul_add_mod, Nat.mod_eq_of_lt hs]
  · rintro ⟨rfl, rfl⟩
    rw [Nat.mul_comm]; exact (Nat.div_add_mod k t).symm
theorem mat_lt {t i s : Nat} (hi : i < t) (hs : s < t) : i * t + s < t * t := by
  have : (i + 1) * t ≤ t * t := Nat.mul_le_mul_right t hi
  rw [Nat.add_mul] at this; omega
end Go.Proofs.Ybulkecis

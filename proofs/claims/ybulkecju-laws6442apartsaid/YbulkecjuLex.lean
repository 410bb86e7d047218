/-
  A region that draws its order: its lexical check by a cheaper walk of the list. It speaks of no program.
-/
import Derived.Deep.Quiet
import Derived.KernelRfl
namespace Go.Proofs.Ybulkecju
set_option linter.unusedVariables false

def lexList (md : Region.Mode) (ops : Array Oper) : Nat → List Oper → Bool
  | _, [] => true
  | k, o :: rest => (o.after.all fun e => !Region.binds md e || decide (e.on < k)) && (rest.all fun oj => oj.after.any (fun e => Region.binds md e && e.on == k) || o.apart ops oj) && lexList md ops (k + 1) rest

/-- The first k are listed. -/
def Listed (n k : Nat) (L : Array Bool) : Prop := L.size = n ∧ ∀ j, j < n → L[j]? = some (decide (j < k))

theorem Listed.getD {n k : Nat} {L : Array Bool} (h : Listed n k L) {j : Nat} (hj : j < n) (d : Bool) : L.getD j d = decide (j < k) := by
  have := h.2 j hj
  simp [Array.getD_eq_getD_getElem?, this]

theorem lexFrom_of {md : Region.Mode} {ops : Array Oper} : ∀ (l : List Oper) (k : Nat) (L : Array Bool), (∀ j, l[j]? = ops[k + j]?) → Listed ops.size k L → lexList md ops k l = true → Region.lexFrom md ops l.length k L = true
  | [], k, L, hl, hL, _ => by
    have hk : ops.size ≤ k := by
      have := hl 0
      simp at this
      exact this
    simp only [List.length_nil, Region.lexFrom, Region.ready, List.isEmpty_iff, List.filter_eq_nil_iff, List.mem_range]
    intro i hi
    have : L.getD i true = true := by rw [hL.getD hi]; simp; omega
    simp [this]
  | o :: l, k, L, hl, hL, h => by
    have h0 : ops[k]? = some o := by simpa using (hl 0).symm
    have hkn : k < ops.size := (Array.getElem?_eq_some_iff.1 h0).1
    simp only [lexList, Bool.and_eq_true] at h
    obtain ⟨⟨ha, hf⟩, hr⟩ := h
    simp only [List.length_cons, Region.lexFrom, Bool.and_eq_true]
    refine ⟨⟨?_, ?_⟩, lexFrom_of l (k + 1) _ (fun j => by have := hl (j + 1); simpa [Nat.add_assoc, Nat.add_comm 1 j] using this) ?_ hr⟩
    · rw [List.contains_iff_mem, Region.ready, List.mem_filter, List.mem_range]
      refine ⟨hkn, ?_⟩
      rw [hL.getD hkn, h0]
      simp only [Nat.lt_irrefl, decide_false, Bool.not_false, Bool.true_and, Option.map_some, Option.getD_some]
      rw [Array.all_eq_true_iff_forall_mem] at ha ⊢
      intro e he
      have h1 := ha e he
      simp only [Bool.or_eq_true, decide_eq_true_eq] at h1 ⊢
      rcases h1 with h1 | h1
      · exact .inl h1
      · refine .inr ?_
        rw [hL.getD (by omega)]
        simp [h1]
    · simp only [Region.free, h0, List.all_eq_true, List.mem_range]
      intro j hj
      by_cases hjk : j = k
      · simp [hjk]
      · by_cases hlt : j < k
        · rw [hL.getD hj]; simp [hlt]
        · have hj2 := hl (j - k)
          rw [show k + (j - k) = j by omega, show j - k = (j - k - 1) + 1 by omega, List.getElem?_cons_succ] at hj2
          obtain ⟨oj, hoj⟩ : ∃ oj, ops[j]? = some oj := ⟨ops[j], by simp [hj]⟩
          rw [hoj] at hj2
          have hm : oj ∈ l := List.mem_of_getElem? hj2
          rw [hoj]
          have := List.all_eq_true.1 hf oj hm
          simp only [this, Bool.or_true]
    · refine ⟨by simp [hL.1], fun j hj => ?_⟩
      rw [Array.getElem?_setIfInBounds]
      by_cases hjk : k = j
      · subst hjk
        simp [hL.1, hkn]
      · rw [if_neg hjk, hL.2 j hj]
        congr 1
        simp
        omega

theorem lexB_of {md : Region.Mode} {l : List Oper} (hs : Region.noSelect l.toArray = true) (h : lexList md l.toArray 0 l = true) : Region.lexB md l.toArray = true := by
  simp only [Region.lexB, hs, Bool.true_and]
  refine lexFrom_of l 0 _ (fun j => by simp) ⟨by simp, ?_⟩ h
  intro j hj
  have hj' : j < l.length := by simpa using hj
  simp [hj']
end Go.Proofs.Ybulkecju

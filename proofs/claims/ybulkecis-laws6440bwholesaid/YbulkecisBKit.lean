/-
  The law's model: the matrix, the counts. No Go here but the rows of cells.
-/
import Derived.Test.YbulkecisSep
namespace Go.Proofs.Ybulkecis
open Go.RowKit _root_.Go.Proofs.Ybulkecis.Own
set_option linter.unusedVariables false

/-- The counts of arcs that come in. -/
def dI (al : List (Nat × Nat)) (t s : Nat) : Int := ((cnt (fun u => mt al u s) t : Nat) : Int)
/-- The matrix, row after row. -/
def mB (al : List (Nat × Nat)) (t c : Nat) : Bool := mt al (c / t) (c % t)
theorem dI_old {al : List (Nat × Nat)} {i s t : Nat} (h : mt al i s = true) : il t (dI al t) = il t (dI (al ++ [(i, s)]) t) := il_ext fun r _ => by
  unfold dI
  rw [cnt_ext t fun u _ => (mt_old h u r).symm]
theorem dI_new {al : List (Nat × Nat)} {i s t : Nat} (h : mt al i s = false) (hi : i < t) : (il t fun r => if r = s then dI al t s + 1 else dI al t r) = il t (dI (al ++ [(i, s)]) t) := il_ext fun r _ => by
  unfold dI
  rw [cnt_mt_new h hi r]
  by_cases e : r = s
  · subst e; simp
  · simp [e]
theorem mB_old {al : List (Nat × Nat)} {i s t m : Nat} (h : mt al i s = true) : bl m (mB al t) = bl m (mB (al ++ [(i, s)]) t) := bl_ext fun c _ => by
  unfold mB
  rw [mt_old h]
theorem mB_new {al : List (Nat × Nat)} {i s t m : Nat} (hs : s < t) : (bl m fun c => if c = i * t + s then true else mB al t c) = bl m (mB (al ++ [(i, s)]) t) := bl_ext fun c _ => by
  unfold mB
  rw [mt_snoc]
  by_cases e : c = i * t + s
  · obtain ⟨h1, h2⟩ := (mat_at hs).1 e
    rw [if_pos e, h1, h2]; simp
  · rw [if_neg e]
    have h1 : ¬ (c / t = i ∧ c % t = s) := fun h => e ((mat_at hs).2 h)
    by_cases e1 : c / t = i
    · by_cases e2 : c % t = s
      · exact absurd ⟨e1, e2⟩ h1
      · simp [e2]
    · simp [e1]
theorem mB_at {al : List (Nat × Nat)} {i s t : Nat} (hs : s < t) : mB al t (i * t + s) = mt al i s := by
  obtain ⟨h1, h2⟩ := (mat_at (i := i) hs).1 rfl
  unfold mB
  rw [h1, h2]
theorem dI_le (al : List (Nat × Nat)) (t s : Nat) : 0 ≤ dI al t s ∧ dI al t s ≤ t := by
  unfold dI
  have := cnt_le_n (fun u => mt al u s) t
  omega
theorem dI_nil (t s : Nat) : dI [] t s = 0 := by
  unfold dI
  rw [(cnt_zero t).2 fun u _ => by simp [mt]]; rfl
theorem mB_nil (t c : Nat) : mB [] t c = false := by simp [mB, mt]
theorem dI_dg (al : List (Nat × Nat)) (t s : Nat) : dI al t s = ((dg t (mt al) [] s : Nat) : Int) := by
  unfold dI
  rw [dg_mt]

theorem Spl.tail {w0 w : World} {r : Res} {L : List Res} (h : Spl w0 w (r :: L)) : Spl w0 w L :=
  ⟨h.bel, fun i s hs => h.all (i + 1) s hs, fun i s hs => h.fr (i + 1) s hs, fun i j s u hij hs hu => h.ap (i + 1) (j + 1) s u (by omega) hs hu⟩
/-- The three behind the first are let go. -/
theorem Spl.keep1 {w0 w : World} {a b c d : Res} {L : List Res} (h : Spl w0 w (a :: b :: c :: d :: L)) : Spl w0 w (a :: L) := by
  have h1 : Spl w0 w ([b, c, d, a] ++ L) := h.perm (List.Perm.append_right L (List.perm_append_comm (l₁ := [a]) (l₂ := [b, c, d])))
  exact h1.tail.tail.tail
theorem taken_next {os : List Nat} {c t : Nat} : (bl t fun k => if k = c then true else decide (k ∈ os)) = bl t fun k => decide (k ∈ os ++ [c]) := bl_ext fun k _ => by
  by_cases e : k = c
  · simp [e]
  · simp [e]
theorem dg_next {t : Nat} {M : Nat → Nat → Bool} {os : List Nat} {c k s : Nat} (hr : ready t M os c) : (if s = k then ((dg t M os k : Nat) : Int) - (if M c k then 1 else 0) else if s < k then ((dg t M (os ++ [c]) s : Nat) : Int) else ((dg t M os s : Nat) : Int)) = if s < k + 1 then ((dg t M (os ++ [c]) s : Nat) : Int) else ((dg t M os s : Nat) : Int) := by
  have h := dg_snoc (M := M) hr.1 hr.2.1 k
  by_cases e : s = k
  · subst e
    rw [if_pos rfl, if_pos (show s < s + 1 by omega)]
    cases hM : M c s
    · rw [hM] at h; simp at h ⊢; omega
    · rw [hM] at h; simp at h ⊢; omega
  · by_cases e2 : s < k
    · rw [if_neg e, if_pos e2, if_pos (by omega)]
    · rw [if_neg e, if_neg e2, if_neg (by omega)]
theorem dg_le (t : Nat) (M : Nat → Nat → Bool) (os : List Nat) (s : Nat) : dg t M os s ≤ t := cnt_le_n _ _
end Go.Proofs.Ybulkecis

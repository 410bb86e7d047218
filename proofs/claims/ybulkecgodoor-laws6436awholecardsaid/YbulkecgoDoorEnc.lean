/-
  The bytes of a series at an order, of the exceptions; their lengths.
-/
import Derived.Test.YbulkecgoDoorFrB
import Derived.Test.YbulkecgoDoorChunk
namespace Go.Proofs.YbulkecgoDoor
open Go.RowKit Go.Shelf _root_.Go.Proofs.YbulkecgoDoor.Own
set_option linter.unusedVariables false
set_option maxRecDepth 100000

/-- The first i values. -/
def hdB (D : Nat → Int) : Nat → List Nat
  | 0 => []
  | i + 1 => hdB D i ++ uvB (zg (D i))
theorem hdB_len (D : Nat → Int) : ∀ i, (hdB D i).length = hdL D i
  | 0 => rfl
  | i + 1 => by rw [hdB, List.length_append, hdB_len D i, uvB_len _ _ (Nat.le_refl _)]; rfl
/-- The frames from s on. -/
def fsB (D : Nat → Int) (n s : Nat) : List Nat := if h : s < n then frB (sh D s) (min 128 (n - s)) ++ fsB D n (s + 128) else []
termination_by n - s
theorem fsB_lt {D : Nat → Int} {n s : Nat} (h : s < n) : fsB D n s = frB (sh D s) (min 128 (n - s)) ++ fsB D n (s + 128) := by rw [fsB]; simp [h]
theorem fsB_ge {D : Nat → Int} {n s : Nat} (h : ¬ s < n) : fsB D n s = [] := by rw [fsB]; simp [h]
theorem fsB_len {D : Nat → Int} {n : Nat} : ∀ (m s : Nat), n - s ≤ m → (fsB D n s).length = frs D n s
  | 0, s, h => by rw [fsB_ge (by omega), frs_ge (by omega)]; rfl
  | m + 1, s, h => by
    by_cases hs : s < n
    · rw [fsB_lt hs, frs_lt hs, List.length_append, frB_len, fsB_len m (s + 128) (by omega)]
    · rw [fsB_ge hs, frs_ge hs]; rfl
/-- The frames numbered. -/
def frsB (D : Nat → Int) (n q : Nat) : List Nat → List Nat
  | [] => []
  | k :: r => frB (sh D (q + 128 * cl (n - q) k)) (min 128 (n - q - 128 * cl (n - q) k)) ++ frsB D n q r
theorem frsB_snoc (D : Nat → Int) (n q : Nat) : ∀ (l : List Nat) (k : Nat), frsB D n q (l ++ [k]) = frsB D n q l ++ frB (sh D (q + 128 * cl (n - q) k)) (min 128 (n - q - 128 * cl (n - q) k))
  | [], k => by simp [frsB]
  | x :: r, k => by simp [frsB, frsB_snoc D n q r k]
theorem frsB_len (D : Nat → Int) (n q : Nat) : ∀ l : List Nat, (frsB D n q l).length = frSum D n q l
  | [] => rfl
  | k :: r => by simp only [frsB, frSum, List.length_append, frB_len, frsB_len D n q r]
theorem frsB_fs {D : Nat → Int} {n q : Nat} : ∀ (j k : Nat), j + k = nfr (n - q) → frsB D n q ((List.range j).map (k + ·)) = fsB D n (q + 128 * k)
  | 0, k, h => by
    rw [fsB_ge (by unfold nfr at h; omega)]
    simp [frsB]
  | j + 1, k, h => by
    have hk : q + 128 * k < n := by unfold nfr at h; omega
    have hc : cl (n - q) k = k := by unfold cl; omega
    rw [List.range_succ_eq_map, List.map_cons, fsB_lt hk]
    simp only [frsB, Nat.add_zero, hc]
    have := frsB_fs (D := D) (n := n) (q := q) j (k + 1) (by omega)
    rw [show q + 128 * k + 128 = q + 128 * (k + 1) by omega, ← this]
    simp only [List.map_map]
    congr 1
    · congr 1; omega
    · congr 1
      apply List.map_congr_left
      intro i _
      simp; omega
theorem frsB_all {D : Nat → Int} {n q : Nat} : frsB D n q (List.range (nfr (n - q))) = fsB D n q := by
  have := frsB_fs (D := D) (n := n) (q := q) (nfr (n - q)) 0 (by omega)
  simpa using this
/-- A series at its order. -/
def encD (D : Nat → Int) (n q : Nat) : List Nat := [q] ++ hdB D q ++ fsB D n q
theorem encD_len (D : Nat → Int) (n q : Nat) : (encD D n q).length = dln D n q := by
  unfold encD dln
  rw [List.length_append, List.length_append, hdB_len, fsB_len n q (by omega)]
  rfl

/-- The first k exceptions. -/
def xsB (V : Nat → Nat) (E : Nat → Nat) : Nat → List Nat
  | 0 => []
  | k + 1 => xsB V E k ++ (uvB (E k - nxt E k) ++ le8 (V (E k)))
theorem xsB_len (V E : Nat → Nat) : ∀ k, (xsB V E k).length = xs8 E k
  | 0 => rfl
  | k + 1 => by rw [xsB, List.length_append, List.length_append, xsB_len V E k, uvB_len _ _ (Nat.le_refl _), le8_len]; rfl
/-- The exceptions with their number. -/
def exB (V E : Nat → Nat) (k : Nat) : List Nat := uvB k ++ xsB V E k
theorem exB_len (V E : Nat → Nat) (k : Nat) : (exB V E k).length = exL E k := by
  unfold exB exL
  rw [List.length_append, xsB_len, uvB_len _ _ (Nat.le_refl _)]

/-- The bytes behind a box: the buffer in hand, the box that holds it. -/
structure Ap (w W : World) (v : Value) (B : Nat) (ds : List Nat) (v' : Value) : Prop where
  buf : Bf w W v v' ds
  box : W.heap[B]? = some (.cells #[v'] 22 (0, 0))
  ne : v'.ownBlock ≠ some B
theorem Ap.lt {w W : World} {v v' : Value} {B : Nat} {ds : List Nat} (h : Ap w W v B ds v') : B < W.heap.size := (Array.getElem?_eq_some_iff.1 h.box).1
theorem Ap.cell {w W : World} {v v' : Value} {B : Nat} {ds : List Nat} (h : Ap w W v B ds v') : W.cell? ⟨B, 0, none⟩ = some v' := by rw [cell_of_row _ _ 0 _ _ _ h.box]; rfl
theorem Ap.free {w W : World} {v v' : Value} {B : Nat} {ds : List Nat} (h : Ap w W v B ds v') : W.frozen? ⟨B, 0, none⟩ = false := frozen_of_row _ _ 0 _ _ h.box
theorem Ap.mid {w W W1 : World} {v v' v1 : Value} {B : Nat} {ds es : List Nat} (h : Ap w W v B ds v') (k : Bf W W1 v' v1 es) : W1.heap[B]? = some (.cells #[v'] 22 (0, 0)) := (k.onl.block B h.lt h.ne).trans h.box
theorem Ap.step {w W W1 : World} {v v' v1 : Value} {B : Nat} {ds es : List Nat} (h : Ap w W v B ds v') (k : Bf W W1 v' v1 es) (hB : w.heap.size ≤ B) : Ap w (W1.setCell ⟨B, 0, none⟩ v1) v B es v1 := by
  have hne : v1.ownBlock ≠ some B := fun e => by
    rcases k.blk B e with e' | e'
    · exact h.ne e'
    · have := h.lt; omega
  have hb := h.buf.trans k
  refine ⟨⟨hb.own.frame fun g hg => Below.heap_setCell _ _ _ _ (fun e => hne (by subst e; exact hg)), hb.onl.setCell _ _ (fun hlt => absurd hlt (by show ¬ B < _; omega)), hb.blk⟩, ?_, hne⟩
  exact heap_setCell_same W1 B 0 _ 22 v1 (h.mid k)
theorem Ap.later {w W W1 : World} {v v' : Value} {B : Nat} {ds : List Nat} (h : Ap w W v B ds v') (k : Below W.heap.size W W1) : Ap w W1 v B ds v' := ⟨h.buf.later k, (k.block B h.lt).trans h.box, h.ne⟩
end Go.Proofs.YbulkecgoDoor

/-
  plan's state: the series, the exceptions, and where they lie.
-/
import Derived.Test.YbulkecgoDoorScaled
import Derived.Test.YbulkecgoDoorGrow
import Derived.Test.YbulkecgoDoorOwn
namespace Go.Proofs.YbulkecgoDoor
open Go.RowKit Go.Shelf _root_.Go.Proofs.YbulkecgoDoor.Own
set_option linter.unusedVariables false
set_option maxRecDepth 100000

/-- The value before place i. -/
def pv (V : Nat → Nat) (k : Nat) : Nat → Int
  | 0 => 0
  | i + 1 => if scOK (V i) k then scV (V i) k else pv V k i
/-- The series. -/
def bas (V : Nat → Nat) (k : Nat) (i : Nat) : Int := pv V k (i + 1)
/-- The exceptions among the first i. -/
def exs (V : Nat → Nat) (k : Nat) : Nat → List Nat
  | 0 => []
  | i + 1 => if scOK (V i) k then exs V k i else exs V k i ++ [i]
def exV' (V : Nat → Nat) (k i : Nat) : List Value := (exs V k i).map (fun p => Value.int .i64 ((p : Nat) : Int))
def exE (V : Nat → Nat) (k i : Nat) (j : Nat) : Nat := (exs V k i).getD j 0
theorem pv_ok {V : Nat → Nat} {k i : Nat} (h : scOK (V i) k = true) : pv V k (i + 1) = scV (V i) k := by rw [pv]; rw [if_pos h]
theorem pv_no {V : Nat → Nat} {k i : Nat} (h : scOK (V i) k = false) : pv V k (i + 1) = pv V k i := by rw [pv]; rw [h]; rfl
theorem exs_ok {V : Nat → Nat} {k i : Nat} (h : scOK (V i) k = true) : exs V k (i + 1) = exs V k i := by rw [exs]; rw [if_pos h]
theorem exs_no {V : Nat → Nat} {k i : Nat} (h : scOK (V i) k = false) : exs V k (i + 1) = exs V k i ++ [i] := by rw [exs]; rw [h]; rfl
theorem exV'_ok {V : Nat → Nat} {k i : Nat} (h : scOK (V i) k = true) : exV' V k (i + 1) = exV' V k i := by unfold exV'; rw [exs_ok h]
theorem exV'_no {V : Nat → Nat} {k i : Nat} (h : scOK (V i) k = false) : exV' V k (i + 1) = exV' V k i ++ [.int .i64 (i : Int)] := by unfold exV'; rw [exs_no h]; simp
theorem exs_len (V : Nat → Nat) (k : Nat) : ∀ i, (exs V k i).length ≤ i
  | 0 => Nat.le_refl _
  | i + 1 => by
    have := exs_len V k i
    cases h : scOK (V i) k
    · rw [exs_no h]; simp; omega
    · rw [exs_ok h]; omega
theorem exV'_len (V : Nat → Nat) (k i : Nat) : (exV' V k i).length = (exs V k i).length := by simp [exV']
theorem scV_rng {b k : Nat} (h : scOK b k = true) : -9223372036854775808 ≤ scV b k ∧ scV b k ≤ 9223372036854775807 := by
  by_cases hk : k = 0
  · subst hk
    rw [scOK_zero] at h
    rw [scV_zero]
    exact (conv_int (okI_inR h)).2
  · cases hm : Ieee.Format.mul Ieee.double b (p10 k) with
    | none => rw [scOK_none hk hm] at h; cases h
    | some r =>
      rw [scOK_some hk hm] at h
      simp at h
      rw [scV_some hk hm]
      exact (conv_int (okI_inR h.1)).2
theorem pv_rng (V : Nat → Nat) (k : Nat) : ∀ i, -9223372036854775808 ≤ pv V k i ∧ pv V k i ≤ 9223372036854775807
  | 0 => by unfold pv; omega
  | i + 1 => by
    cases h : scOK (V i) k
    · rw [pv_no h]; exact pv_rng V k i
    · rw [pv_ok h]; exact scV_rng h
theorem bas_rng (V : Nat → Nat) (k n : Nat) : I64 n (bas V k) := fun i _ => pv_rng V k (i + 1)
theorem nxt_succ (E : Nat → Nat) (j : Nat) : nxt E (j + 1) = E j + 1 := rfl
/-- The places go upwards and stay below i. -/
theorem exs_up (V : Nat → Nat) (k : Nat) : ∀ i, ∀ j, j < (exs V k i).length → nxt (exE V k i) j ≤ exE V k i j ∧ exE V k i j < i
  | 0, j, h => by simp [exs] at h
  | i + 1, j, h => by
    cases hs : scOK (V i) k
    · have hE : ∀ q, q < (exs V k i).length → exE V k (i + 1) q = exE V k i q := by
        intro q hq
        unfold exE
        rw [exs_no hs]
        simp [List.getElem?_append, hq]
      rw [exs_no hs] at h
      simp at h
      by_cases hj : j < (exs V k i).length
      · have ih := exs_up V k i j hj
        rw [hE j hj]
        cases j with
        | zero => exact ⟨Nat.zero_le _, by omega⟩
        | succ j =>
          rw [nxt_succ] at ih ⊢
          rw [hE j (by omega)]
          omega
      · obtain rfl : j = (exs V k i).length := by omega
        have hl : exE V k (i + 1) (exs V k i).length = i := by
          unfold exE
          rw [exs_no hs]
          simp
        rw [hl]
        refine ⟨?_, by omega⟩
        cases hlen : (exs V k i).length with
        | zero => exact Nat.zero_le _
        | succ m =>
          rw [nxt_succ, hE m (by omega)]
          have := (exs_up V k i m (by omega)).2
          omega
    · have e : exE V k (i + 1) = exE V k i := by unfold exE; rw [exs_ok hs]
      rw [exs_ok hs] at h
      rw [e]
      have := exs_up V k i j h
      omega
theorem exs_Up (V : Nat → Nat) (k i : Nat) (hi : i ≤ 65536) : Up (exE V k i) (exs V k i).length := fun j hj => by
  have := exs_up V k i j hj
  omega

/-- The first i values are laid, the rest is as it was. -/
def mixR (V : Nat → Nat) (k : Nat) (E0 : Nat → Int) (i j : Nat) : Int := if j < i then bas V k j else E0 j
theorem mixR_zero (V : Nat → Nat) (k : Nat) (E0 : Nat → Int) (j : Nat) : mixR V k E0 0 j = E0 j := by unfold mixR; simp
theorem mixR_step {V : Nat → Nat} {k : Nat} {E0 : Nat → Int} {i j : Nat} : (if j = i then bas V k i else mixR V k E0 i j) = mixR V k E0 (i + 1) j := by
  unfold mixR
  by_cases h : j = i
  · subst h; simp
  · rw [if_neg h]
    by_cases h2 : j < i
    · rw [if_pos h2, if_pos (by omega)]
    · rw [if_neg h2, if_neg (by omega)]
theorem mixR_all {V : Nat → Nat} {k : Nat} {E0 : Nat → Int} {n j : Nat} (h : j < n) : mixR V k E0 n j = bas V k j := by unfold mixR; rw [if_pos h]

/-- Where plan's things lie. -/
structure Pln (w wr : World) (B0 sb gi n : Nat) (R : Nat → Int) (ev : Value) (xs : List Value) : Prop where
  bel : Below B0 w wr
  row : Row wr gi 0 n R
  fzr : ∀ q, wr.frozen? ⟨gi, q, none⟩ = false
  own : OwnV wr 3 ev xs
  eb : ∀ g, ev.ownBlock = some g → g ≠ gi ∧ g ≠ sb ∧ B0 ≤ g
  cs : ∀ q, wr.cell? ⟨sb, q, none⟩ = w.cell? ⟨sb, q, none⟩
  fs : ∀ q, wr.frozen? ⟨sb, q, none⟩ = false
  lt : gi < wr.heap.size
  ltS : sb < wr.heap.size
  gb : B0 ≤ gi
  ne : gi ≠ sb

section
variable {w wr : World} {B0 sb gi n : Nat} {R : Nat → Int} {ev : Value} {xs : List Value}
theorem Pln.drewN (h : Pln w wr B0 sb gi n R ev xs) (m : Nat) : Pln w (wr.drewN m) B0 sb gi n R ev xs :=
  ⟨⟨h.bel.os, h.bel.tape, h.bel.output, h.bel.size, h.bel.block⟩, h.row, h.fzr, h.own.frame fun _ _ => rfl, h.eb, h.cs, h.fs, h.lt, h.ltS, h.gb, h.ne⟩
theorem Pln.ext (h : Pln w wr B0 sb gi n R ev xs) {R' : Nat → Int} (he : ∀ i, i < n → R i = R' i) : Pln w wr B0 sb gi n R' ev xs :=
  ⟨h.bel, h.row.ext he, h.fzr, h.own, h.eb, h.cs, h.fs, h.lt, h.ltS, h.gb, h.ne⟩
/-- What turns the row's block alone. -/
theorem Pln.but (h : Pln w wr B0 sb gi n R ev xs) {w' : World} {R' : Nat → Int} (hb : But gi wr w') (hr : Row w' gi 0 n R') : Pln w w' B0 sb gi n R' ev xs := by
  refine ⟨h.bel.trans (hb.below h.gb), hr, fun q => (hb.frozen q).trans (h.fzr q), h.own.frame fun g hg => hb.block g (h.eb g hg).1, h.eb, fun q => ?_, fun q => ?_, by rw [hb.size]; exact h.lt, by rw [hb.size]; exact h.ltS, h.gb, h.ne⟩
  · rw [← h.cs q]; exact World.cell?_of_block (w := wr) (hb.block sb (fun e => h.ne e.symm))
  · rw [← h.fs q]; exact World.frozen?_of_block (w := wr) (hb.block sb (fun e => h.ne e.symm))
theorem Pln.put (h : Pln w wr B0 sb gi n R ev xs) (i : Nat) (x : Int) (hi : i < n) : Pln w (wr.setCell ⟨gi, i, none⟩ (.int .i64 x)) B0 sb gi n (fun j => if j = i then x else R j) ev xs := by
  have hr := h.row.set i x hi
  rw [Nat.zero_add] at hr
  exact h.but ((But.refl gi wr).set i _) hr
/-- What makes new memory alone. -/
theorem Pln.later (h : Pln w wr B0 sb gi n R ev xs) {w' : World} (hb : Below wr.heap.size wr w') : Pln w w' B0 sb gi n R ev xs := by
  refine ⟨h.bel.trans (hb.mono (Nat.le_trans h.gb (Nat.le_of_lt h.lt))), h.row.below hb h.lt, fun q => ?_, h.own.frame fun g hg => hb.block g (h.own.lt hg), h.eb, fun q => ?_, fun q => ?_, Nat.lt_of_lt_of_le h.lt hb.size, Nat.lt_of_lt_of_le h.ltS hb.size, h.gb, h.ne⟩
  · rw [← h.fzr q]; exact hb.frozen (p := ⟨gi, q, none⟩) h.lt
  · rw [← h.cs q]; exact hb.cell (p := ⟨sb, q, none⟩) h.ltS
  · rw [← h.fs q]; exact hb.frozen (p := ⟨sb, q, none⟩) h.ltS
/-- One exception more. -/
theorem Pln.app (h : Pln w wr B0 sb gi n R ev xs) {w1 w' : World} (hb : Below wr.heap.size wr w1) {g cap : Nat} {x : Value} (hown : OwnV w' 3 (.slice (some ⟨g, 0, none⟩) (xs.length + 1) cap) (xs ++ [x])) (hg : w1.grownBy w' ev.ownBlock) (hp : ev.ownBlock = some g ∨ w1.heap.size ≤ g) :
    Pln w w' B0 sb gi n R (.slice (some ⟨g, 0, none⟩) (xs.length + 1) cap) (xs ++ [x]) := by
  have h1 := h.later hb
  have hblk : ∀ q, q < w1.heap.size → (∀ e, ev.ownBlock = some e → q ≠ e) → w'.heap[q]? = w1.heap[q]? := fun q hq hne => hg.block q hq (fun e => hne q e.symm rfl)
  have hgi : w'.heap[gi]? = w1.heap[gi]? := hblk gi h1.lt fun e he => fun hh => (h.eb e he).1 hh.symm
  have hsb : w'.heap[sb]? = w1.heap[sb]? := hblk sb h1.ltS fun e he => fun hh => (h.eb e he).2.1 hh.symm
  refine ⟨⟨hg.os.trans h1.bel.os, hg.tape.trans h1.bel.tape, hg.output.trans h1.bel.output, Nat.le_trans h1.bel.size hg.size, fun q hq => ?_⟩, fun i hi => ?_, fun q => ?_, hown, fun g' hg' => ?_, fun q => ?_, fun q => ?_, Nat.lt_of_lt_of_le h1.lt hg.size, Nat.lt_of_lt_of_le h1.ltS hg.size, h.gb, h.ne⟩
  · rw [hblk q (Nat.lt_trans (Nat.lt_of_lt_of_le hq h.gb) h1.lt) fun e he hh => by have := (h.eb e he).2.2; omega]
    exact h1.bel.block q hq
  · rw [← h1.row i hi]; exact World.cell?_of_block (w := w1) hgi
  · rw [← h1.fzr q]; exact World.frozen?_of_block (w := w1) hgi
  · have : g' = g := by simpa [Value.ownBlock] using hg'.symm
    subst this
    rcases hp with hp | hp
    · exact h.eb g' hp
    · have := h1.lt; have := h1.ltS; have := h.gb
      exact ⟨by omega, by omega, by omega⟩
  · rw [← h1.cs q]; exact World.cell?_of_block (w := w1) hsb
  · rw [← h1.fs q]; exact World.frozen?_of_block (w := w1) hsb
end
end Go.Proofs.YbulkecgoDoor

/-
  appendIntegerFloats: plan at scale 0, then the bytes.
-/
import Derived.Test.YbulkecgoDoorLawKit
import Derived.Test.YbulkecgoDoorAppDiff
import Derived.Test.YbulkecgoDoorAppExc
namespace Go.Proofs.YbulkecgoDoor
open Go.RowKit Go.Shelf _root_.Go.Proofs.YbulkecgoDoor.Own
set_option linter.unusedVariables false
set_option maxRecDepth 100000

/-- The order kept; the whole coding. -/
def bo (V : Nat → Nat) (n : Nat) : Nat := (best (bas V 0) n (min 2 n)).1
def encA (V : Nat → Nat) (n : Nat) : List Nat := encD (dd (bas V 0) (bo V n)) n (bo V n) ++ exB V (exE V 0 n) (exs V 0 n).length
theorem best_dln (B : Nat → Int) (n : Nat) : ∀ o, (best B n o).2 = dln (dd B (best B n o).1) n (best B n o).1
  | 0 => rfl
  | o + 1 => by
    by_cases h : dln (dd B (o + 1)) n (o + 1) < (best B n o).2
    · rw [best_lt h]
    · rw [best_ge h]; exact best_dln B n o
theorem encA_len (V : Nat → Nat) (n : Nat) : (encA V n).length = (best (bas V 0) n (min 2 n)).2 + exL (exE V 0 n) (exs V 0 n).length := by
  unfold encA
  rw [List.length_append, encD_len, exB_len, best_dln]
  rfl
theorem exs_mono (V : Nat → Nat) (k i : Nat) : ∀ j, i ≤ j → (exs V k i).length ≤ (exs V k j).length
  | 0, h => by obtain rfl : i = 0 := by omega
               exact Nat.le_refl _
  | j + 1, h => by
    by_cases e : i = j + 1
    · subst e; exact Nat.le_refl _
    · have ih := exs_mono V k i j (by omega)
      cases hh : scOK (V j) k
      · rw [exs_no hh]; simp; omega
      · rw [exs_ok hh]; exact ih
theorem xs8_ge (E : Nat → Nat) : ∀ k, 9 * k ≤ xs8 E k
  | 0 => Nat.zero_le _
  | k + 1 => by
    have h1 := xs8_ge E k
    have h2 := uvl_pos (E k - nxt E k)
    unfold xs8; omega
theorem stop_len {V : Nat → Nat} {n i : Nat} {lim : Int} (hi : i < n) (h : StopAt V 0 lim i) : ¬ ((encA V n).length : Int) < lim := by
  have h1 := h.2
  have h2 := exs_mono V 0 (i + 1) n (by omega)
  have h3 := xs8_ge (exE V 0 n) (exs V 0 n).length
  have h4 := uvl_pos (exs V 0 n).length
  have h5 : 1 ≤ (best (bas V 0) n (min 2 n)).2 := by rw [best_dln]; unfold dln; omega
  rw [encA_len]
  unfold exL
  omega
theorem bo_le (V : Nat → Nat) (n : Nat) (hn : n ≤ 65536) : bo V n ≤ 2 ∧ bo V n ≤ n := by
  have := (best_le (bas_rng V 0 n) hn (min 2 n) (by omega)).1
  unfold bo
  omega

structure Pa (w w' : World) (sb n : Nat) (V : Nat → Nat) (va : Option Addr) (vc : Nat) (ai ae : Option Addr) (ci ce gi eg : Nat) : Prop where
  c0 : w'.cell? ⟨sb, 0, none⟩ = some (.slice va n vc)
  c2 : w'.cell? ⟨sb, 2, none⟩ = some (.int .i64 (bo V n))
  c3 : w'.cell? ⟨sb, 3, none⟩ = some (.slice ai n ci)
  c4 : w'.cell? ⟨sb, 4, none⟩ = some (.slice ae (exs V 0 n).length ce)
  ints : (0 < n ∧ ai = some ⟨gi, 0, none⟩ ∧ n ≤ ci ∧ ci ≤ 9223372036854775807 ∧ Row w' gi 0 n (dd (bas V 0) (bo V n)) ∧ w.heap.size ≤ gi) ∨ (n = 0 ∧ ai = none ∧ ci = 0)
  exc : 0 < (exs V 0 n).length → ae = some ⟨eg, 0, none⟩ ∧ w.heap.size ≤ eg
  rox : Row w' eg 0 (exs V 0 n).length (fun j => (exE V 0 n j : Int))

abbrev zst : Obj := .cells #[.slice none 0 0, .int .i64 0, .int .i64 0, .slice none 0 0, .slice none 0 0, .int .i64 0] 40
def PlanA (w w' : World) (e : Ending) (n : Nat) (V : Nat → Nat) (va : Option Addr) (vc : Nat) (lim : Int) : Prop :=
  Below w.heap.size w w' ∧ ((e = .returned (.bool false) ∧ ¬ ((encA V n).length : Int) < lim) ∨
    (e = .returned (.bool true) ∧ ((encA V n).length : Int) < lim ∧ ∃ ai ae ci ce gi eg, Pa w w' w.heap.size n V va vc ai ae ci ce gi eg))

theorem plan_A (w : World) (va : Option Addr) (vb vo n vc : Nat) (V : Nat → Nat) (lim : Int) (hn : n ≤ 65536) (hnv : n ≤ vc) (hva : va = none → vc = 0) (hv : 0 < n → va = some ⟨vb, vo, none⟩) (HF : Flo w vb vo n V) (HT : Tab w) :
    Calls Ybad.prog 10 #[.pointer (some ⟨w.heap.size, 0, none⟩), .slice va n vc, .int .i64 0, .int .i64 lim] (w.alloc zst) fun e w' => PlanA w w' e n V va vc lim := by
  have hal : Below w.heap.size w (w.alloc zst) := (Below.refl _ w).alloc (Nat.le_refl _) _
  have hnew := heap_alloc_new w zst
  have hq2 : 2 < w.heap.size := World.block_lt_of_cell? w _ (HT.c2 0 (by omega))
  have hT : Tab (w.alloc zst) := ⟨cell_later hal HT.c1, fun j hj => cell_later hal (HT.c2 j hj)⟩
  have hU : ∀ q, q < 6 → (w.alloc zst).cell? ⟨w.heap.size, q, none⟩ = some (if q = 0 then .slice none 0 0 else if q = 1 then .int .i64 0 else if q = 2 then .int .i64 0 else if q = 3 then .slice none 0 0 else if q = 4 then .slice none 0 0 else .int .i64 0) := by
    intro q hq
    rw [cell_of_row _ _ q _ _ _ hnew]
    have : q = 0 ∨ q = 1 ∨ q = 2 ∨ q = 3 ∨ q = 4 ∨ q = 5 := by omega
    rcases this with rfl | rfl | rfl | rfl | rfl | rfl <;> rfl
  by_cases h0 : 0 < n
  · obtain rfl := hv h0
    refine (plan_walk (w.alloc zst) w.heap.size w.heap.size vb vo n vc 0 0 0 0 none none (fun _ => 0) V lim (.slice none 0 0) (.int .i64 0) (.int .i64 0) (.int .i64 0) h0 hn hnv (by omega) (by omega) (World.block_lt_of_cell? w _ (HF 0 h0)) hq2 (by simp) (by simp) (fun i hi => cell_later hal (HF i hi)) hT (Nat.le_refl _) hU (hU 3 (by omega)) (hU 4 (by omega)) (fun q => frozen_of_row _ _ q _ _ hnew) (fun _ => rfl) (.inl ⟨rfl, rfl⟩) (OwnV.nil _ _) (fun g hg => by simp [Value.ownBlock] at hg)).mono ?_
    rintro e w' ⟨gi, cap, ev, hc1, hc2, ⟨i, hi, hs, _, rfl, _, hF⟩ | ⟨_, hnil, rfl, hF⟩⟩
    · exact ⟨hal.trans hF.bel, .inl ⟨rfl, stop_len hi hs⟩⟩
    · refine ⟨hal.trans hF.bel, ?_⟩
      have heb := hF.eb
      obtain ⟨ae, ce, eg, rfl, hx1, hx2, hx3⟩ := hF.exc none hnil
      rw [← encA_len]
      by_cases hlt : ((encA V n).length : Int) < lim
      · refine .inr ⟨by simp [hlt], hlt, some ⟨gi, 0, none⟩, ae, cap, ce, gi, eg, hF.cs 0 (by omega), hF.cs 2 (by omega), hF.cs 3 (by omega), hF.cs 4 (by omega), .inl ⟨h0, rfl, hc1, by unfold maxLen at hc2; omega, hF.row, hF.gb⟩, fun h => ⟨hx2 h, ?_⟩, hx3⟩
        have := hx2 h
        subst this
        exact (heb eg (by simp [Value.ownBlock])).2.2
      · exact .inl ⟨by simp [hlt], hlt⟩
  · obtain rfl : n = 0 := by omega
    refine (plan_zero (w.alloc zst) w.heap.size w.heap.size vc 0 0 0 0 va none none lim (.slice none 0 0) (.int .i64 0) (.int .i64 0) (.int .i64 0) (by omega) (by simp) (by simp) (Nat.le_refl _) hU (fun q => frozen_of_row _ _ q _ _ hnew) (.inr ⟨rfl, rfl⟩) (fun _ => rfl) hva).mono ?_
    rintro e w' ⟨rfl, hb, hc⟩
    have hbest : best (bas V 0) 0 (min 2 0) = (0, 1) := by
      show best (bas V 0) 0 0 = _
      unfold best
      rw [dln_zero]
    have hlen : (encA V 0).length = 2 := by
      rw [encA_len, hbest]
      have : exE V 0 0 = fun _ => 0 := by funext j; simp [exE, exs]
      rw [this]
      show 1 + exL (fun _ => 0) 0 = 2
      rw [exL_zero]
    have hbo : bo V 0 = 0 := by unfold bo; rw [hbest]
    refine ⟨hal.trans hb, ?_⟩
    rw [hlen]
    by_cases hlt : (2 : Int) < lim
    · refine .inr ⟨by simp [hlt], hlt, none, none, 0, 0, 0, 0, hc 0 (by omega), ?_, hc 3 (by omega), hc 4 (by omega), .inr ⟨rfl, rfl, rfl⟩, fun h => absurd h (by simp [exs]), fun i hi => absurd hi (by simp [exs])⟩
      rw [hbo]; exact hc 2 (by omega)
    · exact .inl ⟨by simp [hlt], hlt⟩
end Go.Proofs.YbulkecgoDoor

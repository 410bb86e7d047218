/-
  LawS6440CWhole: the plain parts: what waiting starts with, the state at the start.
-/
import Derived.Test.YbulkecisUnforce
import Derived.Test.YbulkecisEqual
import Derived.Deep.CutRange
import Derived.Deep.CutBlock
namespace Go.Proofs.Ybulkecis
open Go.RowKit Own
set_option linter.unusedVariables false
theorem info3 : (Yba.prog.info? 3).map (fun i => (i.zero, i.size, i.bytes)) = some (some (.int .i64 0), 1, 8) := by kernel_rfl
theorem info22 : (Yba.prog.info? 22).map (fun i => (i.zero, i.size, i.bytes)) = some (some (.slice none 0 0), 1, 24) := by kernel_rfl

def bs (lb : Nat) (zb : Nat → Int) (v : Nat) : Int := if v < lb then zb v else 0
def binit (N : Nat) (f : Nat → Int) (k : Nat) : List Int := (List.range N).map fun v => if v < k then f v else 0
theorem binit_zero (N : Nat) (f : Nat → Int) : ints (binit N f 0) = List.replicate N (Value.int .i64 0) := by
  apply List.ext_getElem
  · simp [ints, binit]
  · intro i h1 h2; simp [ints, binit]
theorem binit_set (N : Nat) (f : Nat → Int) (k : Nat) (hk : k < N) : (binit N f k).set k (f k) = binit N f (k + 1) := by
  apply List.ext_getElem
  · simp [binit]
  · intro i h1 h2
    rw [List.getElem_set]
    simp only [binit, List.getElem_map, List.getElem_range]
    by_cases h : k = i
    · subst h; simp
    · rw [if_neg h]
      by_cases h3 : i < k
      · rw [if_pos h3, if_pos (by omega)]
      · rw [if_neg h3, if_neg (by omega)]
theorem binit_end (N lb : Nat) (zb : Nat → Int) (k : Nat) (hk : k = N ∨ k = lb) (hN : k ≤ N) (hl : k ≤ lb) : binit N (bs lb zb) k = wtOf N (bs lb zb) [] := by
  apply List.ext_getElem
  · simp [binit, wtOf]
  · intro i h1 h2
    have hi : i < N := by simpa [binit] using h1
    simp only [binit, wtOf, List.getElem_map, List.getElem_range, cnt, List.filter_nil, List.length_nil]
    by_cases h : i < k
    · rw [if_pos h]; simp
    · rw [if_neg h]
      have : ¬ i < lb := by omega
      simp [bs, this]
def own0 (B wb sb N : Nat) (ls : List (Nat × Nat)) : Nat → Nat := fun g =>
  if g < B then N + 9 else if g = wb then N + 2 else if g = sb then N + 1 else if g ∈ ls.map Prod.fst then N + 5 else N + 4
def sd0 (B sb N : Nat) (ls : List (Nat × Nat)) (f : Nat → Int) : SD :=
  { own := own0 B B sb N ls, fs := false, fc := fun _ => .slice none 0 0, fv := fun _ => .slice none 0 0, R := fun _ => [], ffc := .slice none 0 0, ffv := .slice none 0 0, ff := [], wt := wtOf N f [] }
theorem inv_start {B N : Nat} {wc w3 : World} {rv : Value} {ls : List (Nat × Nat)} (f : Nat → Int) (C : Array Value) (hBc : B < wc.heap.size)
    (hrow : wc.heap[B]? = some (.cells (ints (wtOf N f [])).toArray 3 (0, 0))) (hNS : NSet w3 N rv ls) (hlf : ∀ p ∈ ls, wc.heap.size ≤ p.1) (hrf : ∀ g, rv.ownBlock = some g → wc.heap.size ≤ g) (hO : Only (fun _ => False) wc w3)
    (h6 : C[6]? = some (.slice (some ⟨B, 0, none⟩) N N)) (h7 : C[7]? = some (.slice none 0 0)) (h8 : C[8]? = some (.slice none 0 0)) (h13 : C[13]? = some rv) :
    Inv N w3.heap.size B 0 rv ls (sd0 B w3.heap.size N ls f) (w3.alloc (.cells C 80)) := by
  have hsz := hO.size
  have hsb : (w3.alloc (.cells C 80)).heap[w3.heap.size]? = some (.cells C 80 (0, 0)) := heap_alloc_new _ _
  have old : ∀ g, g < w3.heap.size → (w3.alloc (.cells C 80)).heap[g]? = w3.heap[g]? := fun g hg => Below.heap_alloc _ _ _ hg
  have hcell : ∀ k, (w3.alloc (.cells C 80)).cell? ⟨w3.heap.size, k, none⟩ = C[k]? := fun k => by
    rw [cell_of_row _ _ k _ _ _ hsb]
  have hlev : ∀ p ∈ ls, p.1 < w3.heap.size := fun p hp => by obtain ⟨zs, h1, _⟩ := hNS.levs p hp; exact lt_of_block h1
  have hrv : ∀ g, rv.ownBlock = some g → g < w3.heap.size := fun g hg => hNS.own.lt hg
  refine ⟨fun k => frozen_of_row _ _ k _ _ hsb, (hcell 6).trans h6, ?_, (hcell 8).trans h8, (hcell 13).trans h13, ?_, (by simp [sd0, wtOf]), (by intro h; cases h), ?_, OwnV.nil _ _, ?_, ?_, ?_, (by intro h; cases h), (by intro g h; cases h), (by intro u hu g h; cases h), ?_, ?_⟩
  · rw [hcell 7, h7]; rfl
  · rw [old B (by omega), hO.block B hBc (by simp)]; exact hrow
  · intro u hu; exact OwnV.nil _ _
  · refine hNS.frame fun g hg => old g ?_
    rcases hg with hg | hg
    · exact hrv g hg
    · obtain ⟨p, hp, rfl⟩ := List.mem_map.1 hg
      exact hlev p hp
  · show own0 B B w3.heap.size N ls w3.heap.size = N + 1
    unfold own0
    rw [if_neg (by omega), if_neg (by omega), if_pos rfl]
  · show own0 B B w3.heap.size N ls B = N + 2
    unfold own0
    rw [if_neg (by omega), if_pos rfl]
  · intro g hg
    have h1 := hrv g hg
    have h2 := hrf g hg
    show own0 B B w3.heap.size N ls g = N + 4
    unfold own0
    rw [if_neg (by omega), if_neg (by omega), if_neg (by omega), if_neg ?_]
    intro hm
    obtain ⟨p, hp, hpe⟩ := List.mem_map.1 hm
    obtain ⟨zs, hz, _⟩ := hNS.levs p hp
    rcases hNS.own.2 with ⟨hv, _⟩ | ⟨g', cap', cur, hv, _, hh', _⟩
    · rw [hv] at hg; cases hg
    · rw [hv] at hg
      simp [Value.ownBlock] at hg
      rw [hpe, ← hg, hh'] at hz
      simp at hz
  · intro p hp
    have h1 := hlev p hp
    have h2 := hlf p hp
    show own0 B B w3.heap.size N ls p.1 = N + 5
    unfold own0
    rw [if_neg (by omega), if_neg (by omega), if_neg (by omega), if_pos (List.mem_map.2 ⟨p, hp, rfl⟩)]
theorem good_start (B sb N : Nat) (ls : List (Nat × Nat)) (f : Nat → Int) : Good N f [] (sd0 B sb N ls f) :=
  ⟨fun _ _ => rfl, rfl, fun _ _ => rfl, rfl, rfl⟩
theorem far_start (B sb N : Nat) (ls : List (Nat × Nat)) (f : Nat → Int) : ∀ g, g < B → (sd0 B sb N ls f).own g = N + 9 := fun g hg => by
  show own0 B B sb N ls g = N + 9
  unfold own0
  rw [if_pos hg]
end Go.Proofs.Ybulkecis

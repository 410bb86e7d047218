/-
  The graph in memory and what it says; Len and Successors.
-/
import Derived.Test.YbulkecisKahn
import Derived.Test.YbulkecisHeapWalk
namespace Go.Proofs.Ybulkecis
open Go.RowKit _root_.Go.Proofs.Ybulkecis.Own
set_option linter.unusedVariables false
set_option maxRecDepth 100000

/-- The graph as New lays it. -/
structure Gr (w : World) (gb gf gs t K : Nat) (cf cs : Nat) (F S : Nat → Nat) : Prop where
  c0 : w.cell? ⟨gb, 0, none⟩ = some (.slice (some ⟨gf, 0, none⟩) (t + 1) cf)
  c1 : w.cell? ⟨gb, 1, none⟩ = some (.slice (some ⟨gs, 0, none⟩) K cs)
  f : ∀ v, v ≤ t → w.cell? ⟨gf, v, none⟩ = some (.int .i64 (F v))
  s : ∀ k, k < K → w.cell? ⟨gs, k, none⟩ = some (.int .i64 (S k))
  hcs : K ≤ cs
  hcf : t + 1 ≤ cf
  l0 : gb < w.heap.size
  l1 : gf < w.heap.size
  l2 : gs < w.heap.size

theorem cell_of_block {w w' : World} {b i : Nat} (h : w'.heap[b]? = w.heap[b]?) : w'.cell? ⟨b, i, none⟩ = w.cell? ⟨b, i, none⟩ := by
  simp only [World.cell?]; rw [h]

theorem Gr.frame {w w' : World} {gb gf gs t K cf cs : Nat} {F S : Nat → Nat} (h : Gr w gb gf gs t K cf cs F S) (hs : w.heap.size ≤ w'.heap.size) (h0 : w'.heap[gb]? = w.heap[gb]?) (h1 : w'.heap[gf]? = w.heap[gf]?) (h2 : w'.heap[gs]? = w.heap[gs]?) : Gr w' gb gf gs t K cf cs F S :=
  ⟨(cell_of_block h0).trans h.c0, (cell_of_block h0).trans h.c1, fun v hv => (cell_of_block h1).trans (h.f v hv), fun k hk => (cell_of_block h2).trans (h.s k hk), h.hcs, h.hcf, Nat.lt_of_lt_of_le h.l0 hs, Nat.lt_of_lt_of_le h.l1 hs, Nat.lt_of_lt_of_le h.l2 hs⟩
theorem Gr.below {w w' : World} {gb gf gs t K cf cs : Nat} {F S : Nat → Nat} (h : Gr w gb gf gs t K cf cs F S) (hb : Below w.heap.size w w') : Gr w' gb gf gs t K cf cs F S :=
  h.frame hb.size (hb.block _ h.l0) (hb.block _ h.l1) (hb.block _ h.l2)

/-- What the graph says. -/
structure Sg (t K : Nat) (F S : Nat → Nat) (M : Nat → Nat → Bool) : Prop where
  z : F 0 = 0
  up : ∀ v, v < t → F v ≤ F (v + 1)
  top : F t = K
  lt : ∀ k, k < K → S k < t
  mem : ∀ v, v < t → ∀ s, M v s = true ↔ ∃ k, F v ≤ k ∧ k < F (v + 1) ∧ S k = s
  inj : ∀ v, v < t → ∀ k l, F v ≤ k → k < F (v + 1) → F v ≤ l → l < F (v + 1) → S k = S l → k = l

theorem Sg.mono {t K : Nat} {F S : Nat → Nat} {M : Nat → Nat → Bool} (h : Sg t K F S M) : ∀ {u v : Nat}, u ≤ v → v ≤ t → F u ≤ F v := by
  intro u v huv
  induction v with
  | zero => intro _; rw [show u = 0 by omega]; exact Nat.le_refl _
  | succ v ih =>
    intro hv
    by_cases e : u = v + 1
    · rw [e]; exact Nat.le_refl _
    · exact Nat.le_trans (ih (by omega) (by omega)) (h.up v (by omega))
theorem Sg.leK {t K : Nat} {F S : Nat → Nat} {M : Nat → Nat → Bool} (h : Sg t K F S M) {v : Nat} (hv : v ≤ t) : F v ≤ K := by rw [← h.top]; exact h.mono hv (Nat.le_refl _)

theorem cnt_stretch0 {p : Nat → Bool} {a : Nat} : ∀ d, (∀ k, a ≤ k → k < a + d → p k = false) → cnt p (a + d) = cnt p a
  | 0, _ => rfl
  | d + 1, h => by
    rw [show a + (d + 1) = (a + d) + 1 by omega, cnt, cnt_stretch0 d fun k h1 h2 => h k h1 (by omega), h (a + d) (by omega) (by omega)]
    simp
theorem cnt_stretch1 {p : Nat → Bool} {a j : Nat} (hj : p j = true) (haj : a ≤ j) : ∀ d, j < a + d → (∀ k, a ≤ k → k < a + d → p k = true → k = j) → cnt p (a + d) = cnt p a + 1
  | 0, h, _ => by omega
  | d + 1, h, hu => by
    rw [show a + (d + 1) = (a + d) + 1 by omega, cnt]
    by_cases e : j = a + d
    · rw [cnt_stretch0 d, ← e, hj]
      · simp
      · intro k h1 h2
        cases hk : p k
        · rfl
        · have := hu k h1 (by omega) hk; omega
    · rw [cnt_stretch1 hj haj d (by omega) fun k h1 h2 h3 => hu k h1 (by omega) h3]
      cases hk : p (a + d)
      · simp
      · have := hu (a + d) (by omega) (by omega) hk; omega

theorem Sg.count {t K : Nat} {F S : Nat → Nat} {M : Nat → Nat → Bool} (h : Sg t K F S M) (s : Nat) : ∀ v, v ≤ t → cnt (fun k => S k == s) (F v) = cnt (fun i => M i s) v
  | 0, _ => by rw [h.z]; rfl
  | v + 1, hv => by
    have ih := h.count s v (by omega)
    have hu := h.up v (by omega)
    rw [cnt, ← ih]
    obtain ⟨d, hd⟩ : ∃ d, F (v + 1) = F v + d := ⟨F (v + 1) - F v, by omega⟩
    cases hM : M v s
    · rw [hd, cnt_stretch0 d]
      · simp
      · intro k h1 h2
        have := mt (h.mem v (by omega) s).2 (by rw [hM]; simp)
        have h3 : S k ≠ s := fun e => this ⟨k, h1, by omega, e⟩
        simpa using h3
    · obtain ⟨k, h1, h2, h3⟩ := (h.mem v (by omega) s).1 hM
      rw [hd, cnt_stretch1 (j := k) (by simpa using h3) h1 d (by omega)]
      · simp
      · intro l h4 h5 h6
        have h6' : S l = s := by simpa using h6
        exact h.inj v (by omega) l k h4 (by omega) h1 h2 (by omega)
theorem Sg.dg {t K : Nat} {F S : Nat → Nat} {M : Nat → Nat → Bool} (h : Sg t K F S M) (s : Nat) : cnt (fun k => S k == s) K = dg t M [] s := by
  rw [← h.top, h.count s t (Nat.le_refl _)]
  unfold Ybulkecis.dg
  exact cnt_ext t fun i _ => by simp

theorem len_walk (w : World) (gb gf gs t K cf cs : Nat) (F S : Nat → Nat) (G : Gr w gb gf gs t K cf cs F S) (ht : t ≤ 100000) :
    Calls Yba.prog 30 #[.pointer (some ⟨gb, 0, none⟩)] w fun e w' => e = .returned (.int .i64 t) ∧ w' = w := by
  have h0 := G.c0
  clear G
  go_enter Yba.func30, Yba.ntmps30
  go_wp2_with fail
  go_ret
  exact ⟨rfl, rfl⟩

set_option maxHeartbeats 1000000 in
theorem succ_walk (w : World) (gb gf gs t K cf cs v : Nat) (F S : Nat → Nat) (G : Gr w gb gf gs t K cf cs F S) (ht : t ≤ 100000) (hv : v < t) (h1 : F v ≤ F (v + 1)) (h2 : F (v + 1) ≤ K) :
    Calls Yba.prog 32 #[.pointer (some ⟨gb, 0, none⟩), .int .i64 v] w fun e w' => ∃ o, e = .returned (.slice (some ⟨gs, o, none⟩) (F (v + 1) - F v) (cs - F v)) ∧ (F v < F (v + 1) → o = F v) ∧ w' = w.drew := by
  have c0 := G.c0
  have c1 := G.c1
  have f0 := G.f v (by omega)
  have f1 := G.f (v + 1) (by omega)
  have hc := G.hcs
  have i0 : (v : Int) < (t : Int) + 1 := by omega
  have i1 : (v : Int) + 1 < (t : Int) + 1 := by omega
  have e1 : ((v : Int) + 1).toNat = v + 1 := by omega
  have k1 : (F v : Int) ≤ (F (v + 1) : Int) := by omega
  have k2 : (F (v + 1) : Int) ≤ (cs : Int) := by omega
  clear G
  go_enter Yba.func32, Yba.ntmps32
  go_wp2_with fail
  go_big_region
  all_goals go_wp2_with fail
  all_goals go_ret
  · exact ⟨0, rfl, fun h => by omega, rfl⟩
  · exact ⟨F v, rfl, fun _ => rfl, rfl⟩
end Go.Proofs.Ybulkecis

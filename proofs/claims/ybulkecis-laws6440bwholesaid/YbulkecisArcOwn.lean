/-
  Rows of arcs and of bools of the call's own; append of an arc. It speaks of no function.
-/
import Derived.Test.YbulkecisArcs
import Derived.Test.YbulkecisHeapWalk
namespace Go.Proofs.Ybulkecis
open Go.RowKit _root_.Go.Proofs.Ybulkecis.Own
set_option linter.unusedVariables false

/-- The cells of arcs. -/
def ac (al : List (Nat × Nat)) : List Value := al.flatMap fun p => [Value.int .i64 (p.1 : Int), Value.int .i64 (p.2 : Int)]
theorem ac_len : ∀ al : List (Nat × Nat), (ac al).length = al.length * 2
  | [] => rfl
  | p :: al => by
    have h := ac_len al
    unfold ac at h ⊢
    rw [List.flatMap_cons, List.length_append, h]; simp; omega
theorem ac_snoc (al : List (Nat × Nat)) (i s : Nat) : ac (al ++ [(i, s)]) = ac al ++ [Value.int .i64 (i : Int), Value.int .i64 (s : Int)] := by
  unfold ac; rw [List.flatMap_append]; rfl
theorem ac_get : ∀ (al : List (Nat × Nat)) (r : Nat) (h : r < al.length), (ac al)[r * 2]? = some (.int .i64 (al[r].1 : Int)) ∧ (ac al)[r * 2 + 1]? = some (.int .i64 (al[r].2 : Int))
  | [], r, h => by simp at h
  | p :: al, 0, h => ⟨rfl, rfl⟩
  | p :: al, r + 1, h => by
    have h1 := ac_get al r (by simp at h; omega)
    have e : ac (p :: al) = [Value.int .i64 (p.1 : Int), Value.int .i64 (p.2 : Int)] ++ ac al := rfl
    rw [e, List.getElem?_append_right (by simp; omega), List.getElem?_append_right (by simp; omega)]
    have e1 : (r + 1) * 2 - [Value.int .i64 (p.1 : Int), Value.int .i64 (p.2 : Int)].length = r * 2 := by simp; omega
    have e2 : (r + 1) * 2 + 1 - [Value.int .i64 (p.1 : Int), Value.int .i64 (p.2 : Int)].length = r * 2 + 1 := by simp; omega
    rw [e1, e2]
    simpa using h1

/-- v owns the arcs al. -/
def OwnA (w : World) (v : Value) (al : List (Nat × Nat)) : Prop := w.ownsRow 0 65 2 v al.length (ac al)
section
variable {w : World} {v : Value} {al : List (Nat × Nat)}
theorem OwnA.nil (w : World) : OwnA w (.slice none 0 0) [] := World.ownsRow_nil w 0 65 2
theorem OwnA.frame {w' : World} (h : OwnA w v al) (hb : ∀ g, v.ownBlock = some g → w'.heap[g]? = w.heap[g]?) : OwnA w' v al := by
  obtain ⟨h1, h2⟩ := h
  refine ⟨h1, ?_⟩
  rcases h2 with h2 | ⟨g, cap, cur, hv, hg, hh, r⟩
  · exact .inl h2
  · subst hv
    exact .inr ⟨g, cap, cur, rfl, hg, by rw [hb g rfl]; exact hh, r⟩
theorem OwnA.lt (h : OwnA w v al) {g : Nat} (hg : v.ownBlock = some g) : g < w.heap.size := (World.ownsRow.lt h g hg).2
theorem OwnA.form (h : OwnA w v al) : (v = .slice none 0 0 ∧ al = []) ∨ ∃ g cap, v = .slice (some ⟨g, 0, none⟩) al.length cap ∧ v.ownBlock = some g ∧ al.length ≤ cap ∧ cap ≤ maxLen ∧ g < w.heap.size := by
  rcases h.2 with ⟨hv, hn⟩ | ⟨g, cap, cur, hv, hg, hh, hn, hc, _⟩
  · exact .inl ⟨hv, List.eq_nil_of_length_eq_zero hn⟩
  · exact .inr ⟨g, cap, hv, by rw [hv]; rfl, hn, hc, lt_of_block hh⟩
theorem OwnA.form' (h : OwnA w v al) : ∃ ao cap, v = .slice ao al.length cap := by
  rcases h.form with ⟨hv, hx⟩ | ⟨g, cap, hv, _⟩
  · exact ⟨none, 0, by rw [hv, hx]; rfl⟩
  · exact ⟨_, _, hv⟩
theorem OwnA.cell {g n cap : Nat} (h : OwnA w (.slice (some ⟨g, 0, none⟩) n cap) al) {r : Nat} (hr : r < al.length) : w.cell? ⟨g, r * 2, none⟩ = some (.int .i64 (al[r].1 : Int)) ∧ w.cell? ⟨g, r * 2 + 1, none⟩ = some (.int .i64 (al[r].2 : Int)) := by
  obtain ⟨h1, h2⟩ := ac_get al r hr
  have k1 := World.ownsRow.cells h (g := g) rfl _ _ h1
  have k2 := World.ownsRow.cells h (g := g) rfl _ _ h2
  rw [Addr.add_lit, Nat.zero_add] at k1 k2
  exact ⟨k1, k2⟩
end

theorem info65 : (Yba.prog.info? 65).map (fun i => (i.zero, i.size, i.bytes)) = some (some (.agg #[.int .i64 0, .int .i64 0]), 2, 16) := by kernel_rfl

/-- append of one arc, its result's place said. -/
theorem run_append_a (w : World) (ty : TypeId) (v : Value) (al : List (Nat × Nat)) (hown : OwnA w v al) (a : Addr) (c i s : Nat)
    (hnews : ∀ j u, [Value.int .i64 (i : Int), Value.int .i64 (s : Int)][j]? = some u → w.cell? (a.add j) = some u) (hlen : al.length ≤ 100000) :
    ∃ g cap w', (Builtin.append_ #[52, 52] ty #[v, .slice (some a) 1 c]).run Yba.prog w = .ok (.slice (some ⟨g, 0, none⟩) (al.length + 1) cap) w' ∧ OwnA w' (.slice (some ⟨g, 0, none⟩) (al.length + 1) cap) (al ++ [(i, s)]) ∧ w.grownBy w' v.ownBlock ∧
      (v.ownBlock = some g ∨ w.heap.size ≤ g) := by
  obtain ⟨i0, hi, hz0, hz1, hz2⟩ := info_parts info65
  have h63 : al.length + 1 ≤ maxLen := by unfold maxLen; omega
  have hby : (al.length + 1) * 16 ≤ 140737488355328 := by omega
  have h1 : ∀ u ∈ [Value.int .i64 (i : Int), Value.int .i64 (s : Int)], u.oneCell' = true := by
    intro u hu; simp at hu; rcases hu with rfl | rfl <;> rfl
  have up : ∀ {w' : World} {v' : Value} {b : Nat}, w'.ownsRow b 65 2 v' (al.length + 1) (ac al ++ [Value.int .i64 (i : Int), Value.int .i64 (s : Int)]) → OwnA w' v' (al ++ [(i, s)]) := by
    intro w' v' b h
    unfold OwnA
    rw [ac_snoc, show (al ++ [(i, s)]).length = al.length + 1 by simp]
    obtain ⟨h1, h2⟩ := h
    refine ⟨h1, ?_⟩
    rcases h2 with h2 | ⟨g, cap, cur, hv, hg, r⟩
    · exact .inl h2
    · exact .inr ⟨g, cap, cur, hv, Nat.zero_le _, r⟩
  rcases hown.form with ⟨rfl, rfl⟩ | ⟨g, cap, rfl, _, hnc, hcm, hgl⟩
  · obtain ⟨v', w', hr, ho, hg, hn⟩ := run_append_own (P := Yba.prog) w w.heap.size 52 ty 65 i0 _ 2 16 Yba.underlying52 hi hz0 hz1 hz2 rfl (by decide) (.slice none 0 0) 0 [] (World.ownsRow_nil w _ 65 2) a 1 c [Value.int .i64 (i : Int), Value.int .i64 (s : Int)] (by simp) hnews h1 (by unfold maxLen; omega) (by omega) (Nat.le_refl _)
    have ho' := up (b := w.heap.size) (by simpa [ac] using ho)
    rcases ho.2 with ⟨rfl, h⟩ | ⟨g, cap, cur, rfl, hgb, _⟩
    · simp at h
    · exact ⟨g, cap, w', hr, ho', hg, .inr hgb⟩
  · by_cases hroom : al.length + 1 ≤ cap
    · obtain ⟨w', hr, ho, hg⟩ := run_append_fits (P := Yba.prog) w 0 52 ty 65 i0 2 Yba.underlying52 hi hz1 g al.length cap (ac al) hown a 1 c _ (by simp) hnews h1 hroom
      exact ⟨g, cap, w', hr, up ho, hg, .inl rfl⟩
    · obtain ⟨v', w', hr, ho, hg⟩ := run_append_arg_grows (P := Yba.prog) w 52 ty 65 i0 _ 2 16 Yba.underlying52 hi hz0 hz1 hz2 rfl (by decide) ⟨g, 0, none⟩ al.length cap (ac al) (ac_len al) (fun j u hu => by
        have := World.ownsRow.cells hown (g := g) rfl j u hu; exact this) a 1 c _ (by simp) hnews (by omega) h63 hby
      rcases ho.2 with ⟨rfl, h⟩ | ⟨g', cap', cur, rfl, hgb, _⟩
      · simp at h
      · exact ⟨g', cap', w', hr, up ho, ⟨hg.os, hg.tape, hg.output, hg.size, fun k hk _ => hg.block k hk (by simp)⟩, .inr hgb⟩

theorem wp_append_a {w : World} {o : Oper} {a : Act} {K : Act → World → Prop} {Q : Exit → Act → World → Prop} (sl x : Operand)
    (ho : o.op = .call { callee := .builtin .append, args := #[sl, x], argTypes := #[52, 52] })
    (v : Value) (al : List (Nat × Nat)) (hs : a.eval sl = v) (hown : OwnA w v al)
    (ad : Addr) (c i s : Nat) (hx : a.eval x = .slice (some ad) 1 c) (hnews : ∀ j u, [Value.int .i64 (i : Int), Value.int .i64 (s : Int)][j]? = some u → w.cell? (ad.add j) = some u) (hlen : al.length ≤ 100000)
    (h : ∀ g cap w', OwnA w' (.slice (some ⟨g, 0, none⟩) (al.length + 1) cap) (al ++ [(i, s)]) → w.grownBy w' v.ownBlock → (v.ownBlock = some g ∨ w.heap.size ≤ g) → K (a.put o.dst (.slice (some ⟨g, 0, none⟩) (al.length + 1) cap)) w') : o.wp Yba.prog a w K Q := by
  obtain ⟨g, cap, w', hr, h2, h3, h4⟩ := run_append_a w o.type v al hown ad c i s hnews hlen
  unfold Oper.wp execOp
  simp only [ho, resolve, invoke, builtin, Sem.run_bind, Sem.run_pure, Result.andThen_ok, List.map_toArray, List.map_cons, List.map_nil, hs, hx, hr]
  exact h g cap w' h2 h3 h4
theorem wpList_append_a {w : World} {ops : Array Oper} {rest : List Oper} {o : Oper} {a : Act} {Q : Exit → Act → World → Prop} (hgd : o.guard = none) (sl x : Operand)
    (ho : o.op = .call { callee := .builtin .append, args := #[sl, x], argTypes := #[52, 52] })
    (v : Value) (al : List (Nat × Nat)) (hs : a.eval sl = v) (hown : OwnA w v al)
    (ad : Addr) (c i s : Nat) (hx : a.eval x = .slice (some ad) 1 c) (hnews : ∀ j u, [Value.int .i64 (i : Int), Value.int .i64 (s : Int)][j]? = some u → w.cell? (ad.add j) = some u) (hlen : al.length ≤ 100000)
    (h : ∀ g cap w', OwnA w' (.slice (some ⟨g, 0, none⟩) (al.length + 1) cap) (al ++ [(i, s)]) → w.grownBy w' v.ownBlock → (v.ownBlock = some g ∨ w.heap.size ≤ g) → wpList Yba.prog ops Q rest (a.put o.dst (.slice (some ⟨g, 0, none⟩) (al.length + 1) cap)) w') : wpList Yba.prog ops Q (o :: rest) a w :=
  wpList_plain hgd fun _ hK => wp_append_a sl x ho v al hs hown ad c i s hx hnews hlen fun g cap w' h2 h3 h4 => hK _ _ (h g cap w' h2 h3 h4)
theorem step_append_a {w : World} {ops : Array Oper} {o : Oper} {a : Act} {K : Act → World → Prop} {Q : Exit → Act → World → Prop} {E : Prop} (hgd : o.guard = none) (sl x : Operand)
    (ho : o.op = .call { callee := .builtin .append, args := #[sl, x], argTypes := #[52, 52] })
    (v : Value) (al : List (Nat × Nat)) (hs : a.eval sl = v) (hown : OwnA w v al)
    (ad : Addr) (c i s : Nat) (hx : a.eval x = .slice (some ad) 1 c) (hnews : ∀ j u, [Value.int .i64 (i : Int), Value.int .i64 (s : Int)][j]? = some u → w.cell? (ad.add j) = some u) (hlen : al.length ≤ 100000)
    (h : ∀ g cap w', OwnA w' (.slice (some ⟨g, 0, none⟩) (al.length + 1) cap) (al ++ [(i, s)]) → w.grownBy w' v.ownBlock → (v.ownBlock = some g ∨ w.heap.size ≤ g) → K (a.put o.dst (.slice (some ⟨g, 0, none⟩) (al.length + 1) cap)) w') :
    if Region.wanted o (yielded ops a.tmps) = true then Oper.wp Yba.prog o a w K Q else E := by
  have hw : Region.wanted o (yielded ops a.tmps) = true := by simp [Region.wanted, hgd]
  rw [if_pos hw]
  exact wp_append_a sl x ho v al hs hown ad c i s hx hnews hlen h
theorem two_new (X : World) (u v : Value) (t : TypeId) (g : Nat) (hg : g = X.heap.size) : ∀ (j : Nat) (z : Value), [u, v][j]? = some z → (X.alloc (.cells #[u, v] t)).cell? ((⟨g, 0, none⟩ : Addr).add j) = some z := by
  intro j z hz
  subst hg
  match j, hz with
  | 0, hz => simp at hz; subst hz; simp [Addr.add]
  | 1, hz => simp at hz; subst hz; simp [Addr.add]
  | j + 2, hz => simp at hz

/-- A row of bools. -/
def bl (n : Nat) (B : Nat → Bool) : List Value := (List.range n).map fun i => Value.bool (B i)
theorem bl_len (n : Nat) (B : Nat → Bool) : (bl n B).length = n := by simp [bl]
theorem bl_get {n : Nat} {B : Nat → Bool} {j : Nat} (h : j < n) : (bl n B)[j]? = some (.bool (B j)) := by simp [bl, h]
theorem bl_ext {n : Nat} {B C : Nat → Bool} (h : ∀ i, i < n → B i = C i) : bl n B = bl n C := by
  unfold bl
  exact List.map_congr_left fun i hi => by rw [h i (List.mem_range.1 hi)]
theorem bl_set {n : Nat} {B : Nat → Bool} {j : Nat} {x : Bool} : (bl n B).set j (.bool x) = bl n (fun k => if k = j then x else B k) := by
  apply List.ext_getElem?
  intro k
  by_cases hk : k < n
  · rw [bl_get hk, List.getElem?_set]
    by_cases e : j = k
    · subst e; rw [if_pos rfl, bl_len, if_pos hk, if_pos rfl]
    · rw [if_neg e, bl_get hk, if_neg (Ne.symm e)]
  · rw [List.getElem?_eq_none (by rw [List.length_set, bl_len]; omega), List.getElem?_eq_none (by rw [bl_len]; omega)]
theorem info4 : (Yba.prog.info? 4).map (fun i => (i.zero, i.size, i.bytes)) = some (some (.bool false), 1, 1) := by kernel_rfl
theorem made_bl (w : World) (n : Nat) (hn : n ≤ 10000000) (B : Nat → Bool) (hB : ∀ s, s < n → B s = false) : OwnV (w.alloc (Obj.cells (Array.replicate n (Value.bool false)) 4)) 4 (.slice (some ⟨w.heap.size, 0, none⟩) n n) (bl n B) := by
  have h := OwnV.made w 4 (List.replicate n (Value.bool false)) (by unfold maxLen; simp; omega)
  have e : List.replicate n (Value.bool false) = bl n B := by
    apply List.ext_getElem?
    intro k
    by_cases hk : k < n
    · rw [bl_get hk, hB k hk]; simp [hk]
    · rw [List.getElem?_eq_none (by simp; omega), List.getElem?_eq_none (by rw [bl_len]; omega)]
  rw [e, bl_len, ← e] at h
  simpa [← e] using h
end Go.Proofs.Ybulkecis

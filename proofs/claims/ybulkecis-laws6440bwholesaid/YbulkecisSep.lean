/-
  Memory of the call's own in pieces that are apart.
-/
import Derived.Test.YbulkecisRbKit
namespace Go.Proofs.Ybulkecis
open Go.RowKit _root_.Go.Proofs.Ybulkecis.Own
set_option linter.unusedVariables false

/-- A piece: a row of numbers, of bools, of arcs; the propagator; the budget's first cell. -/
inductive Res where
  | iv (v : Value) (xs : List Value)
  | bv (v : Value) (xs : List Value)
  | av (v : Value) (al : List (Nat × Nat))
  | pg (b : Nat) (f : Nat → Value)
  | cl (b : Nat) (x : Value)
def Res.blk : Res → Option Nat
  | .iv v _ => v.ownBlock
  | .bv v _ => v.ownBlock
  | .av v _ => v.ownBlock
  | .pg b _ => some b
  | .cl b _ => some b
def Res.ok (w : World) : Res → Prop
  | .iv v xs => OwnV w 3 v xs
  | .bv v xs => OwnV w 4 v xs
  | .av v al => OwnA w v al
  | .pg b f => Pg w b f
  | .cl b x => w.cell? ⟨b, 0, none⟩ = some x ∧ w.frozen? ⟨b, 0, none⟩ = false ∧ b < w.heap.size
theorem Res.ok.frame {w w' : World} {r : Res} (h : r.ok w) (hs : w.heap.size ≤ w'.heap.size) (hb : ∀ g, r.blk = some g → w'.heap[g]? = w.heap[g]?) : r.ok w' := by
  cases r with
  | iv v xs => exact OwnV.frame h hb
  | bv v xs => exact OwnV.frame h hb
  | av v al => exact OwnA.frame h hb
  | pg b f => exact Pg.frame h hs (hb b rfl)
  | cl b x => exact ⟨(cell_of_block (hb b rfl)).trans h.1, (World.frozen?_of_block (hb b rfl)).trans h.2.1, Nat.lt_of_lt_of_le h.2.2 hs⟩
theorem Res.ok.lt {w : World} {r : Res} (h : r.ok w) {g : Nat} (hg : r.blk = some g) : g < w.heap.size := by
  cases r with
  | iv v xs => exact OwnV.lt h hg
  | bv v xs => exact OwnV.lt h hg
  | av v al => exact OwnA.lt h hg
  | pg b f => cases hg; exact Pg.lt h
  | cl b x => cases hg; exact h.2.2

def Apart (r s : Res) : Prop := ∀ g, r.blk = some g → s.blk ≠ some g
theorem Apart.symm {r s : Res} (h : Apart r s) : Apart s r := fun g hg e => h g e hg

structure Spl (w0 w : World) (L : List Res) : Prop where
  bel : Below w0.heap.size w0 w
  all : ∀ (i : Nat) (r : Res), L[i]? = some r → r.ok w
  fr : ∀ (i : Nat) (r : Res), L[i]? = some r → ∀ g, r.blk = some g → w0.heap.size ≤ g
  ap : ∀ (i j : Nat) (r s : Res), i ≠ j → L[i]? = some r → L[j]? = some s → Apart r s

section
variable {w0 w w' : World} {L : List Res}
theorem Spl.nil (w : World) : Spl w w [] := ⟨Below.refl _ _, fun i r h => by simp at h, fun i r h => by simp at h, fun i j r s _ h => by simp at h⟩
theorem Spl.below (h : Spl w0 w L) (hb : Below w.heap.size w w') : Spl w0 w' L :=
  ⟨h.bel.trans (hb.mono h.bel.size), fun i r hr => (h.all i r hr).frame hb.size fun g hg => hb.block g ((h.all i r hr).lt hg), h.fr, h.ap⟩
theorem Spl.drew (h : Spl w0 w L) : Spl w0 w.drew L := h.below (Below.refl _ _).drew
theorem Spl.alloc (h : Spl w0 w L) (o : Obj) : Spl w0 (w.alloc o) L := h.below ((Below.refl _ _).alloc (Nat.le_refl _) _)
/-- A new piece. -/
theorem Spl.new (h : Spl w0 w L) (hb : Below w.heap.size w w') {r : Res} (hr : r.ok w') (hf : ∀ g, r.blk = some g → w.heap.size ≤ g) : Spl w0 w' (r :: L) := by
  have h1 := h.below hb
  refine ⟨h1.bel, fun i s hs => ?_, fun i s hs g hg => ?_, fun i j s u hij hs hu => ?_⟩
  · cases i with
    | zero => cases hs; exact hr
    | succ i => exact h1.all i s hs
  · cases i with
    | zero => cases hs; exact Nat.le_trans h.bel.size (hf g hg)
    | succ i => exact h1.fr i s hs g hg
  · have key : ∀ k x, L[k]? = some x → Apart r x := fun k x hx g hg e => by
      have h2 := hf g hg
      have h3 := (h.all k x hx).lt e
      omega
    cases i with
    | zero =>
      cases j with
      | zero => exact absurd rfl hij
      | succ j => cases hs; exact key j u hu
    | succ i =>
      cases j with
      | zero => cases hu; exact (key i s hs).symm
      | succ j => exact h.ap i j s u (by omega) hs hu
/-- A piece that lies already. -/
theorem Spl.add (h : Spl w0 w L) {r : Res} (hr : r.ok w) (hf : ∀ g, r.blk = some g → w0.heap.size ≤ g) (ha : ∀ (k : Nat) (x : Res), L[k]? = some x → Apart r x) : Spl w0 w (r :: L) := by
  refine ⟨h.bel, fun i s hs => ?_, fun i s hs g hg => ?_, fun i j s u hij hs hu => ?_⟩
  · cases i with
    | zero => cases hs; exact hr
    | succ i => exact h.all i s hs
  · cases i with
    | zero => cases hs; exact hf g hg
    | succ i => exact h.fr i s hs g hg
  · cases i with
    | zero =>
      cases j with
      | zero => exact absurd rfl hij
      | succ j => cases hs; exact ha j u hu
    | succ i =>
      cases j with
      | zero => cases hu; exact (ha i s hs).symm
      | succ j => exact h.ap i j s u (by omega) hs hu
/-- A piece turns. -/
theorem Spl.upd (h : Spl w0 w L) (i : Nat) {r r' : Res} (hi : L[i]? = some r) (o : Only (fun k => r.blk = some k) w w') (hr : r'.ok w') (hf : ∀ g, r'.blk = some g → r.blk = some g ∨ w.heap.size ≤ g) : Spl w0 w' (L.set i r') := by
  have hlt : i < L.length := by
    rcases Nat.lt_or_ge i L.length with h1 | h1
    · exact h1
    · rw [List.getElem?_eq_none h1] at hi; cases hi
  have getS : ∀ k s, (L.set i r')[k]? = some s → (k = i ∧ s = r') ∨ (k ≠ i ∧ L[k]? = some s) := fun k s hs => by
    rw [List.getElem?_set] at hs
    by_cases e : i = k
    · rw [if_pos e, if_pos hlt] at hs
      exact .inl ⟨e.symm, (Option.some.inj hs).symm⟩
    · rw [if_neg e] at hs
      exact .inr ⟨Ne.symm e, hs⟩
  have key : ∀ k x, k ≠ i → L[k]? = some x → Apart r' x := fun k x hk hx g hg e => by
    rcases hf g hg with h2 | h2
    · exact h.ap i k r x (Ne.symm hk) hi hx g h2 e
    · have h3 := (h.all k x hx).lt e
      omega
  refine ⟨h.bel.trans ⟨o.os, o.tape, o.output, o.size, fun k hk => o.block k (Nat.lt_of_lt_of_le hk h.bel.size) fun t => ?_⟩, fun k s hs => ?_, fun k s hs g hg => ?_, fun k j s u hkj hs hu => ?_⟩
  · have := h.fr i r hi k t
    omega
  · rcases getS k s hs with ⟨_, rfl⟩ | ⟨h1, h2⟩
    · exact hr
    · exact (h.all k s h2).frame o.size fun g hg => o.block g ((h.all k s h2).lt hg) fun t => h.ap i k r s (Ne.symm h1) hi h2 g t hg
  · rcases getS k s hs with ⟨_, rfl⟩ | ⟨h1, h2⟩
    · rcases hf g hg with h3 | h3
      · exact h.fr i r hi g h3
      · exact Nat.le_trans h.bel.size h3
    · exact h.fr k s h2 g hg
  · rcases getS k s hs with ⟨h1, rfl⟩ | ⟨h1, h2⟩
    · rcases getS j u hu with ⟨h3, rfl⟩ | ⟨h3, h4⟩
      · exact absurd (h1.trans h3.symm) hkj
      · exact key j u h3 h4
    · rcases getS j u hu with ⟨h3, rfl⟩ | ⟨h3, h4⟩
      · exact (key k s h1 h2).symm
      · exact h.ap k j s u hkj h2 h4
/-- A number of a row turns. -/
theorem Spl.setI (h : Spl w0 w L) (i : Nat) {g n c : Nat} {D : Nat → Int} (hi : L[i]? = some (.iv (.slice (some ⟨g, 0, none⟩) n c) (il n D))) (j : Nat) (x : Int) : Spl w0 (w.setCell ⟨g, j, none⟩ (.int .i64 x)) (L.set i (.iv (.slice (some ⟨g, 0, none⟩) n c) (il n fun k => if k = j then x else D k))) := by
  refine h.upd i hi ((Only.refl _ w).setCell ⟨g, j, none⟩ _ fun _ => rfl) ?_ fun g hg => .inl hg
  have h1 := OwnV.set (h.all i _ hi) (by rw [il_len]) j (.int .i64 x)
  rw [il_set] at h1
  exact h1
theorem Spl.setB (h : Spl w0 w L) (i : Nat) {g n c : Nat} {D : Nat → Bool} (hi : L[i]? = some (.bv (.slice (some ⟨g, 0, none⟩) n c) (bl n D))) (j : Nat) (x : Bool) : Spl w0 (w.setCell ⟨g, j, none⟩ (.bool x)) (L.set i (.bv (.slice (some ⟨g, 0, none⟩) n c) (bl n fun k => if k = j then x else D k))) := by
  refine h.upd i hi ((Only.refl _ w).setCell ⟨g, j, none⟩ _ fun _ => rfl) ?_ fun g hg => .inl hg
  have h1 := OwnV.set (h.all i _ hi) (by rw [bl_len]) j (.bool x)
  rw [bl_set] at h1
  exact h1
theorem Spl.setP (h : Spl w0 w L) (i : Nat) {b : Nat} {f : Nat → Value} (hi : L[i]? = some (.pg b f)) (j : Nat) (v : Value) (hj : j < 111) : Spl w0 (w.setCell ⟨b, j, none⟩ v) (L.set i (.pg b (_root_.Go.Proofs.Ybulkecis.upd f j v))) :=
  h.upd i hi ((Only.refl _ w).setCell ⟨b, j, none⟩ _ fun _ => rfl) (Pg.set (h.all i _ hi) j v hj) fun g hg => .inl hg
/-- A row of numbers grows (append). -/
theorem Spl.growI (h : Spl w0 w L) (i : Nat) {v v' : Value} {xs ys : List Value} (hi : L[i]? = some (.iv v xs)) (o : w.grownBy w' v.ownBlock) (hr : OwnV w' 3 v' ys) (hp : ∀ g, v'.ownBlock = some g → v.ownBlock = some g ∨ w.heap.size ≤ g) : Spl w0 w' (L.set i (.iv v' ys)) :=
  h.upd i hi (Only.of_grown o fun k hk => hk) hr hp
theorem Spl.growA (h : Spl w0 w L) (i : Nat) {v v' : Value} {xs ys : List (Nat × Nat)} (hi : L[i]? = some (.av v xs)) (o : w.grownBy w' v.ownBlock) (hr : OwnA w' v' ys) (hp : ∀ g, v'.ownBlock = some g → v.ownBlock = some g ∨ w.heap.size ≤ g) : Spl w0 w' (L.set i (.av v' ys)) :=
  h.upd i hi (Only.of_grown o fun k hk => hk) hr hp
end

theorem Spl.pw {w0 w : World} {L : List Res} (h : Spl w0 w L) : L.Pairwise Apart := by
  rw [List.pairwise_iff_getElem]
  intro i j hi hj hij
  exact h.ap i j _ _ (by omega) (List.getElem?_eq_getElem hi) (List.getElem?_eq_getElem hj)
theorem Spl.perm {w0 w : World} {L L' : List Res} (h : Spl w0 w L) (p : L.Perm L') : Spl w0 w L' := by
  have hm : ∀ (i : Nat) (r : Res), L'[i]? = some r → ∃ k, L[k]? = some r := fun i r hr => by
    have h1 : r ∈ L := p.mem_iff.2 (List.mem_of_getElem? hr)
    exact List.mem_iff_getElem?.1 h1
  have hp := (p.pairwise_iff (R := Apart) (fun h => h.symm)).1 h.pw
  rw [List.pairwise_iff_getElem] at hp
  refine ⟨h.bel, fun i r hr => ?_, fun i r hr => ?_, fun i j r s hij hr hs => ?_⟩
  · obtain ⟨k, hk⟩ := hm i r hr
    exact h.all k r hk
  · obtain ⟨k, hk⟩ := hm i r hr
    exact h.fr k r hk
  · obtain ⟨hi, rfl⟩ := List.getElem?_eq_some_iff.1 hr
    obtain ⟨hj, rfl⟩ := List.getElem?_eq_some_iff.1 hs
    rcases Nat.lt_or_gt_of_ne hij with h1 | h1
    · exact hp i j hi hj h1
    · exact (hp j i hj hi h1).symm
theorem Spl.rot {w0 w : World} {L : List Res} {p : Res} (h : Spl w0 w (L ++ [p])) : Spl w0 w (p :: L) := h.perm List.perm_append_comm

/-- A slice that came in. -/
structure Rv (w : World) (ao : Option Addr) (l : Nat) (V : Nat → Value) : Prop where
  at' : 0 < l → ∃ b o, ao = some ⟨b, o, none⟩ ∧ ∀ j, j < l → w.cell? ⟨b, o + j, none⟩ = some (V j)
theorem Rv.below {w w' : World} {ao : Option Addr} {l : Nat} {V : Nat → Value} (h : Rv w ao l V) (hb : Below w.heap.size w w') : Rv w' ao l V := ⟨fun h0 => by
  obtain ⟨b, o, h1, h2⟩ := h.at' h0
  exact ⟨b, o, h1, fun j hj => (cell_of_block (hb.block b (ltc (h2 j hj)))).trans (h2 j hj)⟩⟩
end Go.Proofs.Ybulkecis

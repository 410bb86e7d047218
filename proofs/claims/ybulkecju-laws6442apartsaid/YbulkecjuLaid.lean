/-
  The outbox that the law builds, and what it holds behind take.
-/
import Derived.Test.YbulkecjuTakeProg
namespace Go.Proofs.Ybulkecju
open Go.RowKit Go.MuLone Own
set_option linter.unusedVariables false

/-- What the law's argument holds. -/
structure Given (w : World) (sO sP : Value) (hO hP : List Value) (ssO ssP : List (List Int)) : Prop where
  h1 : Hdr w sO hO
  h2 : Hdr w sP hP
  e1 : ∀ i, i < hO.length → Byt w (hO.getD i (.slice none 0 0)) (ssO.getD i []) ∧ (ssO.getD i []).length ≤ 140737488351232
  e2 : ∀ i, i < hP.length → Byt w (hP.getD i (.slice none 0 0)) (ssP.getD i []) ∧ (ssP.getD i []).length ≤ 140737488351232

theorem Given.below {w w' : World} {sO sP : Value} {hO hP : List Value} {ssO ssP : List (List Int)} (h : Given w sO sP hO hP ssO ssP) (hb : Below w.heap.size w w') : Given w' sO sP hO hP ssO ssP :=
  ⟨h.h1.below hb, h.h2.below hb, fun i hi => ⟨(h.e1 i hi).1.below hb, (h.e1 i hi).2⟩, fun i hi => ⟨(h.e2 i hi).1.below hb, (h.e2 i hi).2⟩⟩

theorem Cpy.form {B : Nat} {w : World} {y : Value} {ys hs : List Value} {ss : List (List Int)} (h : Cpy B w y ys hs ss) : ∃ a l, y = .slice a l l := by
  rcases h.hdr with ⟨h, _⟩ | ⟨g, _, h, _⟩
  · exact ⟨_, _, h⟩
  · exact ⟨_, _, h⟩

/-- A store into a cell that holds no byte leaves bytes alone. -/
theorem Byt.store {w : World} {v : Value} {s : List Int} (h : Byt w v s) {p : Addr} {u : Value} (u' : Value) (hp : w.cell? p = some u) (hne : ∀ x, u ≠ .int .u8 x) : Byt (w.setCell p u') v s := by
  obtain ⟨ao, l, c, rfl, h1, h2, h3, h4⟩ := h
  refine ⟨ao, l, c, rfl, h1, h2, h3, fun a ha i hi => ?_⟩
  have hc := h4 a ha i hi
  rw [← hc]
  refine World.cell?_setCell_other _ _ _ _ ?_
  intro e
  rw [e, hc] at hp
  cases hp
  exact hne _ rfl

/-- A store into a cell that holds none of the list's headers. -/
theorem Hdr.storeAt {w : World} {v : Value} {hs : List Value} (h : Hdr w v hs) {p : Addr} (u' : Value) (hne : ∀ a l c, v = .slice (some a) l c → ∀ i, i < hs.length → p ≠ a.add i) : Hdr (w.setCell p u') v hs := by
  obtain ⟨ao, l, c, rfl, h1, h2, h2', h3, h4⟩ := h
  refine ⟨ao, l, c, rfl, h1, h2, h2', h3, fun a ha i hi => ?_⟩
  rw [← h4 a ha i hi]
  subst ha
  exact World.cell?_setCell_other _ _ _ _ (hne a l c rfl i (by omega))

theorem Hdr.store {w : World} {v : Value} {hs : List Value} (h : Hdr w v hs) (hsl : ∀ i, i < hs.length → ∃ a l c, hs.getD i (.slice none 0 0) = .slice a l c) {p : Addr} {u : Value} (u' : Value) (hp : w.cell? p = some u) (hne : ∀ a l c, u ≠ .slice a l c) : Hdr (w.setCell p u') v hs := by
  refine h.storeAt u' fun a l c hv i hi e => ?_
  obtain ⟨ao, l', c', hv', h1, _, _, _, h4⟩ := h
  rw [hv] at hv'
  cases hv'
  have := h4 a rfl i (by omega)
  rw [← e, hp] at this
  obtain ⟨a', l', c', hs'⟩ := hsl i hi
  rw [hs'] at this
  cases this
  exact hne _ _ _ rfl

theorem Alike.store {w : World} {u v : Value} (h : Alike w u v) {p : Addr} {x : Value} (x' : Value) (hp : w.cell? p = some x) (hne : ∀ y, x ≠ .int .u8 y) : Alike (w.setCell p x') u v := by
  obtain ⟨hn, s, h1, h2⟩ := h
  exact ⟨hn, s, h1.store x' hp hne, h2.store x' hp hne⟩
theorem Alike.below {w w' : World} {u v : Value} (h : Alike w u v) (hb : Below w.heap.size w w') : Alike w' u v := by
  obtain ⟨hn, s, h1, h2⟩ := h
  exact ⟨hn, s, h1.below hb, h2.below hb⟩

/-- Two lists that read alike. -/
def Pair (w : World) (u v : Value) : Prop := ∃ ha hb, Hdr w u ha ∧ Hdr w v hb ∧ ha.length = hb.length ∧ ∀ i, i < ha.length → Alike w (ha.getD i (.slice none 0 0)) (hb.getD i (.slice none 0 0))

theorem Pair.below {w w' : World} {u v : Value} (h : Pair w u v) (hb : Below w.heap.size w w') : Pair w' u v := by
  obtain ⟨ha, hc, h1, h2, hl, he⟩ := h
  exact ⟨ha, hc, h1.below hb, h2.below hb, hl, fun i hi => (he i hi).below hb⟩
theorem Pair.ok {w : World} {u v : Value} (h : Pair w u v) : LsOk w u v := by
  intro w' hb
  obtain ⟨ha, hc, h1, h2, hl, he⟩ := h.below hb
  exact list_true u v ha hc w' h1 h2 hl he
theorem Alike.sl {w : World} {u v : Value} (h : Alike w u v) : (∃ a l c, u = .slice a l c) ∧ ∃ a l c, v = .slice a l c := by
  obtain ⟨_, s, h1, h2⟩ := h
  obtain ⟨a, c, h1, _⟩ := h1.form
  obtain ⟨a', c', h2, _⟩ := h2.form
  exact ⟨⟨_, _, _, h1⟩, _, _, _, h2⟩
theorem Pair.store {w : World} {u v : Value} (h : Pair w u v) {p : Addr} {x : Value} (x' : Value) (hp : w.cell? p = some x) (hne : ∀ y, x ≠ .int .u8 y) (hns : ∀ a l c, x ≠ .slice a l c) : Pair (w.setCell p x') u v := by
  obtain ⟨ha, hc, h1, h2, hl, he⟩ := h
  exact ⟨ha, hc, h1.store (fun i hi => (he i hi).sl.1) x' hp hns, h2.store (fun i hi => (he i (by omega)).sl.2) x' hp hns, hl, fun i hi => (he i hi).store x' hp hne⟩
theorem Pair.storeAt {w : World} {u v : Value} (h : Pair w u v) {p : Addr} {x : Value} (x' : Value) (hp : w.cell? p = some x) (hne : ∀ y, x ≠ .int .u8 y) (hu : ∀ a l c, u = .slice (some a) l c → ∀ i, p ≠ a.add i) (hv : ∀ a l c, v = .slice (some a) l c → ∀ i, p ≠ a.add i) : Pair (w.setCell p x') u v := by
  obtain ⟨ha, hc, h1, h2, hl, he⟩ := h
  exact ⟨ha, hc, h1.storeAt x' (fun a l c e i _ => hu a l c e i), h2.storeAt x' (fun a l c e i _ => hv a l c e i), hl, fun i hi => (he i hi).store x' hp hne⟩
theorem Pair.drew {w : World} {u v : Value} (h : Pair w u v) : Pair w.drew u v := h
theorem Alike.drew {w : World} {u v : Value} (h : Alike w u v) : Alike w.drew u v := h

/-- A store into a cell of the outbox's that Box does not name. -/
theorem Box.set0 {w : World} {ob : Nat} {ov pv : Value} {wt : Int} {rel cl : Bool} {rd td : Int} {tl tm : Bool} {st tk : Int} {ak wa : Bool} (h : Box w ob ov pv wt rel cl rd td tl tm st tk ak wa) (k : Nat) (hk : k < 9) (v : Value) : Box (w.setCell ⟨ob, k, none⟩ v) ob ov pv wt rel cl rd td tl tm st tk ak wa := by
  have e : ∀ j, 9 ≤ j → (w.setCell ⟨ob, k, none⟩ v).cell? ⟨ob, j, none⟩ = w.cell? ⟨ob, j, none⟩ := fun j hj => World.cell?_setCell_other _ _ _ _ (by first | (simp; done) | (simp; omega))
  exact ⟨(e 9 (by omega)).trans h.c9, (e 10 (by omega)).trans h.c10, (e 11 (by omega)).trans h.c11, (e 12 (by omega)).trans h.c12, (e 13 (by omega)).trans h.c13, (e 14 (by omega)).trans h.c14, (e 15 (by omega)).trans h.c15, (e 16 (by omega)).trans h.c16, (e 17 (by omega)).trans h.c17, (e 18 (by omega)).trans h.c18, (e 19 (by omega)).trans h.c19, (e 20 (by omega)).trans h.c20, (e 21 (by omega)).trans h.c21, (e 22 (by omega)).trans h.c22, (e 23 (by omega)).trans h.c23, (e 24 (by omega)).trans h.c24⟩
theorem Box.far {w : World} {ob : Nat} {ov pv : Value} {wt : Int} {rel cl : Bool} {rd td : Int} {tl tm : Bool} {st tk : Int} {ak wa : Bool} (h : Box w ob ov pv wt rel cl rd td tl tm st tk ak wa) (g k : Nat) (hg : g ≠ ob) (v : Value) : Box (w.setCell ⟨g, k, none⟩ v) ob ov pv wt rel cl rd td tl tm st tk ak wa := by
  have e : ∀ j, (w.setCell ⟨g, k, none⟩ v).cell? ⟨ob, j, none⟩ = w.cell? ⟨ob, j, none⟩ := fun j => World.cell?_setCell_other _ _ _ _ (by intro e; cases e; exact hg rfl)
  exact ⟨(e 9).trans h.c9, (e 10).trans h.c10, (e 11).trans h.c11, (e 12).trans h.c12, (e 13).trans h.c13, (e 14).trans h.c14, (e 15).trans h.c15, (e 16).trans h.c16, (e 17).trans h.c17, (e 18).trans h.c18, (e 19).trans h.c19, (e 20).trans h.c20, (e 21).trans h.c21, (e 22).trans h.c22, (e 23).trans h.c23, (e 24).trans h.c24⟩
theorem Box.drew {w : World} {ob : Nat} {ov pv : Value} {wt : Int} {rel cl : Bool} {rd td : Int} {tl tm : Bool} {st tk : Int} {ak wa : Bool} (h : Box w ob ov pv wt rel cl rd td tl tm st tk ak wa) : Box w.drew ob ov pv wt rel cl rd td tl tm st tk ak wa :=
  ⟨h.c9, h.c10, h.c11, h.c12, h.c13, h.c14, h.c15, h.c16, h.c17, h.c18, h.c19, h.c20, h.c21, h.c22, h.c23, h.c24⟩
section
variable {w : World} {ob : Nat} {ov pv : Value} {wt : Int} {rel cl : Bool} {rd td : Int} {tl tm : Bool} {st tk : Int} {ak wa : Bool}
theorem Box.setOwn (h : Box w ob ov pv wt rel cl rd td tl tm st tk ak wa) (v : Value) : Box (w.setCell ⟨ob, 9, none⟩ v) ob v pv wt rel cl rd td tl tm st tk ak wa := by
  have e : ∀ j, j ≠ 9 → (w.setCell ⟨ob, 9, none⟩ v).cell? ⟨ob, j, none⟩ = w.cell? ⟨ob, j, none⟩ := fun j hj => World.cell?_setCell_other _ _ _ _ (by first | (simp; done) | (simp; omega))
  exact ⟨World.cell?_setCell_same w _ v h.c9, (e 10 (by omega)).trans h.c10, (e 11 (by omega)).trans h.c11, (e 12 (by omega)).trans h.c12, (e 13 (by omega)).trans h.c13, (e 14 (by omega)).trans h.c14, (e 15 (by omega)).trans h.c15, (e 16 (by omega)).trans h.c16, (e 17 (by omega)).trans h.c17, (e 18 (by omega)).trans h.c18, (e 19 (by omega)).trans h.c19, (e 20 (by omega)).trans h.c20, (e 21 (by omega)).trans h.c21, (e 22 (by omega)).trans h.c22, (e 23 (by omega)).trans h.c23, (e 24 (by omega)).trans h.c24⟩
theorem Box.setProg (h : Box w ob ov pv wt rel cl rd td tl tm st tk ak wa) (v : Value) : Box (w.setCell ⟨ob, 10, none⟩ v) ob ov v wt rel cl rd td tl tm st tk ak wa := by
  have e : ∀ j, j ≠ 10 → (w.setCell ⟨ob, 10, none⟩ v).cell? ⟨ob, j, none⟩ = w.cell? ⟨ob, j, none⟩ := fun j hj => World.cell?_setCell_other _ _ _ _ (by first | (simp; done) | (simp; omega))
  exact ⟨(e 9 (by omega)).trans h.c9, World.cell?_setCell_same w _ v h.c10, (e 11 (by omega)).trans h.c11, (e 12 (by omega)).trans h.c12, (e 13 (by omega)).trans h.c13, (e 14 (by omega)).trans h.c14, (e 15 (by omega)).trans h.c15, (e 16 (by omega)).trans h.c16, (e 17 (by omega)).trans h.c17, (e 18 (by omega)).trans h.c18, (e 19 (by omega)).trans h.c19, (e 20 (by omega)).trans h.c20, (e 21 (by omega)).trans h.c21, (e 22 (by omega)).trans h.c22, (e 23 (by omega)).trans h.c23, (e 24 (by omega)).trans h.c24⟩
theorem Box.setWait (h : Box w ob ov pv wt rel cl rd td tl tm st tk ak wa) (v : Int) : Box (w.setCell ⟨ob, 11, none⟩ (.int .i64 v)) ob ov pv v rel cl rd td tl tm st tk ak wa := by
  have e : ∀ j, j ≠ 11 → (w.setCell ⟨ob, 11, none⟩ (.int .i64 v)).cell? ⟨ob, j, none⟩ = w.cell? ⟨ob, j, none⟩ := fun j hj => World.cell?_setCell_other _ _ _ _ (by first | (simp; done) | (simp; omega))
  exact ⟨(e 9 (by omega)).trans h.c9, (e 10 (by omega)).trans h.c10, World.cell?_setCell_same w _ _ h.c11, (e 12 (by omega)).trans h.c12, (e 13 (by omega)).trans h.c13, (e 14 (by omega)).trans h.c14, (e 15 (by omega)).trans h.c15, (e 16 (by omega)).trans h.c16, (e 17 (by omega)).trans h.c17, (e 18 (by omega)).trans h.c18, (e 19 (by omega)).trans h.c19, (e 20 (by omega)).trans h.c20, (e 21 (by omega)).trans h.c21, (e 22 (by omega)).trans h.c22, (e 23 (by omega)).trans h.c23, (e 24 (by omega)).trans h.c24⟩
theorem Box.setTold (h : Box w ob ov pv wt rel cl rd td tl tm st tk ak wa) (v : Int) : Box (w.setCell ⟨ob, 15, none⟩ (.int .u64 v)) ob ov pv wt rel cl rd v tl tm st tk ak wa := by
  have e : ∀ j, j ≠ 15 → (w.setCell ⟨ob, 15, none⟩ (.int .u64 v)).cell? ⟨ob, j, none⟩ = w.cell? ⟨ob, j, none⟩ := fun j hj => World.cell?_setCell_other _ _ _ _ (by first | (simp; done) | (simp; omega))
  exact ⟨(e 9 (by omega)).trans h.c9, (e 10 (by omega)).trans h.c10, (e 11 (by omega)).trans h.c11, (e 12 (by omega)).trans h.c12, (e 13 (by omega)).trans h.c13, (e 14 (by omega)).trans h.c14, World.cell?_setCell_same w _ _ h.c15, (e 16 (by omega)).trans h.c16, (e 17 (by omega)).trans h.c17, (e 18 (by omega)).trans h.c18, (e 19 (by omega)).trans h.c19, (e 20 (by omega)).trans h.c20, (e 21 (by omega)).trans h.c21, (e 22 (by omega)).trans h.c22, (e 23 (by omega)).trans h.c23, (e 24 (by omega)).trans h.c24⟩
theorem Box.setTell (h : Box w ob ov pv wt rel cl rd td tl tm st tk ak wa) (v : Bool) : Box (w.setCell ⟨ob, 16, none⟩ (.bool v)) ob ov pv wt rel cl rd td v tm st tk ak wa := by
  have e : ∀ j, j ≠ 16 → (w.setCell ⟨ob, 16, none⟩ (.bool v)).cell? ⟨ob, j, none⟩ = w.cell? ⟨ob, j, none⟩ := fun j hj => World.cell?_setCell_other _ _ _ _ (by first | (simp; done) | (simp; omega))
  exact ⟨(e 9 (by omega)).trans h.c9, (e 10 (by omega)).trans h.c10, (e 11 (by omega)).trans h.c11, (e 12 (by omega)).trans h.c12, (e 13 (by omega)).trans h.c13, (e 14 (by omega)).trans h.c14, (e 15 (by omega)).trans h.c15, World.cell?_setCell_same w _ _ h.c16, (e 17 (by omega)).trans h.c17, (e 18 (by omega)).trans h.c18, (e 19 (by omega)).trans h.c19, (e 20 (by omega)).trans h.c20, (e 21 (by omega)).trans h.c21, (e 22 (by omega)).trans h.c22, (e 23 (by omega)).trans h.c23, (e 24 (by omega)).trans h.c24⟩
end

/-- The outbox behind take: what rest is asked of. -/
structure Aft (w1 W : World) (ob : Nat) (ov pv ow pr mv xv : Value) (wt : Int) (rel cl : Bool) (rd td : Int) (tl tm : Bool) (st tk : Int) (ak wa : Bool) : Prop where
  hob : w1.heap.size ≤ ob
  bel : Below w1.heap.size w1 W
  box : Box W ob ov pv wt rel cl rd td tl tm st tk ak wa
  p1 : Pair W ov ow
  p2 : Pair W pv pr
  q : Alike W mv xv
  c0 : W.cell? ⟨ob, 0, none⟩ = some (.int .i32 0)
  f0 : W.frozen? ⟨ob, 0, none⟩ = false

theorem Aft.lock {w1 W : World} {ob : Nat} {ov pv ow pr mv xv : Value} {wt : Int} {rel cl : Bool} {rd td : Int} {tl tm : Bool} {st tk : Int} {ak wa : Bool} (h : Aft w1 W ob ov pv ow pr mv xv wt rel cl rd td tl tm st tk ak wa) : Aft w1 ((W.setCell ⟨ob, 0, none⟩ (.int .i32 1)).setCell ⟨ob, 0, none⟩ (.int .i32 0)) ob ov pv ow pr mv xv wt rel cl rd td tl tm st tk ak wa := by
  have c1 := World.cell?_setCell_same W ⟨ob, 0, none⟩ (.int .i32 1) h.c0
  have n8 : ∀ (k : Int) (y : Int), (Value.int .i32 k) ≠ .int .u8 y := by intro k y e; cases e
  have nsl : ∀ (k : Int) a l c, (Value.int .i32 k) ≠ .slice a l c := by intro k a l c e; cases e
  exact ⟨h.hob, (h.bel.setCell h.hob _).setCell h.hob _, (h.box.set0 0 (by omega) _).set0 0 (by omega) _, (h.p1.store _ h.c0 (n8 _) (nsl _)).store _ c1 (n8 _) (nsl _), (h.p2.store _ h.c0 (n8 _) (nsl _)).store _ c1 (n8 _) (nsl _), (h.q.store _ h.c0 (n8 _)).store _ c1 (n8 _),
    World.cell?_setCell_same _ ⟨ob, 0, none⟩ (.int .i32 0) c1, by simp [h.f0]⟩

theorem n8i (k : Int) (i : IntKind) (hi : i ≠ .u8) (y : Int) : (Value.int i k) ≠ .int .u8 y := by intro e; cases e; exact hi rfl
theorem nsi (k : Int) (i : IntKind) (a : Option Addr) (l c : Nat) : (Value.int i k) ≠ .slice a l c := by intro e; cases e
theorem n8b (k : Bool) (y : Int) : (Value.bool k) ≠ .int .u8 y := by intro e; cases e
theorem nsb (k : Bool) (a : Option Addr) (l c : Nat) : (Value.bool k) ≠ .slice a l c := by intro e; cases e
theorem n8s (a : Option Addr) (l c : Nat) (y : Int) : (Value.slice a l c) ≠ .int .u8 y := by intro e; cases e

section
variable {B : Nat} {w : World} {y : Value} {ys hs : List Value} {ss : List (List Int)}
theorem Cpy.hd (h : Cpy B w y ys hs ss) (hm : ys.length ≤ maxLen) : Hdr w y ys := by
  rcases h.hdr with ⟨rfl, rfl⟩ | ⟨g, _, rfl, hr⟩
  · exact ⟨none, 0, 0, rfl, rfl, Nat.le_refl _, by simp, fun _ => rfl, fun a ha => by cases ha⟩
  · refine ⟨_, _, _, rfl, rfl, Nat.le_refl _, hm, (fun e => by cases e), fun a ha i hi => ?_⟩
    cases ha
    rw [Go.WideShapes.add_plain, Nat.zero_add, cell_of_row w g i _ _ _ hr]
    simp [hi]
theorem Cpy.pair (h : Cpy B w y ys hs ss) (hm : ys.length ≤ maxLen) {s : Value} (hh : Hdr w s hs) (he : ∀ i, i < hs.length → Byt w (hs.getD i (.slice none 0 0)) (ss.getD i [])) : Pair w y s :=
  ⟨ys, hs, h.hd hm, hh, h.len, fun i hi => ⟨(h.el i hi).1, _, (h.el i hi).2, he i (by rw [← h.len]; exact hi)⟩⟩
theorem Cpy.far (h : Cpy B w y ys hs ss) {p : Addr} {u : Value} (u' : Value) (hp : w.cell? p = some u) (hne : ∀ x, u ≠ .int .u8 x) (hb : ∀ g l c, y = .slice (some ⟨g, 0, none⟩) l c → g ≠ p.block) : Cpy B (w.setCell p u') y ys hs ss := by
  refine ⟨h.len, ?_, fun i hi => ⟨(h.el i hi).1, (h.el i hi).2.store u' hp hne⟩⟩
  rcases h.hdr with h | ⟨g, h1, h2, h3⟩
  · exact .inl h
  · refine .inr ⟨g, h1, h2, ?_⟩
    rw [heap_setCell_other _ _ _ _ (hb g _ _ h2)]
    exact h3
theorem Cpy.drew (h : Cpy B w y ys hs ss) : Cpy B w.drew y ys hs ss := ⟨h.len, h.hdr, fun i hi => h.el i hi⟩
theorem Cpy.below (h : Cpy B w y ys hs ss) {w' : World} (hb : Below w.heap.size w w') : Cpy B w' y ys hs ss := by
  refine ⟨h.len, ?_, fun i hi => ⟨(h.el i hi).1, (h.el i hi).2.below hb⟩⟩
  rcases h.hdr with h | ⟨g, h1, h2, h3⟩
  · exact .inl h
  · exact .inr ⟨g, h1, h2, (hb.block g (lt_of_block h3)).trans h3⟩
theorem Cpy.mono (h : Cpy B w y ys hs ss) {B' : Nat} (hB : B' ≤ B) : Cpy B' w y ys hs ss := by
  refine ⟨h.len, ?_, h.el⟩
  rcases h.hdr with h | ⟨g, h1, h2, h3⟩
  · exact .inl h
  · exact .inr ⟨g, by omega, h2, h3⟩
end

/-- The outbox as it is laid. -/
structure Laid (w1 W : World) (ob : Nat) (z1 z2 : Option Addr) (l1 l2 : Nat) (ys1 ys2 : List Value) (sO sP : Value) (hO hP : List Value) (ssO ssP : List (List Int)) (wt : Int) (rel cl : Bool) (rd td : Int) (tl tm : Bool) (st tk : Int) (ak wa : Bool) : Prop where
  hob : w1.heap.size ≤ ob
  bel : Below w1.heap.size w1 W
  G : Given w1 sO sP hO hP ssO ssP
  nO : hO.length ≤ 1048576
  nP : hP.length ≤ 1048576
  box : Box W ob (.slice z1 l1 l1) (.slice z2 l2 l2) wt rel cl rd td tl tm st tk ak wa
  c0 : W.cell? ⟨ob, 0, none⟩ = some (.int .i32 0)
  c3 : W.cell? ⟨ob, 3, none⟩ = some (.int .u32 0)
  c4 : W.cell? ⟨ob, 4, none⟩ = some (.int .u32 0)
  c8 : W.cell? ⟨ob, 8, none⟩ = some (.int .u64 0)
  fz : ∀ k, W.frozen? ⟨ob, k, none⟩ = false
  co : Cpy w1.heap.size W (.slice z1 l1 l1) ys1 hO ssO
  cp : Cpy w1.heap.size W (.slice z2 l2 l2) ys2 hP ssP
  d1 : ∀ g, z1 = some ⟨g, 0, none⟩ → g ≠ ob
  d2 : ∀ g, z2 = some ⟨g, 0, none⟩ → g ≠ ob
  d12 : ∀ g, z1 = some ⟨g, 0, none⟩ → z2 ≠ some ⟨g, 0, none⟩

theorem laid_of {w1 w2 w3 : World} {z1 z2 : Option Addr} {l1 l2 : Nat} {ys1 ys2 : List Value} {sO sP : Value} {hO hP : List Value} {ssO ssP : List (List Int)} (wt : Int) (rel cl : Bool) (rd td : Int) (tl tm : Bool) (st tk : Int) (ak wa : Bool)
    (G : Given w1 sO sP hO hP ssO ssP) (n1 : hO.length ≤ 1048576) (n2 : hP.length ≤ 1048576)
    (h1 : Cpy w1.heap.size w2 (.slice z1 l1 l1) ys1 hO ssO) (b1 : Below w1.heap.size w1 w2) (h2 : Cpy w2.heap.size w3 (.slice z2 l2 l2) ys2 hP ssP) (b2 : Below w2.heap.size w2 w3) (iv : Value) :
    Laid w1 (w3.alloc (Obj.cells #[Value.int IntKind.i32 0, Value.int IntKind.u32 0, iv, Value.int IntKind.u32 0, Value.int IntKind.u32 0, Value.int IntKind.u64 0, Value.pointer none, Value.pointer none, Value.int IntKind.u64 0, Value.slice z1 l1 l1, Value.slice z2 l2 l2, Value.int IntKind.i64 wt, Value.bool rel, Value.bool cl, Value.int IntKind.u64 rd, Value.int IntKind.u64 td, Value.bool tl, Value.bool tm, Value.int IntKind.u64 st, Value.int IntKind.u64 tk, Value.int IntKind.u64 0, Value.int IntKind.i64 0, Value.pointer none, Value.bool ak, Value.bool wa] 48)) w3.heap.size z1 z2 l1 l2 ys1 ys2 sO sP hO hP ssO ssP wt rel cl rd td tl tm st tk ak wa := by
  have s12 : w1.heap.size ≤ w2.heap.size := b1.size
  have s23 : w2.heap.size ≤ w3.heap.size := b2.size
  have hrow := heap_alloc_new w3 (Obj.cells #[Value.int IntKind.i32 0, Value.int IntKind.u32 0, iv, Value.int IntKind.u32 0, Value.int IntKind.u32 0, Value.int IntKind.u64 0, Value.pointer none, Value.pointer none, Value.int IntKind.u64 0, Value.slice z1 l1 l1, Value.slice z2 l2 l2, Value.int IntKind.i64 wt, Value.bool rel, Value.bool cl, Value.int IntKind.u64 rd, Value.int IntKind.u64 td, Value.bool tl, Value.bool tm, Value.int IntKind.u64 st, Value.int IntKind.u64 tk, Value.int IntKind.u64 0, Value.int IntKind.i64 0, Value.pointer none, Value.bool ak, Value.bool wa] 48)
  have ba : Below w3.heap.size w3 (w3.alloc (Obj.cells #[Value.int IntKind.i32 0, Value.int IntKind.u32 0, iv, Value.int IntKind.u32 0, Value.int IntKind.u32 0, Value.int IntKind.u64 0, Value.pointer none, Value.pointer none, Value.int IntKind.u64 0, Value.slice z1 l1 l1, Value.slice z2 l2 l2, Value.int IntKind.i64 wt, Value.bool rel, Value.bool cl, Value.int IntKind.u64 rd, Value.int IntKind.u64 td, Value.bool tl, Value.bool tm, Value.int IntKind.u64 st, Value.int IntKind.u64 tk, Value.int IntKind.u64 0, Value.int IntKind.i64 0, Value.pointer none, Value.bool ak, Value.bool wa] 48)) := (Below.refl _ w3).alloc (Nat.le_refl _) _
  generalize (w3.alloc (Obj.cells #[Value.int IntKind.i32 0, Value.int IntKind.u32 0, iv, Value.int IntKind.u32 0, Value.int IntKind.u32 0, Value.int IntKind.u64 0, Value.pointer none, Value.pointer none, Value.int IntKind.u64 0, Value.slice z1 l1 l1, Value.slice z2 l2 l2, Value.int IntKind.i64 wt, Value.bool rel, Value.bool cl, Value.int IntKind.u64 rd, Value.int IntKind.u64 td, Value.bool tl, Value.bool tm, Value.int IntKind.u64 st, Value.int IntKind.u64 tk, Value.int IntKind.u64 0, Value.int IntKind.i64 0, Value.pointer none, Value.bool ak, Value.bool wa] 48)) = w4 at *
  have bs := ba
  have b3 : Below w2.heap.size w2 w4 := b2.trans (bs.mono s23)
  have e : ∀ k, k ≠ 2 → w4.cell? ⟨w3.heap.size, k, none⟩ = (#[Value.int IntKind.i32 0, Value.int IntKind.u32 0, iv, Value.int IntKind.u32 0, Value.int IntKind.u32 0, Value.int IntKind.u64 0, Value.pointer none, Value.pointer none, Value.int IntKind.u64 0, Value.slice z1 l1 l1, Value.slice z2 l2 l2, Value.int IntKind.i64 wt, Value.bool rel, Value.bool cl, Value.int IntKind.u64 rd, Value.int IntKind.u64 td, Value.bool tl, Value.bool tm, Value.int IntKind.u64 st, Value.int IntKind.u64 tk, Value.int IntKind.u64 0, Value.int IntKind.i64 0, Value.pointer none, Value.bool ak, Value.bool wa])[k]? := fun k hk =>
    cell_of_row w4 w3.heap.size k _ _ _ hrow
  have lt1 : ∀ g, z1 = some ⟨g, 0, none⟩ → g < w2.heap.size := by
    intro g hg
    rcases h1.hdr with ⟨h, _⟩ | ⟨g', _, h, hr⟩
    · cases h; cases hg
    · cases h; cases hg; exact lt_of_block hr
  have lt2 : ∀ g, z2 = some ⟨g, 0, none⟩ → w2.heap.size ≤ g ∧ g < w3.heap.size := by
    intro g hg
    rcases h2.hdr with ⟨h, _⟩ | ⟨g', hg', h, hr⟩
    · cases h; cases hg
    · cases h; cases hg; exact ⟨hg', lt_of_block hr⟩
  refine ⟨by omega, b1.trans (b3.mono s12), G, n1, n2, ⟨e 9 (by omega), e 10 (by omega), e 11 (by omega), e 12 (by omega), e 13 (by omega), e 14 (by omega), e 15 (by omega), e 16 (by omega), e 17 (by omega), e 18 (by omega), e 19 (by omega), e 20 (by omega), e 21 (by omega), e 22 (by omega), e 23 (by omega), e 24 (by omega)⟩, e 0 (by omega), e 3 (by omega), e 4 (by omega), e 8 (by omega), ?_, h1.below b3, (h2.mono s12).below bs, ?_, ?_, ?_⟩
  · intro k
    exact frozen_of_row w4 w3.heap.size k _ _ hrow
  · intro g hg
    have := lt1 g hg
    omega
  · intro g hg
    have := lt2 g hg
    omega
  · intro g hg hg'
    have h1 := lt1 g hg
    have h2 := lt2 g hg'
    omega

section
variable {w1 W : World} {ob : Nat} {z1 z2 : Option Addr} {l1 l2 : Nat} {ys1 ys2 : List Value} {sO sP : Value} {hO hP : List Value} {ssO ssP : List (List Int)} {wt : Int} {rel cl : Bool} {rd td : Int} {tl tm : Bool} {st tk : Int} {ak wa : Bool}

theorem len_max {n : Nat} (h : n ≤ 1048576) : n ≤ maxLen := by unfold maxLen; omega

theorem Laid.p1 (L : Laid w1 W ob z1 z2 l1 l2 ys1 ys2 sO sP hO hP ssO ssP wt rel cl rd td tl tm st tk ak wa) : Pair W (.slice z1 l1 l1) sO :=
  L.co.pair (len_max (by rw [L.co.len]; exact L.nO)) (L.G.below L.bel).h1 (fun i hi => ((L.G.below L.bel).e1 i hi).1)
theorem Laid.p2 (L : Laid w1 W ob z1 z2 l1 l2 ys1 ys2 sO sP hO hP ssO ssP wt rel cl rd td tl tm st tk ak wa) : Pair W (.slice z2 l2 l2) sP :=
  L.cp.pair (len_max (by rw [L.cp.len]; exact L.nP)) (L.G.below L.bel).h2 (fun i hi => ((L.G.below L.bel).e2 i hi).1)

theorem alike_nil (w : World) : Alike w (.slice none 0 0) (.slice none 0 0) := ⟨rfl, [], ⟨none, 0, 0, rfl, rfl, Nat.le_refl _, fun _ => rfl, fun a ha => by cases ha⟩, ⟨none, 0, 0, rfl, rfl, Nat.le_refl _, fun _ => rfl, fun a ha => by cases ha⟩⟩

theorem Laid.aft (L : Laid w1 W ob z1 z2 l1 l2 ys1 ys2 sO sP hO hP ssO ssP wt rel cl rd td tl tm st tk ak wa) : Aft w1 W ob (.slice z1 l1 l1) (.slice z2 l2 l2) sO sP (.slice none 0 0) (.slice none 0 0) wt rel cl rd td tl tm st tk ak wa :=
  ⟨L.hob, L.bel, L.box, L.p1, L.p2, alike_nil _, L.c0, L.fz 0⟩

/-- The list behind its first element is gone. -/
theorem tail_pair {g : Nat} {x x' : Value} {xs : List Value} {h0 : Value} {hs : List Value} {ss : List (List Int)} {so : Value} (hr : W.heap[g]? = some (.cells (x' :: xs).toArray 26 (0, 0)))
    (hl : xs.length = hs.length) (hm : xs.length ≤ 1048576) (el : ∀ i, i < (x :: xs).length → nilV ((x :: xs).getD i (.slice none 0 0)) = nilV ((h0 :: hs).getD i (.slice none 0 0)) ∧ Byt W ((x :: xs).getD i (.slice none 0 0)) (ss.getD i []))
    (hh : Hdr W so hs) (he : ∀ i, i < (h0 :: hs).length → Byt W ((h0 :: hs).getD i (.slice none 0 0)) (ss.getD i [])) :
    Pair W (.slice (if xs.length + 1 = 1 then some ⟨g, 0, none⟩ else some ⟨g, 1, none⟩) (xs.length + 1 - 1) (xs.length + 1 - 1)) so := by
  refine ⟨xs, hs, ?_, hh, hl, fun i hi => ?_⟩
  · refine ⟨_, _, _, rfl, by omega, Nat.le_refl _, len_max (by omega), fun e => ?_, fun a ha i hi => ?_⟩
    · by_cases h : xs.length + 1 = 1
      · omega
      · rw [if_neg h] at e; cases e
    · have hne : ¬ xs.length + 1 = 1 := by omega
      rw [if_neg hne] at ha
      cases ha
      rw [Go.WideShapes.add_plain, cell_of_row W g (1 + i) _ _ _ hr]
      have : i < xs.length := by omega
      simp [Nat.add_comm 1 i, this]
  · have h1 := el (i + 1) (by simp; omega)
    have h2 := he (i + 1) (by simp; omega)
    simp only [List.getD_cons_succ] at h1 h2
    exact ⟨h1.1, _, h1.2, h2⟩

/-- Behind take of an own message. -/
theorem Laid.own (L : Laid w1 W ob z1 z2 l1 l2 ys1 ys2 sO sP hO hP ssO ssP wt rel cl rd td tl tm st tk ak wa) {h0 : Value} {hs : List Value} (hhO : hO = h0 :: hs) {so : Value} (hso : Hdr w1 so hs) :
    ∃ g x xs, ys1 = x :: xs ∧ g ≠ ob ∧ z1 = some ⟨g, 0, none⟩ ∧ l1 = xs.length + 1 ∧ xs.length = hs.length ∧ (∃ a l c, x = .slice a l c) ∧ W.cell? ⟨g, 0, none⟩ = some x ∧ W.frozen? ⟨g, 0, none⟩ = false ∧
      Aft w1 (ownWorld W ob g (xs.length + 1)) ob (.slice (if xs.length + 1 = 1 then some ⟨g, 0, none⟩ else some ⟨g, 1, none⟩) (xs.length + 1 - 1) (xs.length + 1 - 1)) (.slice z2 l2 l2) so sP x h0 wt rel cl rd td tl tm st tk ak wa := by
  subst hhO
  have hlen := L.co.len
  match ys1, hlen, L with
  | x :: xs, hlen, L =>
    have hxs : xs.length = hs.length := by simpa using hlen
    rcases L.co.hdr with ⟨_, h⟩ | ⟨g, hgB, hv, hr⟩
    · cases h
    cases hv
    have hgo : g ≠ ob := L.d1 g rfl
    have cg : W.cell? ⟨g, 0, none⟩ = some x := (cell_of_row W g 0 _ _ _ hr).trans (by simp)
    have fg : W.frozen? ⟨g, 0, none⟩ = false := frozen_of_row W g 0 _ _ hr
    have e0 := L.co.el 0 (by simp)
    simp only [List.getD_cons_zero] at e0
    obtain ⟨xa, xc, hx, _⟩ := e0.2.form
    have nO := L.nO
    refine ⟨g, x, xs, rfl, hgo, rfl, by simp, hxs, ⟨_, _, _, hx⟩, cg, fg, ?_⟩
    -- the steps of the world
    have ob0 := L.c0
    have g1 : (W.setCell ⟨ob, 0, none⟩ (.int .i32 1)).cell? ⟨g, 0, none⟩ = some x := (World.cell?_setCell_other _ _ _ _ (by intro e; injection e with e1; exact hgo e1.symm)).trans cg
    have g1' := g1
    rw [hx] at g1'
    have B1 := L.box.set0 0 (by omega) (.int .i32 1)
    have B2 := B1.far g 0 hgo (.slice none 0 0)
    have B3 := B2.setOwn (.slice (if xs.length + 1 = 1 then some ⟨g, 0, none⟩ else some ⟨g, 1, none⟩) (xs.length + 1 - 1) (xs.length + 1 - 1))
    have B4 := (B3.drew.set0 8 (by omega) (.pointer (some ⟨ob, 8, none⟩))).set0 0 (by omega) (.int .i32 0)
    have c9 := B2.c9
    have o8 : ((((W.setCell ⟨ob, 0, none⟩ (.int .i32 1)).setCell ⟨g, 0, none⟩ (.slice none 0 0)).setCell ⟨ob, 9, none⟩ (.slice (if xs.length + 1 = 1 then some ⟨g, 0, none⟩ else some ⟨g, 1, none⟩) (xs.length + 1 - 1) (xs.length + 1 - 1))).drew).cell? ⟨ob, 8, none⟩ = some (.int .u64 0) :=
      (World.cell?_setCell_other _ _ _ _ (by simp)).trans ((World.cell?_setCell_other _ _ _ _ (by intro e; injection e with e1; exact hgo e1)).trans ((World.cell?_setCell_other _ _ _ _ (by simp)).trans L.c8))
    have o0 : (((((W.setCell ⟨ob, 0, none⟩ (.int .i32 1)).setCell ⟨g, 0, none⟩ (.slice none 0 0)).setCell ⟨ob, 9, none⟩ (.slice (if xs.length + 1 = 1 then some ⟨g, 0, none⟩ else some ⟨g, 1, none⟩) (xs.length + 1 - 1) (xs.length + 1 - 1))).drew).setCell ⟨ob, 8, none⟩ (.pointer (some ⟨ob, 8, none⟩))).cell? ⟨ob, 0, none⟩ = some (.int .i32 1) :=
      (World.cell?_setCell_other _ _ _ _ (by simp)).trans ((World.cell?_setCell_other _ _ _ _ (by simp)).trans ((World.cell?_setCell_other _ _ _ _ (by intro e; injection e with e1; exact hgo e1)).trans (World.cell?_setCell_same W _ _ ob0)))
    have bel : Below w1.heap.size w1 (ownWorld W ob g (xs.length + 1)) := (((((L.bel.setCell L.hob _).setCell hgB _).setCell L.hob _).drew).setCell L.hob _).setCell L.hob _
    have GW := L.G.below bel
    have by6 : ∀ v s, Byt W v s → Byt (ownWorld W ob g (xs.length + 1)) v s := by
      intro v s hb
      have k1 := hb.store (.int .i32 1) ob0 (n8i _ _ (by decide))
      have k2 := k1.store (.slice none 0 0) g1' (n8s _ _ _)
      have k3 : Byt (((W.setCell ⟨ob, 0, none⟩ (.int .i32 1)).setCell ⟨g, 0, none⟩ (.slice none 0 0)).setCell ⟨ob, 9, none⟩ (.slice (if xs.length + 1 = 1 then some ⟨g, 0, none⟩ else some ⟨g, 1, none⟩) (xs.length + 1 - 1) (xs.length + 1 - 1))).drew v s := k2.store _ c9 (n8s _ _ _)
      have k4 := k3.store (.pointer (some ⟨ob, 8, none⟩)) o8 (n8i _ _ (by decide))
      exact k4.store (.int .i32 0) o0 (n8i _ _ (by decide))
    have row6 : (ownWorld W ob g (xs.length + 1)).heap[g]? = some (.cells (Value.slice none 0 0 :: xs).toArray 26 (0, 0)) := by
      have r1 : (W.setCell ⟨ob, 0, none⟩ (.int .i32 1)).heap[g]? = some (.cells (x :: xs).toArray 26 (0, 0)) := by rw [heap_setCell_other _ _ _ _ hgo]; exact hr
      have r2 := heap_setCell_same _ g 0 _ _ (.slice none 0 0) r1
      unfold ownWorld
      rw [heap_setCell_other _ _ _ _ hgo, heap_setCell_other _ _ _ _ hgo]
      show ((((W.setCell ⟨ob, 0, none⟩ (.int .i32 1)).setCell ⟨g, 0, none⟩ (.slice none 0 0)).setCell ⟨ob, 9, none⟩ _)).heap[g]? = _
      rw [heap_setCell_other _ _ _ _ hgo, r2]
      simp
    have P1 := tail_pair (W := ownWorld W ob g (xs.length + 1)) (ss := ssO) (so := so) row6 hxs (by rw [hxs]; simp at nO; first | done | omega) (fun i hi => ⟨(L.co.el i hi).1, by6 _ _ (L.co.el i hi).2⟩) (hso.below bel) (fun i hi => (GW.e1 i hi).1)
    have C2 : Cpy w1.heap.size (ownWorld W ob g (xs.length + 1)) (.slice z2 l2 l2) ys2 hP ssP := by
      have hz : ∀ g' l c, Value.slice z2 l2 l2 = .slice (some ⟨g', 0, none⟩) l c → g' ≠ ob ∧ g' ≠ g := by
        intro g' l c e
        cases e
        exact ⟨L.d2 g' rfl, fun e => L.d12 g rfl (by rw [e])⟩
      have k1 := L.cp.far (.int .i32 1) ob0 (n8i _ _ (by decide)) (fun g' l c e => (hz g' l c e).1)
      have k2 := k1.far (.slice none 0 0) g1' (n8s _ _ _) (fun g' l c e => (hz g' l c e).2)
      have k3 := k2.far (.slice (if xs.length + 1 = 1 then some ⟨g, 0, none⟩ else some ⟨g, 1, none⟩) (xs.length + 1 - 1) (xs.length + 1 - 1)) c9 (n8s _ _ _) (fun g' l c e => (hz g' l c e).1)
      have k4 := k3.drew.far (.pointer (some ⟨ob, 8, none⟩)) o8 (n8i _ _ (by decide)) (fun g' l c e => (hz g' l c e).1)
      exact k4.far (.int .i32 0) o0 (n8i _ _ (by decide)) (fun g' l c e => (hz g' l c e).1)
    refine ⟨L.hob, bel, B4, P1, C2.pair (len_max (by rw [L.cp.len]; exact L.nP)) GW.h2 (fun i hi => (GW.e2 i hi).1), ⟨e0.1, _, by6 _ _ e0.2, ?_⟩, World.cell?_setCell_same _ _ _ o0, by simp [ownWorld, L.fz 0]⟩
    have := (GW.e1 0 (by simp)).1
    simpa using this

/-- Behind take of a message of the program's. -/
theorem Laid.prog (L : Laid w1 W ob z1 z2 l1 l2 ys1 ys2 sO sP hO hP ssO ssP wt rel cl rd td tl tm st tk ak wa) {h0 : Value} {hs : List Value} (hhP : hP = h0 :: hs) {so : Value} (hso : Hdr w1 so hs) :
    ∃ g x xs, ys2 = x :: xs ∧ g ≠ ob ∧ z2 = some ⟨g, 0, none⟩ ∧ l2 = xs.length + 1 ∧ xs.length = hs.length ∧ (∃ a c, x = .slice a (ssP.getD 0 []).length c) ∧ (∃ a c, h0 = .slice a (ssP.getD 0 []).length c) ∧ W.cell? ⟨g, 0, none⟩ = some x ∧ W.frozen? ⟨g, 0, none⟩ = false ∧
      ∀ wt', Aft w1 (progWorld W ob g (xs.length + 1) wt') ob (.slice z1 l1 l1) (.slice (if xs.length + 1 = 1 then some ⟨g, 0, none⟩ else some ⟨g, 1, none⟩) (xs.length + 1 - 1) (xs.length + 1 - 1)) sO so x h0 wt' rel cl rd td tl tm st tk ak wa := by
  subst hhP
  have hlen := L.cp.len
  match ys2, hlen, L with
  | x :: xs, hlen, L =>
    have hxs : xs.length = hs.length := by simpa using hlen
    rcases L.cp.hdr with ⟨_, h⟩ | ⟨g, hgB, hv, hr⟩
    · cases h
    cases hv
    have hgo : g ≠ ob := L.d2 g rfl
    have cg : W.cell? ⟨g, 0, none⟩ = some x := (cell_of_row W g 0 _ _ _ hr).trans (by simp)
    have fg : W.frozen? ⟨g, 0, none⟩ = false := frozen_of_row W g 0 _ _ hr
    have e0 := L.cp.el 0 (by simp)
    simp only [List.getD_cons_zero] at e0
    obtain ⟨xa, xc, hx, _⟩ := e0.2.form
    have f0 := (L.G.e2 0 (by simp)).1
    simp only [List.getD_cons_zero] at f0
    obtain ⟨fa, fc, hf, _⟩ := f0.form
    have nP := L.nP
    refine ⟨g, x, xs, rfl, hgo, rfl, by simp, hxs, ⟨_, _, hx⟩, ⟨_, _, hf⟩, cg, fg, fun wt' => ?_⟩
    have ob0 := L.c0
    have g1 : (W.setCell ⟨ob, 0, none⟩ (.int .i32 1)).cell? ⟨g, 0, none⟩ = some x := (World.cell?_setCell_other _ _ _ _ (by intro e; injection e with e1; exact hgo e1.symm)).trans cg
    have g1' := g1
    rw [hx] at g1'
    have B1 := L.box.set0 0 (by omega) (.int .i32 1)
    have B2 := B1.far g 0 hgo (.slice none 0 0)
    have B3 := B2.setProg (.slice (if xs.length + 1 = 1 then some ⟨g, 0, none⟩ else some ⟨g, 1, none⟩) (xs.length + 1 - 1) (xs.length + 1 - 1))
    have B4 := (B3.drew.setWait wt').set0 0 (by omega) (.int .i32 0)
    have c10 := B2.c10
    have o11 := B3.drew.c11
    have o0 : (((((W.setCell ⟨ob, 0, none⟩ (.int .i32 1)).setCell ⟨g, 0, none⟩ (.slice none 0 0)).setCell ⟨ob, 10, none⟩ (.slice (if xs.length + 1 = 1 then some ⟨g, 0, none⟩ else some ⟨g, 1, none⟩) (xs.length + 1 - 1) (xs.length + 1 - 1))).drew).setCell ⟨ob, 11, none⟩ (.int .i64 wt')).cell? ⟨ob, 0, none⟩ = some (.int .i32 1) :=
      (World.cell?_setCell_other _ _ _ _ (by simp)).trans ((World.cell?_setCell_other _ _ _ _ (by simp)).trans ((World.cell?_setCell_other _ _ _ _ (by intro e; injection e with e1; exact hgo e1)).trans (World.cell?_setCell_same W _ _ ob0)))
    have bel : Below w1.heap.size w1 (progWorld W ob g (xs.length + 1) wt') := (((((L.bel.setCell L.hob _).setCell hgB _).setCell L.hob _).drew).setCell L.hob _).setCell L.hob _
    have GW := L.G.below bel
    have by6 : ∀ v s, Byt W v s → Byt (progWorld W ob g (xs.length + 1) wt') v s := by
      intro v s hb
      have k1 := hb.store (.int .i32 1) ob0 (n8i _ _ (by decide))
      have k2 := k1.store (.slice none 0 0) g1' (n8s _ _ _)
      have k3 : Byt (((W.setCell ⟨ob, 0, none⟩ (.int .i32 1)).setCell ⟨g, 0, none⟩ (.slice none 0 0)).setCell ⟨ob, 10, none⟩ (.slice (if xs.length + 1 = 1 then some ⟨g, 0, none⟩ else some ⟨g, 1, none⟩) (xs.length + 1 - 1) (xs.length + 1 - 1))).drew v s := k2.store _ c10 (n8s _ _ _)
      have k4 := k3.store (.int .i64 wt') o11 (n8i _ _ (by decide))
      exact k4.store (.int .i32 0) o0 (n8i _ _ (by decide))
    have row6 : (progWorld W ob g (xs.length + 1) wt').heap[g]? = some (.cells (Value.slice none 0 0 :: xs).toArray 26 (0, 0)) := by
      have r1 : (W.setCell ⟨ob, 0, none⟩ (.int .i32 1)).heap[g]? = some (.cells (x :: xs).toArray 26 (0, 0)) := by rw [heap_setCell_other _ _ _ _ hgo]; exact hr
      have r2 := heap_setCell_same _ g 0 _ _ (.slice none 0 0) r1
      unfold progWorld
      rw [heap_setCell_other _ _ _ _ hgo, heap_setCell_other _ _ _ _ hgo]
      show ((((W.setCell ⟨ob, 0, none⟩ (.int .i32 1)).setCell ⟨g, 0, none⟩ (.slice none 0 0)).setCell ⟨ob, 10, none⟩ _)).heap[g]? = _
      rw [heap_setCell_other _ _ _ _ hgo, r2]
      simp
    have P2 := tail_pair (W := progWorld W ob g (xs.length + 1) wt') (ss := ssP) (so := so) row6 hxs (by rw [hxs]; simp at nP; first | done | omega) (fun i hi => ⟨(L.cp.el i hi).1, by6 _ _ (L.cp.el i hi).2⟩) (hso.below bel) (fun i hi => (GW.e2 i hi).1)
    have C1 : Cpy w1.heap.size (progWorld W ob g (xs.length + 1) wt') (.slice z1 l1 l1) ys1 hO ssO := by
      have hz : ∀ g' l c, Value.slice z1 l1 l1 = .slice (some ⟨g', 0, none⟩) l c → g' ≠ ob ∧ g' ≠ g := by
        intro g' l c e
        cases e
        exact ⟨L.d1 g' rfl, fun e => L.d12 g' rfl (by rw [e])⟩
      have k1 := L.co.far (.int .i32 1) ob0 (n8i _ _ (by decide)) (fun g' l c e => (hz g' l c e).1)
      have k2 := k1.far (.slice none 0 0) g1' (n8s _ _ _) (fun g' l c e => (hz g' l c e).2)
      have k3 := k2.far (.slice (if xs.length + 1 = 1 then some ⟨g, 0, none⟩ else some ⟨g, 1, none⟩) (xs.length + 1 - 1) (xs.length + 1 - 1)) c10 (n8s _ _ _) (fun g' l c e => (hz g' l c e).1)
      have k4 := k3.drew.far (.int .i64 wt') o11 (n8i _ _ (by decide)) (fun g' l c e => (hz g' l c e).1)
      exact k4.far (.int .i32 0) o0 (n8i _ _ (by decide)) (fun g' l c e => (hz g' l c e).1)
    refine ⟨L.hob, bel, B4, C1.pair (len_max (by rw [L.co.len]; exact L.nO)) GW.h1 (fun i hi => (GW.e1 i hi).1), P2, ⟨e0.1, _, by6 _ _ e0.2, ?_⟩, World.cell?_setCell_same _ _ _ o0, by simp [progWorld, L.fz 0]⟩
    have := (GW.e2 0 (by simp)).1
    simpa using this

/-- Behind take of the word that something was read. -/
theorem Laid.tell (L : Laid w1 W ob z1 z2 l1 l2 ys1 ys2 sO sP hO hP ssO ssP wt rel cl rd td tl tm st tk ak wa) {mv : Value} {s : List Int} {w3 : World} (hm : Byt w3 mv s)
    (hb : Below W.heap.size (((W.setCell ⟨ob, 0, none⟩ (.int .i32 1)).setCell ⟨ob, 16, none⟩ (.bool false)).setCell ⟨ob, 15, none⟩ (.int .u64 rd)) w3) :
    Aft w1 (w3.setCell ⟨ob, 0, none⟩ (.int .i32 0)) ob (.slice z1 l1 l1) (.slice z2 l2 l2) sO sP mv mv wt rel cl rd rd false tm st tk ak wa ∧ Byt (w3.setCell ⟨ob, 0, none⟩ (.int .i32 0)) mv s := by
  have hol : ob < W.heap.size := World.block_lt_of_cell? W _ L.c0
  have sz : (((W.setCell ⟨ob, 0, none⟩ (.int .i32 1)).setCell ⟨ob, 16, none⟩ (.bool false)).setCell ⟨ob, 15, none⟩ (.int .u64 rd)).heap.size = W.heap.size := by simp [World.setCell]
  have B3 := ((L.box.set0 0 (by omega) (.int .i32 1)).setTell false).setTold rd
  have c16 := (L.box.set0 0 (by omega) (.int .i32 1)).c16
  have c15 := ((L.box.set0 0 (by omega) (.int .i32 1)).setTell false).c15
  have p1 := ((L.p1.store (.int .i32 1) L.c0 (n8i _ _ (by decide)) (nsi _ _)).store (.bool false) c16 (n8b _) (nsb _)).store (.int .u64 rd) c15 (n8i _ _ (by decide)) (nsi _ _)
  have p2 := ((L.p2.store (.int .i32 1) L.c0 (n8i _ _ (by decide)) (nsi _ _)).store (.bool false) c16 (n8b _) (nsb _)).store (.int .u64 rd) c15 (n8i _ _ (by decide)) (nsi _ _)
  have o0 : (((W.setCell ⟨ob, 0, none⟩ (.int .i32 1)).setCell ⟨ob, 16, none⟩ (.bool false)).setCell ⟨ob, 15, none⟩ (.int .u64 rd)).cell? ⟨ob, 0, none⟩ = some (.int .i32 1) :=
    (World.cell?_setCell_other _ _ _ _ (by simp)).trans ((World.cell?_setCell_other _ _ _ _ (by simp)).trans (World.cell?_setCell_same W _ _ L.c0))
  have fz : (((W.setCell ⟨ob, 0, none⟩ (.int .i32 1)).setCell ⟨ob, 16, none⟩ (.bool false)).setCell ⟨ob, 15, none⟩ (.int .u64 rd)).frozen? ⟨ob, 0, none⟩ = false := by simp [L.fz 0]
  have bel3 := (((L.bel.setCell L.hob (.int .i32 1)).setCell L.hob (.bool false)).setCell L.hob (.int .u64 rd) : Below w1.heap.size w1 (((W.setCell ⟨ob, 0, none⟩ (.int .i32 1)).setCell ⟨ob, 16, none⟩ (.bool false)).setCell ⟨ob, 15, none⟩ (.int .u64 rd)))
  have bel := bel3.trans (hb.mono L.bel.size)
  rw [← sz] at hb hol
  generalize (((W.setCell ⟨ob, 0, none⟩ (.int .i32 1)).setCell ⟨ob, 16, none⟩ (.bool false)).setCell ⟨ob, 15, none⟩ (.int .u64 rd)) = W3 at *
  have k0 : w3.cell? ⟨ob, 0, none⟩ = some (.int .i32 1) := (hb.cell (p := ⟨ob, 0, none⟩) hol).trans o0
  have m2 := hm.store (.int .i32 0) k0 (n8i _ _ (by decide))
  exact ⟨⟨L.hob, bel.setCell L.hob _, (B3.below hb).set0 0 (by omega) _, (p1.below hb).store _ k0 (n8i _ _ (by decide)) (nsi _ _), (p2.below hb).store _ k0 (n8i _ _ (by decide)) (nsi _ _), ⟨rfl, _, m2, m2⟩, World.cell?_setCell_same _ _ _ k0, by rw [World.frozen?_setCell, hb.frozen (p := ⟨ob, 0, none⟩) hol]; exact fz⟩, m2⟩
end
end Go.Proofs.Ybulkecju

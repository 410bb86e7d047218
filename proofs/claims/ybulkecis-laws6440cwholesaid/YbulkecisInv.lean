/-
  The search's state in memory, as LawS6440CWhole builds it and unforce takes it back: an invariant, and what each store and append does to it. No walk here.
-/
import Derived.Test.YbulkecisAdd
namespace Go.Proofs.Ybulkecis
open Go.RowKit Own
set_option linter.unusedVariables false

/-- What the state holds: who owns a block; is 'forced' made; its cells, its rows' values, its rows; the cell and the value of 'forcedFrom', its numbers; 'waiting''s numbers. -/
structure SD where
  own : Nat → Nat
  fs : Bool
  fc : Nat → Value
  fv : Nat → Value
  R : Nat → List Int
  ffc : Value
  ffv : Value
  ff : List Int
  wt : List Int

def ints (l : List Int) : List Value := l.map (Value.int .i64)

structure Inv (n sb wb fb : Nat) (rv : Value) (ls : List (Nat × Nat)) (d : SD) (w : World) : Prop where
  free : ∀ k, w.frozen? ⟨sb, k, none⟩ = false
  cw : w.cell? ⟨sb, 6, none⟩ = some (.slice (some ⟨wb, 0, none⟩) n n)
  cf : w.cell? ⟨sb, 7, none⟩ = some (if d.fs = true then .slice (some ⟨fb, 0, none⟩) n n else .slice none 0 0)
  cff : w.cell? ⟨sb, 8, none⟩ = some d.ffc
  cr : w.cell? ⟨sb, 13, none⟩ = some rv
  wrow : w.heap[wb]? = some (.cells (ints d.wt).toArray 3 (0, 0))
  wlen : d.wt.length = n
  frow : d.fs = true → w.heap[fb]? = some (.cells ((List.range n).map d.fc).toArray 22 (0, 0))
  rows : ∀ u, u < n → OwnV w 3 (d.fv u) (ints (d.R u))
  ffrow : OwnV w 3 d.ffv (ints d.ff)
  nset : NSet w n rv ls
  tsb : d.own sb = n + 1
  twb : d.own wb = n + 2
  tfb : d.fs = true → d.own fb = n + 3
  tff : ∀ g, d.ffv.ownBlock = some g → d.own g = n
  trow : ∀ u, u < n → ∀ g, (d.fv u).ownBlock = some g → d.own g = u
  trv : ∀ g, rv.ownBlock = some g → d.own g = n + 4
  tls : ∀ p ∈ ls, d.own p.1 = n + 5

section
variable {n sb wb fb : Nat} {rv : Value} {ls : List (Nat × Nat)} {d : SD} {w w' : World}

theorem lt_of_cell {w : World} {a : Addr} {v : Value} (h : w.cell? a = some v) : a.block < w.heap.size := World.block_lt_of_cell? w a h

theorem Inv.lsb (h : Inv n sb wb fb rv ls d w) : sb < w.heap.size := lt_of_cell h.cw

/-- All the blocks of the state but those whose tag is in T are as they were: what speaks of the others stays. -/
theorem Inv.cells_keep (h : Inv n sb wb fb rv ls d w) (hb : w'.heap[sb]? = w.heap[sb]?) :
    (∀ k, w'.frozen? ⟨sb, k, none⟩ = false) ∧ w'.cell? ⟨sb, 6, none⟩ = some (.slice (some ⟨wb, 0, none⟩) n n) ∧
    w'.cell? ⟨sb, 7, none⟩ = some (if d.fs = true then .slice (some ⟨fb, 0, none⟩) n n else .slice none 0 0) ∧ w'.cell? ⟨sb, 8, none⟩ = some d.ffc ∧ w'.cell? ⟨sb, 13, none⟩ = some rv :=
  ⟨fun k => (World.frozen?_of_block (w := w) (a := ⟨sb, k, none⟩) hb).trans (h.free k), (World.cell?_of_block (w := w) (a := ⟨sb, 6, none⟩) hb).trans h.cw, (World.cell?_of_block (w := w) (a := ⟨sb, 7, none⟩) hb).trans h.cf,
    (World.cell?_of_block (w := w) (a := ⟨sb, 8, none⟩) hb).trans h.cff, (World.cell?_of_block (w := w) (a := ⟨sb, 13, none⟩) hb).trans h.cr⟩

/-- Nothing old has turned. -/
theorem Inv.keep (h : Inv n sb wb fb rv ls d w) (hb : ∀ g, g < w.heap.size → w'.heap[g]? = w.heap[g]?) : Inv n sb wb fb rv ls d w' := by
  obtain ⟨a, b, c, e, f⟩ := h.cells_keep (hb sb h.lsb)
  refine ⟨a, b, c, e, f, (hb _ (lt_of_block h.wrow)).trans h.wrow, h.wlen, fun hf => (hb _ (lt_of_block (h.frow hf))).trans (h.frow hf), fun u hu => (h.rows u hu).frame fun g hg => hb g ((h.rows u hu).lt hg),
    h.ffrow.frame fun g hg => hb g (h.ffrow.lt hg), h.nset.frame fun g hg => hb g ?_, h.tsb, h.twb, h.tfb, h.tff, h.trow, h.trv, h.tls⟩
  rcases hg with hg | hg
  · exact h.nset.own.lt hg
  · obtain ⟨p, hp, rfl⟩ := List.mem_map.1 hg
    obtain ⟨zs, h1, _⟩ := h.nset.levs p hp
    exact lt_of_block h1

theorem Inv.alloc (h : Inv n sb wb fb rv ls d w) (o : Obj) : Inv n sb wb fb rv ls d (w.alloc o) := h.keep fun g hg => Below.heap_alloc _ _ _ hg
theorem Inv.drewN (h : Inv n sb wb fb rv ls d w) (k : Nat) : Inv n sb wb fb rv ls d (w.drewN k) := h.keep fun g hg => rfl
theorem Inv.drew (h : Inv n sb wb fb rv ls d w) : Inv n sb wb fb rv ls d w.drew := h.keep fun g hg => rfl

def upd {α : Type} (f : Nat → α) (u : Nat) (v : α) : Nat → α := fun x => if x = u then v else f x
theorem upd_same {α : Type} (f : Nat → α) (u : Nat) (v : α) : upd f u v u = v := by simp [upd]
theorem upd_other {α : Type} (f : Nat → α) (u x : Nat) (v : α) (h : x ≠ u) : upd f u v x = f x := by simp [upd, h]

/-- An append to row u: its value is v1 now; the block that it lies in is u's. -/
theorem Inv.appendRow (h : Inv n sb wb fb rv ls d w) {u : Nat} (hu : u < n) {g1 : Nat} {v1 : Value} {xs : List Int} (hv1 : v1.ownBlock = some g1) (hown : OwnV w' 3 v1 (ints xs))
    (hgrow : w.grownBy w' (d.fv u).ownBlock) (hpl : (d.fv u).ownBlock = some g1 ∨ w.heap.size ≤ g1) :
    Inv n sb wb fb rv ls { d with own := upd d.own g1 u, fv := upd d.fv u v1, R := upd d.R u xs } w' := by
  have hne : ∀ g, g < w.heap.size → d.own g ≠ u → w'.heap[g]? = w.heap[g]? := fun g hg ht => hgrow.block g hg (fun e => ht (h.trow u hu g e.symm))
  have htag : ∀ g, g < w.heap.size → d.own g ≠ u → upd d.own g1 u g = d.own g := fun g hg ht => upd_other _ _ _ _ (fun e => by
    rcases hpl with hp | hp
    · exact ht (e ▸ h.trow u hu g1 hp)
    · omega)
  have hsb := h.tsb
  have hwb := h.twb
  obtain ⟨a, b, c, e, f⟩ := h.cells_keep (hne sb h.lsb (by omega))
  have hr : ∀ x, x < n → x ≠ u → ∀ g, (d.fv x).ownBlock = some g → g < w.heap.size ∧ d.own g ≠ u := fun x hx hxu g hg => ⟨(h.rows x hx).lt hg, by rw [h.trow x hx g hg]; exact hxu⟩
  have hlev : ∀ p ∈ ls, p.1 < w.heap.size := fun p hp => by obtain ⟨zs, h1, _⟩ := h.nset.levs p hp; exact lt_of_block h1
  refine ⟨a, b, c, e, f, (hne _ (lt_of_block h.wrow) (by omega)).trans h.wrow, h.wlen, fun hf => (hne _ (lt_of_block (h.frow hf)) (by have := h.tfb hf; omega)).trans (h.frow hf), ?_, ?_, ?_, ?_, ?_, ?_, ?_, ?_, ?_, ?_⟩
  · intro x hx
    by_cases hxu : x = u
    · subst hxu
      show OwnV w' 3 (upd d.fv x v1 x) (ints (upd d.R x xs x))
      rw [upd_same, upd_same]; exact hown
    · show OwnV w' 3 (upd d.fv u v1 x) (ints (upd d.R u xs x))
      rw [upd_other _ _ _ _ hxu, upd_other _ _ _ _ hxu]
      exact (h.rows x hx).frame fun g hg => hne g (hr x hx hxu g hg).1 (hr x hx hxu g hg).2
  · exact h.ffrow.frame fun g hg => hne g (h.ffrow.lt hg) (by rw [h.tff g hg]; omega)
  · refine h.nset.frame fun g hg => ?_
    rcases hg with hg | hg
    · exact hne g (h.nset.own.lt hg) (by rw [h.trv g hg]; omega)
    · obtain ⟨p, hp, rfl⟩ := List.mem_map.1 hg
      exact hne _ (hlev p hp) (by rw [h.tls p hp]; omega)
  · show upd d.own g1 u sb = n + 1
    rw [htag sb h.lsb (by omega)]; exact hsb
  · show upd d.own g1 u wb = n + 2
    rw [htag wb (lt_of_block h.wrow) (by omega)]; exact hwb
  · intro hf
    have := h.tfb hf
    show upd d.own g1 u fb = n + 3
    rw [htag fb (lt_of_block (h.frow hf)) (by omega)]; exact this
  · intro g hg
    have := h.tff g hg
    show upd d.own g1 u g = n
    rw [htag g (h.ffrow.lt hg) (by omega)]; exact this
  · intro x hx g hg
    by_cases hxu : x = u
    · subst hxu
      have hg' : v1.ownBlock = some g := by have : upd d.fv x v1 x = v1 := upd_same _ _ _; rw [← this]; exact hg
      rw [hv1] at hg'
      cases hg'
      exact upd_same _ _ _
    · have hg' : (d.fv x).ownBlock = some g := by have : upd d.fv u v1 x = d.fv x := upd_other _ _ _ _ hxu; rw [← this]; exact hg
      show upd d.own g1 u g = x
      rw [htag g (hr x hx hxu g hg').1 (hr x hx hxu g hg').2]
      exact h.trow x hx g hg'
  · intro g hg
    have := h.trv g hg
    show upd d.own g1 u g = n + 4
    rw [htag g (h.nset.own.lt hg) (by omega)]; exact this
  · intro p hp
    have := h.tls p hp
    show upd d.own g1 u p.1 = n + 5
    rw [htag _ (hlev p hp) (by omega)]; exact this

/-- An append to forcedFrom. -/
theorem Inv.appendFF (h : Inv n sb wb fb rv ls d w) {g1 : Nat} {v1 : Value} {xs : List Int} (hv1 : v1.ownBlock = some g1) (hown : OwnV w' 3 v1 (ints xs))
    (hgrow : w.grownBy w' d.ffv.ownBlock) (hpl : d.ffv.ownBlock = some g1 ∨ w.heap.size ≤ g1) :
    Inv n sb wb fb rv ls { d with own := upd d.own g1 n, ffv := v1, ff := xs } w' := by
  have hne : ∀ g, g < w.heap.size → d.own g ≠ n → w'.heap[g]? = w.heap[g]? := fun g hg ht => hgrow.block g hg (fun e => ht (h.tff g e.symm))
  have htag : ∀ g, g < w.heap.size → d.own g ≠ n → upd d.own g1 n g = d.own g := fun g hg ht => upd_other _ _ _ _ (fun e => by
    rcases hpl with hp | hp
    · exact ht (e ▸ h.tff g1 hp)
    · omega)
  have hsb := h.tsb
  have hwb := h.twb
  obtain ⟨a, b, c, e, f⟩ := h.cells_keep (hne sb h.lsb (by omega))
  have hr : ∀ x, x < n → ∀ g, (d.fv x).ownBlock = some g → g < w.heap.size ∧ d.own g ≠ n := fun x hx g hg => ⟨(h.rows x hx).lt hg, by rw [h.trow x hx g hg]; omega⟩
  have hlev : ∀ p ∈ ls, p.1 < w.heap.size := fun p hp => by obtain ⟨zs, h1, _⟩ := h.nset.levs p hp; exact lt_of_block h1
  refine ⟨a, b, c, e, f, (hne _ (lt_of_block h.wrow) (by omega)).trans h.wrow, h.wlen, fun hf => (hne _ (lt_of_block (h.frow hf)) (by have := h.tfb hf; omega)).trans (h.frow hf), ?_, hown, ?_, ?_, ?_, ?_, ?_, ?_, ?_, ?_⟩
  · intro x hx
    exact (h.rows x hx).frame fun g hg => hne g (hr x hx g hg).1 (hr x hx g hg).2
  · refine h.nset.frame fun g hg => ?_
    rcases hg with hg | hg
    · exact hne g (h.nset.own.lt hg) (by rw [h.trv g hg]; omega)
    · obtain ⟨p, hp, rfl⟩ := List.mem_map.1 hg
      exact hne _ (hlev p hp) (by rw [h.tls p hp]; omega)
  · show upd d.own g1 n sb = n + 1
    rw [htag sb h.lsb (by omega)]; exact hsb
  · show upd d.own g1 n wb = n + 2
    rw [htag wb (lt_of_block h.wrow) (by omega)]; exact hwb
  · intro hf
    have := h.tfb hf
    show upd d.own g1 n fb = n + 3
    rw [htag fb (lt_of_block (h.frow hf)) (by omega)]; exact this
  · intro g hg
    have hg' : v1.ownBlock = some g := hg
    rw [hv1] at hg'
    cases hg'
    exact upd_same _ _ _
  · intro x hx g hg
    show upd d.own g1 n g = x
    rw [htag g (hr x hx g hg).1 (hr x hx g hg).2]
    exact h.trow x hx g hg
  · intro g hg
    have := h.trv g hg
    show upd d.own g1 n g = n + 4
    rw [htag g (h.nset.own.lt hg) (by omega)]; exact this
  · intro p hp
    have := h.tls p hp
    show upd d.own g1 n p.1 = n + 5
    rw [htag _ (hlev p hp) (by omega)]; exact this

/-- A store into a block of tag t leaves every block of another tag. -/
theorem Inv.set_other (h : Inv n sb wb fb rv ls d w) (a : Addr) (x : Value) : ∀ g, d.own g ≠ d.own a.block → (w.setCell a x).heap[g]? = w.heap[g]? := fun g hg =>
  Below.heap_setCell _ _ _ _ (fun e => hg (by rw [e]))

theorem Inv.setBlock (h : Inv n sb wb fb rv ls d w) (a : Addr) (x : Value) (t : Nat) (ht : d.own a.block = t) :
    (∀ u, u < n → u ≠ t → OwnV (w.setCell a x) 3 (d.fv u) (ints (d.R u))) ∧ (n ≠ t → OwnV (w.setCell a x) 3 d.ffv (ints d.ff)) ∧ (n + 4 ≠ t → n + 5 ≠ t → NSet (w.setCell a x) n rv ls) ∧
    (n + 2 ≠ t → (w.setCell a x).heap[wb]? = w.heap[wb]?) ∧ (n + 1 ≠ t → (w.setCell a x).heap[sb]? = w.heap[sb]?) ∧ (n + 3 ≠ t → d.fs = true → (w.setCell a x).heap[fb]? = w.heap[fb]?) := by
  subst ht
  refine ⟨?_, ?_, ?_, ?_, ?_, ?_⟩
  · intro u hu hn
    exact (h.rows u hu).frame fun g hg => h.set_other a x g (by rw [h.trow u hu g hg]; exact hn)
  · intro hn
    exact h.ffrow.frame fun g hg => h.set_other a x g (by rw [h.tff g hg]; exact hn)
  · intro hn hn'
    refine h.nset.frame fun g hg => ?_
    rcases hg with hg | hg
    · exact h.set_other a x g (by rw [h.trv g hg]; exact hn)
    · obtain ⟨p, hp, rfl⟩ := List.mem_map.1 hg
      exact h.set_other a x _ (by rw [h.tls p hp]; exact hn')
  · intro hn; exact h.set_other a x wb (by rw [h.twb]; exact hn)
  · intro hn; exact h.set_other a x sb (by rw [h.tsb]; exact hn)
  · intro hn hf; exact h.set_other a x fb (by rw [h.tfb hf]; exact hn)

/-- The store of a row's value into forced[u]. -/
theorem Inv.setForced (h : Inv n sb wb fb rv ls d w) (hf : d.fs = true) {u : Nat} (hu : u < n) (v : Value) :
    Inv n sb wb fb rv ls { d with fc := upd d.fc u v } (w.setCell ⟨fb, u, none⟩ v) := by
  obtain ⟨b1, b2, b3, b4, b5, b6⟩ := h.setBlock ⟨fb, u, none⟩ v (n + 3) (h.tfb hf)
  obtain ⟨a, b, c, e, f⟩ := h.cells_keep (b5 (by omega))
  refine ⟨a, b, c, e, f, (b4 (by omega)).trans h.wrow, h.wlen, fun _ => ?_, fun x hx => b1 x hx (by omega), b2 (by omega), b3 (by omega) (by omega), h.tsb, h.twb, h.tfb, h.tff, h.trow, h.trv, h.tls⟩
  rw [heap_setCell_same w fb u _ 22 v (h.frow hf)]
  congr 1
  simp only [Obj.cells.injEq, and_true]
  rw [← Array.toList_inj, Array.toList_setIfInBounds]
  dsimp only
  apply List.ext_getElem
  · simp
  · intro i h1 h2
    rw [List.getElem_set]
    simp only [List.getElem_map, List.getElem_range]
    show _ = upd d.fc u v i
    unfold upd
    by_cases hi : i = u
    · subst hi; simp
    · rw [if_neg (fun e => hi e.symm), if_neg hi]

/-- The store of forcedFrom's value into its field. -/
theorem Inv.setFF (h : Inv n sb wb fb rv ls d w) (v : Value) : Inv n sb wb fb rv ls { d with ffc := v } (w.setCell ⟨sb, 8, none⟩ v) := by
  obtain ⟨b1, b2, b3, b4, b5, b6⟩ := h.setBlock ⟨sb, 8, none⟩ v (n + 1) h.tsb
  have oth : ∀ k, k ≠ 8 → (w.setCell ⟨sb, 8, none⟩ v).cell? ⟨sb, k, none⟩ = w.cell? ⟨sb, k, none⟩ := fun k hk => World.cell?_setCell_other _ _ _ _ (fun e => hk (by have := congrArg Addr.off e; simpa using this.symm))
  exact ⟨fun k => (World.frozen?_setCell ..).trans (h.free k), (oth 6 (by decide)).trans h.cw, (oth 7 (by decide)).trans h.cf, World.cell?_setCell_same _ _ _ h.cff, (oth 13 (by decide)).trans h.cr,
    (b4 (by omega)).trans h.wrow, h.wlen, fun hf => (b6 (by omega) hf).trans (h.frow hf), fun x hx => b1 x hx (by omega), b2 (by omega), b3 (by omega) (by omega), h.tsb, h.twb, h.tfb, h.tff, h.trow, h.trv, h.tls⟩

/-- The making of forced: a new block of n nil rows, stored into its field. -/
theorem Inv.makeForced (h : Inv n sb wb fb rv ls d w) (hf : d.fs = false) (hnil : ∀ u, u < n → d.fv u = .slice none 0 0 ∧ d.fc u = .slice none 0 0) :
    Inv n sb wb w.heap.size rv ls { d with fs := true, own := upd d.own w.heap.size (n + 3) } ((w.alloc (.cells (List.replicate n (Value.slice none 0 0)).toArray 22)).setCell ⟨sb, 7, none⟩ (.slice (some ⟨w.heap.size, 0, none⟩) n n)) := by
  have h1 := h.alloc (.cells (List.replicate n (Value.slice none 0 0)).toArray 22)
  obtain ⟨b1, b2, b3, b4, b5, b6⟩ := h1.setBlock ⟨sb, 7, none⟩ (.slice (some ⟨w.heap.size, 0, none⟩) n n) (n + 1) h.tsb
  have oth : ∀ k, k ≠ 7 → ((w.alloc (.cells (List.replicate n (Value.slice none 0 0)).toArray 22)).setCell ⟨sb, 7, none⟩ (.slice (some ⟨w.heap.size, 0, none⟩) n n)).cell? ⟨sb, k, none⟩ = (w.alloc (.cells (List.replicate n (Value.slice none 0 0)).toArray 22)).cell? ⟨sb, k, none⟩ := fun k hk =>
    World.cell?_setCell_other _ _ _ _ (fun e => hk (by have := congrArg Addr.off e; simpa using this.symm))
  have tag : ∀ g, g < w.heap.size → upd d.own w.heap.size (n + 3) g = d.own g := fun g hg => upd_other _ _ _ _ (by omega)
  have hlsb := h.lsb
  refine ⟨fun k => (World.frozen?_setCell ..).trans (h1.free k), (oth 6 (by decide)).trans h1.cw, ?_, (oth 8 (by decide)).trans h1.cff, (oth 13 (by decide)).trans h1.cr,
    (b4 (by omega)).trans h1.wrow, h.wlen, fun _ => ?_, fun x hx => b1 x hx (by omega), b2 (by omega), b3 (by omega) (by omega), ?_, ?_, fun _ => upd_same _ _ _, ?_, ?_, ?_, ?_⟩
  · show _ = some (if (true : Bool) = true then _ else _)
    rw [if_pos rfl]
    exact World.cell?_setCell_same _ _ _ h1.cf
  · rw [Below.heap_setCell _ _ _ _ (show w.heap.size ≠ sb by omega), heap_alloc_new]
    congr 2
    rw [← Array.toList_inj]
    dsimp only
    apply List.ext_getElem
    · simp
    · intro i h1 h2
      simp only [List.getElem_replicate, List.getElem_map, List.getElem_range]
      exact (hnil i (by simpa using h1)).2.symm
  · exact (tag _ hlsb).trans h.tsb
  · exact (tag _ (lt_of_block h.wrow)).trans h.twb
  · intro g hg; exact (tag _ (h.ffrow.lt hg)).trans (h.tff g hg)
  · intro u hu g hg; exact (tag _ ((h.rows u hu).lt hg)).trans (h.trow u hu g hg)
  · intro g hg; exact (tag _ (h.nset.own.lt hg)).trans (h.trv g hg)
  · intro p hp
    obtain ⟨zs, hz, _⟩ := h.nset.levs p hp
    exact (tag _ (lt_of_block hz)).trans (h.tls p hp)

/-- A store into waiting. -/
theorem Inv.setWait (h : Inv n sb wb fb rv ls d w) (j : Nat) (x : Int) : Inv n sb wb fb rv ls { d with wt := d.wt.set j x } (w.setCell ⟨wb, j, none⟩ (.int .i64 x)) := by
  obtain ⟨b1, b2, b3, b4, b5, b6⟩ := h.setBlock ⟨wb, j, none⟩ (.int .i64 x) (n + 2) h.twb
  obtain ⟨a, b, c, e, f⟩ := h.cells_keep (b5 (by omega))
  refine ⟨a, b, c, e, f, ?_, by simpa using h.wlen, fun hf => (b6 (by omega) hf).trans (h.frow hf), fun x hx => b1 x hx (by omega), b2 (by omega), b3 (by omega) (by omega), h.tsb, h.twb, h.tfb, h.tff, h.trow, h.trv, h.tls⟩
  rw [heap_setCell_same w wb j _ 3 _ h.wrow]
  simp [ints, List.map_set]

/-- Behind Add. -/
theorem Inv.added (h : Inv n sb wb fb rv ls d w) (hn : NSet w' n rv ls) (ho : Only (fun b => b ∈ ls.map Prod.fst) w w') : Inv n sb wb fb rv ls d w' := by
  have hb : ∀ g, g < w.heap.size → d.own g ≠ n + 5 → w'.heap[g]? = w.heap[g]? := fun g hg ht => ho.block g hg (fun hm => by
    obtain ⟨p, hp, rfl⟩ := List.mem_map.1 hm
    exact ht (h.tls p hp))
  have hsb := h.tsb
  have hwb := h.twb
  obtain ⟨a, b, c, e, f⟩ := h.cells_keep (hb sb h.lsb (by omega))
  exact ⟨a, b, c, e, f, (hb _ (lt_of_block h.wrow) (by omega)).trans h.wrow, h.wlen, fun hf => (hb _ (lt_of_block (h.frow hf)) (by have := h.tfb hf; omega)).trans (h.frow hf),
    fun u hu => (h.rows u hu).frame fun g hg => hb g ((h.rows u hu).lt hg) (by rw [h.trow u hu g hg]; omega), h.ffrow.frame fun g hg => hb g (h.ffrow.lt hg) (by rw [h.tff g hg]; omega), hn, h.tsb, h.twb, h.tfb, h.tff, h.trow, h.trv, h.tls⟩

/-- The rows' values taken anew (a pop): the same blocks, or none. -/
theorem Inv.popRow (h : Inv n sb wb fb rv ls d w) {u : Nat} (hu : u < n) {v1 : Value} {xs : List Int} (hv1 : v1.ownBlock = (d.fv u).ownBlock) (hown : OwnV w 3 v1 (ints xs)) :
    Inv n sb wb fb rv ls { d with fv := upd d.fv u v1, R := upd d.R u xs } w := by
  refine ⟨h.free, h.cw, h.cf, h.cff, h.cr, h.wrow, h.wlen, h.frow, ?_, h.ffrow, h.nset, h.tsb, h.twb, h.tfb, h.tff, ?_, h.trv, h.tls⟩
  · intro x hx
    by_cases hxu : x = u
    · subst hxu
      show OwnV w 3 (upd d.fv x v1 x) (ints (upd d.R x xs x))
      rw [upd_same, upd_same]; exact hown
    · show OwnV w 3 (upd d.fv u v1 x) (ints (upd d.R u xs x))
      rw [upd_other _ _ _ _ hxu, upd_other _ _ _ _ hxu]
      exact h.rows x hx
  · intro x hx g hg
    by_cases hxu : x = u
    · subst hxu
      have hg' : v1.ownBlock = some g := by have : upd d.fv x v1 x = v1 := upd_same _ _ _; rw [← this]; exact hg
      exact h.trow x hx g (by rw [← hv1]; exact hg')
    · have hg' : (d.fv x).ownBlock = some g := by have : upd d.fv u v1 x = d.fv x := upd_other _ _ _ _ hxu; rw [← this]; exact hg
      exact h.trow x hx g hg'

theorem Inv.popFF (h : Inv n sb wb fb rv ls d w) {v1 : Value} {xs : List Int} (hv1 : v1.ownBlock = d.ffv.ownBlock) (hown : OwnV w 3 v1 (ints xs)) : Inv n sb wb fb rv ls { d with ffv := v1, ff := xs } w :=
  ⟨h.free, h.cw, h.cf, h.cff, h.cr, h.wrow, h.wlen, h.frow, h.rows, hown, h.nset, h.tsb, h.twb, h.tfb, fun g hg => h.tff g (by rw [← hv1]; exact hg), h.trow, h.trv, h.tls⟩

/-- What the walk reads. -/
theorem Inv.wcell (h : Inv n sb wb fb rv ls d w) {j : Nat} (hj : j < n) : w.cell? ⟨wb, j, none⟩ = some (.int .i64 (d.wt.getD j 0)) ∧ w.frozen? ⟨wb, j, none⟩ = false := by
  refine ⟨?_, frozen_of_row w wb j _ _ h.wrow⟩
  rw [cell_of_row w wb j _ _ _ h.wrow]
  have := h.wlen
  have hj' : j < d.wt.length := by omega
  simp [ints, hj']
theorem Inv.fcell (h : Inv n sb wb fb rv ls d w) (hf : d.fs = true) {j : Nat} (hj : j < n) : w.cell? ⟨fb, j, none⟩ = some (d.fc j) ∧ w.frozen? ⟨fb, j, none⟩ = false := by
  refine ⟨?_, frozen_of_row w fb j _ _ (h.frow hf)⟩
  rw [cell_of_row w fb j _ _ _ (h.frow hf)]
  simp [hj]
end
end Go.Proofs.Ybulkecis

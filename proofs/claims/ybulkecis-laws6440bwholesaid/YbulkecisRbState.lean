/-
  rebuild's memory: what it reads, what it writes.
-/
import Derived.Test.YbulkecisSmall
import Derived.Test.YbulkecisOrderWalk
namespace Go.Proofs.Ybulkecis
open Go.RowKit _root_.Go.Proofs.Ybulkecis.Own
set_option linter.unusedVariables false

theorem Own.Only.next {S T : Nat → Prop} {a b c : World} (h : Only S a b) (k : Only T b c) (ht : ∀ i, i < a.heap.size → T i → S i) : Only S a c :=
  ⟨k.os.trans h.os, k.tape.trans h.tape, k.output.trans h.output, Nat.le_trans h.size k.size, fun i hi hn => (k.block i (Nat.lt_of_lt_of_le hi h.size) fun t => hn (ht i hi t)).trans (h.block i hi hn)⟩

/-- The old blocks that rebuild writes. -/
def Wk (b bb : Nat) (slv qdv quv : Value) (k : Nat) : Prop := k = b ∨ k = bb ∨ slv.ownBlock = some k ∨ qdv.ownBlock = some k ∨ quv.ownBlock = some k
/-- They are apart. -/
structure Sp (b bb : Nat) (slv qdv quv : Value) : Prop where
  n1 : b ≠ bb
  s1 : slv.ownBlock ≠ some b
  s2 : slv.ownBlock ≠ some bb
  d1 : qdv.ownBlock ≠ some b
  d2 : qdv.ownBlock ≠ some bb
  u1 : quv.ownBlock ≠ some b
  u2 : quv.ownBlock ≠ some bb
  sd : ∀ g, slv.ownBlock = some g → qdv.ownBlock ≠ some g
  su : ∀ g, slv.ownBlock = some g → quv.ownBlock ≠ some g
  du : ∀ g, qdv.ownBlock = some g → quv.ownBlock ≠ some g

/-- What rebuild only reads. -/
structure St (w : World) (b bb : Nat) (slv qdv quv : Value) (B0 B1 n : Nat) (O : Nat → List Nat) (th : List Nat) (pv sv lv tv : Value) : Prop where
  bx : w.cell? ⟨B0, 0, none⟩ = some (.pointer (some ⟨b, 0, none⟩))
  ox : w.cell? ⟨B1, 0, none⟩ = some (.slice none 0 0)
  l0 : B0 < w.heap.size
  l1 : B1 < w.heap.size
  po : OwnV w 3 pv (il n fun i => (i : Int))
  st : OwnV w 3 sv (il (n + 1) fun v => (tot (fun v => (O v).length) v : Nat))
  li : OwnV w 3 lv (ol (flat O n))
  th : OwnV w 3 tv (ol th)
  n0 : ¬ Wk b bb slv qdv quv B0
  n1 : ¬ Wk b bb slv qdv quv B1
  np : ∀ g, pv.ownBlock = some g → ¬ Wk b bb slv qdv quv g
  ns : ∀ g, sv.ownBlock = some g → ¬ Wk b bb slv qdv quv g
  nl : ∀ g, lv.ownBlock = some g → ¬ Wk b bb slv qdv quv g
  nt : ∀ g, tv.ownBlock = some g → ¬ Wk b bb slv qdv quv g
theorem St.later {w w' : World} {b bb : Nat} {slv qdv quv : Value} {B0 B1 n : Nat} {O : Nat → List Nat} {th : List Nat} {pv sv lv tv : Value} (h : St w b bb slv qdv quv B0 B1 n O th pv sv lv tv) (o : Only (Wk b bb slv qdv quv) w w') : St w' b bb slv qdv quv B0 B1 n O th pv sv lv tv :=
  ⟨(cell_of_block (o.block _ h.l0 h.n0)).trans h.bx, (cell_of_block (o.block _ h.l1 h.n1)).trans h.ox, Nat.lt_of_lt_of_le h.l0 o.size, Nat.lt_of_lt_of_le h.l1 o.size,
   h.po.frame fun g hg => o.block g (h.po.lt hg) (h.np g hg), h.st.frame fun g hg => o.block g (h.st.lt hg) (h.ns g hg), h.li.frame fun g hg => o.block g (h.li.lt hg) (h.nl g hg), h.th.frame fun g hg => o.block g (h.th.lt hg) (h.nt g hg),
   h.n0, h.n1, h.np, h.ns, h.nl, h.nt⟩

/-- The state on the way. -/
structure Rs (w wr : World) (b bb n q : Nat) (slv qdv quv0 : Value) (f : Nat → Value) (S : Nat → Int) (kb : Int) (B : Nat → Bool) (quv : Value) (ql : List Value) : Prop where
  onl : Only (Wk b bb slv qdv quv0) w wr
  pg : Pg wr b f
  bc : wr.cell? ⟨bb, 0, none⟩ = some (.int .i64 kb)
  bf : wr.frozen? ⟨bb, 0, none⟩ = false
  lb : b < w.heap.size
  lbb : bb < w.heap.size
  sl : OwnV wr 3 slv (il n S)
  qd : OwnV wr 4 qdv (bl q B)
  qu : OwnV wr 3 quv ql
  ls : ∀ g, slv.ownBlock = some g → g < w.heap.size
  ld : ∀ g, qdv.ownBlock = some g → g < w.heap.size
  qb : ∀ g, quv.ownBlock = some g → quv0.ownBlock = some g ∨ w.heap.size ≤ g
section
variable {w wr w' : World} {b bb n q : Nat} {slv qdv quv0 : Value} {f : Nat → Value} {S : Nat → Int} {kb : Int} {B : Nat → Bool} {quv : Value} {ql : List Value}
/-- Other blocks turn. -/
theorem Rs.move (h : Rs w wr b bb n q slv qdv quv0 f S kb B quv ql) {T : Nat → Prop} (o : Only T wr w') (hT : ∀ k, T k → w.heap.size ≤ k ∧ quv.ownBlock ≠ some k) : Rs w w' b bb n q slv qdv quv0 f S kb B quv ql := by
  have hs := h.onl.size
  have old : ∀ k, k < w.heap.size → w'.heap[k]? = wr.heap[k]? := fun k hk => o.block k (by omega) fun t => by have := (hT k t).1; omega
  have hb := old b h.lb
  have hbb := old bb h.lbb
  exact ⟨h.onl.next o fun k hk t => by have := (hT k t).1; omega, h.pg.frame o.size hb, (cell_of_block hbb).trans h.bc, (World.frozen?_of_block hbb).trans h.bf, h.lb, h.lbb, h.sl.frame fun g hg => old g (h.ls g hg), h.qd.frame fun g hg => old g (h.ld g hg), h.qu.frame fun g hg => o.block g (h.qu.lt hg) fun t => (hT g t).2 hg, h.ls, h.ld, h.qb⟩
theorem Rs.below (h : Rs w wr b bb n q slv qdv quv0 f S kb B quv ql) (o : Below wr.heap.size wr w') : Rs w w' b bb n q slv qdv quv0 f S kb B quv ql :=
  h.move ((Only.of_below o).mono (T := fun _ => False) fun k h1 h2 => by omega) fun k t => t.elim
theorem Rs.drew (h : Rs w wr b bb n q slv qdv quv0 f S kb B quv ql) : Rs w wr.drew b bb n q slv qdv quv0 f S kb B quv ql := h.below (Below.refl _ _).drew
theorem Rs.alloc (h : Rs w wr b bb n q slv qdv quv0 f S kb B quv ql) (o : Obj) : Rs w (wr.alloc o) b bb n q slv qdv quv0 f S kb B quv ql := h.below ((Below.refl _ _).alloc (Nat.le_refl _) _)
theorem Rs.grown (h : Rs w wr b bb n q slv qdv quv0 f S kb B quv ql) {row : Option Nat} (o : wr.grownBy w' row) (hr : ∀ k, row = some k → w.heap.size ≤ k ∧ quv.ownBlock ≠ some k) : Rs w w' b bb n q slv qdv quv0 f S kb B quv ql :=
  h.move (T := fun k => row = some k) (Only.of_grown o fun k hk => hk) hr
/-- The propagator's own block turns. -/
theorem Rs.onB (h : Rs w wr b bb n q slv qdv quv0 f S kb B quv ql) (hs : Sp b bb slv qdv quv0) {f' : Nat → Value} (o : Only (fun k => k = b) wr w') (hp : Pg w' b f') : Rs w w' b bb n q slv qdv quv0 f' S kb B quv ql := by
  have hsz := h.onl.size
  have hlb := h.lb
  have hlbb := h.lbb
  have hbb : w'.heap[bb]? = wr.heap[bb]? := o.block bb (by omega) (Ne.symm hs.n1)
  exact ⟨h.onl.next o fun k _ t => .inl t, hp, (cell_of_block hbb).trans h.bc, (World.frozen?_of_block hbb).trans h.bf, h.lb, h.lbb,
    h.sl.frame fun g hg => o.block g (h.sl.lt hg) (fun e => hs.s1 (by rw [hg, e])), h.qd.frame fun g hg => o.block g (h.qd.lt hg) (fun e => hs.d1 (by rw [hg, e])), h.qu.frame fun g hg => o.block g (h.qu.lt hg) (fun e => by
      rcases h.qb g hg with s | s
      · exact hs.u1 (by rw [s, e])
      · omega), h.ls, h.ld, h.qb⟩
theorem Rs.setPg (h : Rs w wr b bb n q slv qdv quv0 f S kb B quv ql) (hs : Sp b bb slv qdv quv0) (i : Nat) (v : Value) (hi : i < 111) : Rs w (wr.setCell ⟨b, i, none⟩ v) b bb n q slv qdv quv0 (upd f i v) S kb B quv ql :=
  h.onB hs ((Only.refl _ wr).setCell ⟨b, i, none⟩ v fun _ => rfl) (h.pg.set i v hi)
/-- The budget turns. -/
theorem Rs.setBb (h : Rs w wr b bb n q slv qdv quv0 f S kb B quv ql) (hs : Sp b bb slv qdv quv0) (x : Int) : Rs w (wr.setCell ⟨bb, 0, none⟩ (.int .i64 x)) b bb n q slv qdv quv0 f S x B quv ql := by
  have hsz := h.onl.size
  have hlb := h.lb
  have hlbb := h.lbb
  have o := (Only.refl (fun k => k = bb) wr).setCell ⟨bb, 0, none⟩ (.int .i64 x) fun _ => rfl
  exact ⟨h.onl.next o fun k _ t => .inr (.inl t), h.pg.frame o.size (o.block b (by omega) hs.n1), World.cell?_setCell_same _ _ _ h.bc, by simp [h.bf], h.lb, h.lbb,
    h.sl.frame fun g hg => o.block g (h.sl.lt hg) (fun e => hs.s2 (by rw [hg, e])), h.qd.frame fun g hg => o.block g (h.qd.lt hg) (fun e => hs.d2 (by rw [hg, e])), h.qu.frame fun g hg => o.block g (h.qu.lt hg) (fun e => by
      rcases h.qb g hg with s | s
      · exact hs.u2 (by rw [s, e])
      · omega), h.ls, h.ld, h.qb⟩
/-- A slot turns. -/
theorem Rs.setSl (h : Rs w wr b bb n q slv qdv quv0 f S kb B quv ql) (hs : Sp b bb slv qdv quv0) {g c : Nat} (hv : slv = .slice (some ⟨g, 0, none⟩) n c) (j : Nat) (x : Int) : Rs w (wr.setCell ⟨g, j, none⟩ (.int .i64 x)) b bb n q slv qdv quv0 f (fun k => if k = j then x else S k) kb B quv ql := by
  have hsz := h.onl.size
  have hlb := h.lb
  have hlbb := h.lbb
  have hg0 : slv.ownBlock = some g := by rw [hv]; rfl
  have hlg := h.ls g hg0
  have o := (Only.refl (fun k => k = g) wr).setCell ⟨g, j, none⟩ (.int .i64 x) fun _ => rfl
  have hbb : _ = wr.heap[bb]? := o.block bb (by omega) (fun e => hs.s2 (by rw [hg0, e]))
  have h1 := h.sl
  rw [hv] at h1
  have h2 := h1.set (by rw [il_len]) j (.int .i64 x)
  rw [il_set, ← hv] at h2
  exact ⟨h.onl.next o fun k _ t => .inr (.inr (.inl (by rw [hg0, t]))), h.pg.frame o.size (o.block b (by omega) (fun e => hs.s1 (by rw [hg0, e]))), (cell_of_block hbb).trans h.bc, (World.frozen?_of_block hbb).trans h.bf, h.lb, h.lbb,
    h2, h.qd.frame fun k hk => o.block k (h.qd.lt hk) (fun e => hs.sd g hg0 (by rw [hk, e])), h.qu.frame fun k hk => o.block k (h.qu.lt hk) (fun e => by
      rcases h.qb k hk with s | s
      · exact hs.su g hg0 (by rw [s, e])
      · omega), h.ls, h.ld, h.qb⟩
/-- A mark turns. -/
theorem Rs.setQd (h : Rs w wr b bb n q slv qdv quv0 f S kb B quv ql) (hs : Sp b bb slv qdv quv0) {g c : Nat} (hv : qdv = .slice (some ⟨g, 0, none⟩) q c) (j : Nat) (x : Bool) : Rs w (wr.setCell ⟨g, j, none⟩ (.bool x)) b bb n q slv qdv quv0 f S kb (fun k => if k = j then x else B k) quv ql := by
  have hsz := h.onl.size
  have hlb := h.lb
  have hlbb := h.lbb
  have hg0 : qdv.ownBlock = some g := by rw [hv]; rfl
  have hlg := h.ld g hg0
  have o := (Only.refl (fun k => k = g) wr).setCell ⟨g, j, none⟩ (.bool x) fun _ => rfl
  have hbb : _ = wr.heap[bb]? := o.block bb (by omega) (fun e => hs.d2 (by rw [hg0, e]))
  have h1 := h.qd
  rw [hv] at h1
  have h2 := h1.set (by rw [bl_len]) j (.bool x)
  rw [bl_set, ← hv] at h2
  exact ⟨h.onl.next o fun k _ t => .inr (.inr (.inr (.inl (by rw [hg0, t])))), h.pg.frame o.size (o.block b (by omega) (fun e => hs.d1 (by rw [hg0, e]))), (cell_of_block hbb).trans h.bc, (World.frozen?_of_block hbb).trans h.bf, h.lb, h.lbb,
    h.sl.frame fun k hk => o.block k (h.sl.lt hk) (fun e => hs.sd k hk (by rw [hg0, e])), h2, h.qu.frame fun k hk => o.block k (h.qu.lt hk) (fun e => by
      rcases h.qb k hk with s | s
      · exact hs.du g hg0 (by rw [s, e])
      · omega), h.ls, h.ld, h.qb⟩
/-- The queue grows. -/
theorem Rs.push (h : Rs w wr b bb n q slv qdv quv0 f S kb B quv ql) (hs : Sp b bb slv qdv quv0) {v' : Value} {x : List Value} (o : wr.grownBy w' quv.ownBlock) (hown : OwnV w' 3 v' (ql ++ x)) (hp : ∀ g, v'.ownBlock = some g → quv.ownBlock = some g ∨ wr.heap.size ≤ g) : Rs w w' b bb n q slv qdv quv0 f S kb B v' (ql ++ x) := by
  have hsz := h.onl.size
  have hlb := h.lb
  have hlbb := h.lbb
  have hb : w'.heap[b]? = wr.heap[b]? := o.block b (by omega) (fun e => by
    rcases h.qb b e.symm with s | s
    · exact hs.u1 s
    · omega)
  have hbb : w'.heap[bb]? = wr.heap[bb]? := o.block bb (by omega) (fun e => by
    rcases h.qb bb e.symm with s | s
    · exact hs.u2 s
    · omega)
  have hO : Only (fun k => quv.ownBlock = some k) wr w' := Only.of_grown o fun k hk => hk
  exact ⟨h.onl.next hO fun k hk t => by
      rcases h.qb k t with s | s
      · exact .inr (.inr (.inr (.inr s)))
      · omega, h.pg.frame o.size hb, (cell_of_block hbb).trans h.bc, (World.frozen?_of_block hbb).trans h.bf, h.lb, h.lbb,
    h.sl.frame fun k hk => o.block k (h.sl.lt hk) (fun e => by
      have := h.ls k hk
      rcases h.qb k e.symm with s | s
      · exact hs.su k hk s
      · omega), h.qd.frame fun k hk => o.block k (h.qd.lt hk) (fun e => by
      have := h.ld k hk
      rcases h.qb k e.symm with s | s
      · exact hs.du k hk s
      · omega), hown, h.ls, h.ld, fun g hg => by
      rcases hp g hg with s | s
      · exact h.qb g s
      · exact .inr (by omega)⟩
theorem Rs.ext (h : Rs w wr b bb n q slv qdv quv0 f S kb B quv ql) {S' : Nat → Int} {B' : Nat → Bool} {ql' : List Value} (e1 : ∀ i, i < n → S i = S' i) (e2 : ∀ i, i < q → B i = B' i) (e3 : ql = ql') : Rs w wr b bb n q slv qdv quv0 f S' kb B' quv ql' :=
  ⟨h.onl, h.pg, h.bc, h.bf, h.lb, h.lbb, (il_ext e1) ▸ h.sl, (bl_ext e2) ▸ h.qd, e3 ▸ h.qu, h.ls, h.ld, h.qb⟩
end

/-- pg.out: what it hands back. -/
structure Ou (w : World) (lv : Value) (ao : Option Addr) (l : List Nat) : Prop where
  at' : 0 < l.length → ∃ g o, ao = some ⟨g, o, none⟩ ∧ lv.ownBlock = some g ∧ ∀ j (h : j < l.length), w.cell? ⟨g, o + j, none⟩ = some (.int .i64 (l[j] : Nat))

theorem Ou.move {w0 w w' : World} {b bb : Nat} {slv qdv quv : Value} {B0 B1 n : Nat} {O : Nat → List Nat} {th : List Nat} {pv sv lv tv : Value} {ao : Option Addr} {l : List Nat} (h : Ou w lv ao l) (hs : St w0 b bb slv qdv quv B0 B1 n O th pv sv lv tv) (o : Only (Wk b bb slv qdv quv) w0 w) (o' : Only (Wk b bb slv qdv quv) w0 w') : Ou w' lv ao l := ⟨fun h0 => by
  obtain ⟨g, q, h1, h2, h3⟩ := h.at' h0
  have hl := hs.li.lt h2
  have hn := hs.nl g h2
  exact ⟨g, q, h1, h2, fun j hj => (cell_of_block ((o'.block g hl hn).trans (o.block g hl hn).symm)).trans (h3 j hj)⟩⟩
theorem ol_get {l : List Nat} {j : Nat} (h : j < l.length) : (ol l)[j]? = some (.int .i64 (l[j] : Nat)) := by simp [ol, h]
theorem ol_snoc (l : List Nat) (x : Nat) : ol (l ++ [x]) = ol l ++ [.int .i64 (x : Int)] := by simp [ol]

set_option maxRecDepth 100000
set_option maxHeartbeats 1000000 in
theorem out_nil (w : World) (b : Nat) (f : Nat → Value) (v n gp go cp co : Nat) (H : Pg w b f) (h5 : f 5 = .slice (some ⟨gp, 0, none⟩) n cp) (h6 : f 6 = .slice (some ⟨go, 0, none⟩) (n + 1) co) (h7 : f 7 = .slice none 0 0)
    (hv : v < n) (hp : w.cell? ⟨gp, v, none⟩ = some (.int .i64 v)) (ho : w.cell? ⟨go, v, none⟩ = some (.int .i64 0)) (ho1 : w.cell? ⟨go, v + 1, none⟩ = some (.int .i64 0)) (hn : n ≤ 1000) :
    Calls Yba.prog 17 #[.pointer (some ⟨b, 0, none⟩), .int .i64 v] w fun e w' => e = .returned (.slice none 0 0) ∧ w' = w.drew := by
  have c5 := H.at 5 h5 (by decide)
  have c6 := H.at 6 h6 (by decide)
  have c7 := H.at 7 h7 (by decide)
  clear h5 h6 h7 H
  have i0 : (v : Int) < (n : Int) := by omega
  have i1 : (v : Int) < (n : Int) + 1 := by omega
  have i2 : (v : Int) + 1 < (n : Int) + 1 := by omega
  have e1 : ((v : Int) + 1).toNat = v + 1 := by omega
  go_enter Yba.func17, Yba.ntmps17
  go_wp2_with fail
  go_big_region
  all_goals go_wp2_with fail
  all_goals go_ret
  all_goals exact ⟨rfl, rfl⟩

theorem out_any {w : World} {b bb : Nat} {slv qdv quv : Value} {B0 B1 n : Nat} {O : Nat → List Nat} {th : List Nat} {pv sv lv tv : Value} (hs : St w b bb slv qdv quv B0 B1 n O th pv sv lv tv) {f : Nat → Value} (H : Pg w b f) (h5 : f 5 = pv) (h6 : f 6 = sv) (h7 : f 7 = lv)
    (v : Nat) (hv : v < n) (hn : n ≤ 1000) (ht : tot (fun v => (O v).length) n ≤ 100000) :
    Calls Yba.prog 17 #[.pointer (some ⟨b, 0, none⟩), .int .i64 v] w fun e w' => ∃ ao c, e = .returned (.slice ao (O v).length c) ∧ Ou w lv ao (O v) ∧ w' = w.drew := by
  obtain ⟨gp, cp, rfl⟩ : ∃ gp cp, pv = .slice (some ⟨gp, 0, none⟩) n cp := by
    rcases hs.po.form with ⟨_, h⟩ | ⟨g, c, h, _⟩
    · have := congrArg List.length h; rw [il_len] at this; simp at this; omega
    · rw [il_len] at h; exact ⟨g, c, h⟩
  obtain ⟨go, co, rfl⟩ : ∃ go co, sv = .slice (some ⟨go, 0, none⟩) (n + 1) co := by
    rcases hs.st.form with ⟨_, h⟩ | ⟨g, c, h, _⟩
    · have := congrArg List.length h; rw [il_len] at this; simp at this
    · rw [il_len] at h; exact ⟨g, c, h⟩
  have hp : w.cell? ⟨gp, v, none⟩ = some (.int .i64 v) := by
    rw [hs.po.cell (by rw [il_len]) (by rw [il_len]; omega)]; exact il_get hv
  have ho : w.cell? ⟨go, v, none⟩ = some (.int .i64 (tot (fun v => (O v).length) v : Nat)) := by
    rw [hs.st.cell (by rw [il_len]) (by rw [il_len]; omega)]; exact il_get (by omega)
  have ho1 : w.cell? ⟨go, v + 1, none⟩ = some (.int .i64 (tot (fun v => (O v).length) (v + 1) : Nat)) := by
    rw [hs.st.cell (by rw [il_len]) (by rw [il_len]; omega)]; exact il_get (by omega)
  have hst : tot (fun v => (O v).length) (v + 1) = tot (fun v => (O v).length) v + (O v).length := rfl
  have hle := tot_mono (fun v => (O v).length) (m := v + 1) (n := n) (by omega)
  rcases hs.li.form with ⟨h8, h9⟩ | ⟨gl, cl, h8, h12, h10, _, _⟩
  · have h0 : tot (fun v => (O v).length) n = 0 := by
      have := congrArg List.length h9
      rw [ol_len, flat_len] at this
      simpa using this
    have e0 : tot (fun v => (O v).length) v = 0 := by omega
    have e1 : tot (fun v => (O v).length) (v + 1) = 0 := by omega
    have e2 : (O v).length = 0 := by omega
    rw [e0] at ho
    rw [e1] at ho1
    refine Calls.mono (out_nil w b f v n gp go cp co H h5 h6 (h7.trans h8) hv hp ho ho1 hn) ?_
    rintro e w' ⟨rfl, rfl⟩
    exact ⟨none, 0, by rw [e2], ⟨fun h => by omega⟩, rfl⟩
  · rw [ol_len, flat_len] at h8 h10
    refine Calls.mono (out_walk w b f v n gp go gl cp co cl 0 _ H h5 h6 (h7.trans h8) hv hp _ _ ho ho1 (by omega) hle h10 ht hn) ?_
    rintro e w' ⟨o, rfl, hx, rfl⟩
    refine ⟨some ⟨gl, o, none⟩, _, by rw [hst, Nat.add_sub_cancel_left], ⟨fun h => ⟨gl, o, rfl, h12, fun j hj => ?_⟩⟩, rfl⟩
    obtain rfl := hx (by omega)
    have hli := hs.li
    rw [h8] at hli
    have hlt : tot (fun v => (O v).length) v + j < (flat O n).length := by rw [flat_len]; omega
    rw [hli.cell (by rw [ol_len, flat_len]) (by rw [ol_len]; exact hlt), ol_get hlt]
    have hg := flat_get O hj n hv
    rw [List.getElem?_eq_getElem hlt, List.getElem?_eq_getElem hj] at hg
    rw [Option.some.inj hg]
end Go.Proofs.Ybulkecis

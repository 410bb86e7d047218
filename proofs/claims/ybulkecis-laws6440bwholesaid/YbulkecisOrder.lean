/-
  LowestFirstOrder.
-/
import Derived.Test.YbulkecisGraph
namespace Go.Proofs.Ybulkecis
open Go.RowKit _root_.Go.Proofs.Ybulkecis.Own
set_option linter.unusedVariables false
set_option maxRecDepth 100000

theorem Cov.congr {a : Nat → Int} {m : Nat} {P Q : Int → Prop} (h : Cov a m P) (hPQ : ∀ c, P c ↔ Q c) : Cov a m Q :=
  ⟨fun k hk => (hPQ _).1 (h.all k hk), fun c hc => h.get c ((hPQ c).2 hc), h.inj⟩
/-- A set of nodes, as numbers of the program. -/
def RP (Q : Nat → Prop) (c : Int) : Prop := ∃ n : Nat, c = (n : Int) ∧ Q n
theorem RP_iff {P Q : Nat → Prop} (h : ∀ n, P n ↔ Q n) (c : Int) : RP P c ↔ RP Q c := by
  unfold RP
  exact ⟨fun ⟨n, e, hn⟩ => ⟨n, e, (h n).1 hn⟩, fun ⟨n, e, hn⟩ => ⟨n, e, (h n).2 hn⟩⟩
theorem RP_or {P : Nat → Prop} {x : Nat} (c : Int) : (RP P c ∨ c = (x : Int)) ↔ RP (fun n => P n ∨ n = x) c := by
  unfold RP
  constructor
  · rintro (⟨n, e, hn⟩ | e)
    · exact ⟨n, e, .inl hn⟩
    · exact ⟨x, e, .inr rfl⟩
  · rintro ⟨n, e, hn | hn⟩
    · exact .inl ⟨n, e, hn⟩
    · exact .inr (by rw [e, hn])
theorem RP_nat {P : Nat → Prop} {x : Nat} : RP P (x : Int) ↔ P x := by
  unfold RP
  constructor
  · rintro ⟨n, e, hn⟩
    have : n = x := by omega
    rw [← this]; exact hn
  · exact fun h => ⟨x, rfl, h⟩

/-- The two lists of the walk: the counts at gi, the heap at hb. -/
structure Ls (w wr : World) (gi hb t : Nat) (D : Nat → Int) (v : Value) (m : Nat) (a : Nat → Int) : Prop where
  bel : Below w.heap.size w wr
  ind : OwnV wr 3 (.slice (some ⟨gi, 0, none⟩) t t) (il t D)
  own : OwnV wr 3 v (il m a)
  c : wr.cell? ⟨hb, 0, none⟩ = some v
  f : wr.frozen? ⟨hb, 0, none⟩ = false
  lt : hb < wr.heap.size
  ne : v.ownBlock ≠ some hb
  ng : v.ownBlock ≠ some gi
  nb : hb ≠ gi
  fi : w.heap.size ≤ gi
  fh : w.heap.size ≤ hb
  fv : ∀ g, v.ownBlock = some g → w.heap.size ≤ g

section
variable {w wr : World} {gi hb t : Nat} {D : Nat → Int} {v : Value} {m : Nat} {a : Nat → Int}
theorem Ls.drew (h : Ls w wr gi hb t D v m a) : Ls w wr.drew gi hb t D v m a := ⟨h.bel.drew, h.ind.frame fun _ _ => rfl, h.own.frame fun _ _ => rfl, h.c, h.f, h.lt, h.ne, h.ng, h.nb, h.fi, h.fh, h.fv⟩
/-- The heap's variable has turned. -/
theorem Ls.turn (h : Ls w wr gi hb t D v m a) {w' : World} {v' : Value} {m' : Nat} {b : Nat → Int} (q : Hq wr w' hb v v' m' b) : Ls w w' gi hb t D v' m' b := by
  have hgi : gi < wr.heap.size := h.ind.lt rfl
  refine ⟨?_, h.ind.frame fun g hg => ?_, q.own, q.c, q.f, q.lt, q.ne, fun e => ?_, h.nb, h.fi, h.fh, fun g hg => ?_⟩
  · refine h.bel.trans ⟨q.onl.os, q.onl.tape, q.onl.output, q.onl.size, fun k hk => q.onl.block k (Nat.lt_of_lt_of_le hk h.bel.size) fun s => ?_⟩
    rcases s with s | s
    · have := h.fh; omega
    · have := h.fv k s; omega
  · obtain rfl : gi = g := by simpa [Value.ownBlock] using hg
    refine q.onl.block gi hgi fun s => ?_
    rcases s with s | s
    · exact h.nb s.symm
    · exact h.ng s
  · rcases q.blk gi e with s | s
    · exact h.ng s
    · omega
  · rcases q.blk g hg with s | s
    · exact h.fv g s
    · exact Nat.le_trans h.bel.size s
/-- A count has turned. -/
theorem Ls.count (h : Ls w wr gi hb t D v m a) (j : Nat) (x : Int) : Ls w (wr.setCell ⟨gi, j, none⟩ (.int .i64 x)) gi hb t (fun k => if k = j then x else D k) v m a := by
  have h1 := h.ind.set (by rw [il_len]) j (.int .i64 x)
  rw [il_set] at h1
  have hbk : (wr.setCell ⟨gi, j, none⟩ (.int .i64 x)).heap[hb]? = wr.heap[hb]? := Below.heap_setCell _ _ _ _ h.nb
  refine ⟨h.bel.setCell h.fi _, h1, h.own.frame fun g hg => Below.heap_setCell _ _ _ _ (fun e => h.ng (by rw [hg, e])), (cell_of_block hbk).trans h.c, (World.frozen?_of_block hbk).trans h.f, ?_, h.ne, h.ng, h.nb, h.fi, h.fh, h.fv⟩
  have := h.lt
  simpa [World.setCell] using this
/-- A block beside the lists turns, or is new. -/
theorem Ls.grown (h : Ls w wr gi hb t D v m a) {w' : World} {row : Option Nat} (hg : wr.grownBy w' row) (hr : ∀ k, row = some k → w.heap.size ≤ k ∧ k ≠ gi ∧ k ≠ hb ∧ v.ownBlock ≠ some k) : Ls w w' gi hb t D v m a := by
  have hgi : gi < wr.heap.size := h.ind.lt rfl
  have hbk := hg.block hb h.lt fun e => (hr hb e.symm).2.2.1 rfl
  refine ⟨?_, h.ind.frame fun g e => ?_, h.own.frame fun g e => ?_, (cell_of_block hbk).trans h.c, (World.frozen?_of_block hbk).trans h.f, Nat.lt_of_lt_of_le h.lt hg.size, h.ne, h.ng, h.nb, h.fi, h.fh, h.fv⟩
  · refine h.bel.trans ⟨hg.os, hg.tape, hg.output, hg.size, fun k hk => hg.block k (Nat.lt_of_lt_of_le hk h.bel.size) fun s => ?_⟩
    have := (hr k s.symm).1
    omega
  · obtain rfl : gi = g := by simpa [Value.ownBlock] using e
    exact hg.block gi hgi fun s => (hr gi s.symm).2.1 rfl
  · exact hg.block g (h.own.lt e) fun s => (hr g s.symm).2.2.2 e
theorem Ls.alloc (h : Ls w wr gi hb t D v m a) (o : Obj) : Ls w (wr.alloc o) gi hb t D v m a := by
  refine ⟨h.bel.alloc h.bel.size _, h.ind.frame fun g e => Below.heap_alloc _ _ _ (h.ind.lt e), h.own.frame fun g e => Below.heap_alloc _ _ _ (h.own.lt e), (cell_of_block (Below.heap_alloc _ _ _ h.lt)).trans h.c, (World.frozen?_of_block (Below.heap_alloc _ _ _ h.lt)).trans h.f, ?_, h.ne, h.ng, h.nb, h.fi, h.fh, h.fv⟩
  have := h.lt
  simp; omega
theorem Ls.ext (h : Ls w wr gi hb t D v m a) {E : Nat → Int} (e : ∀ i, i < t → D i = E i) : Ls w wr gi hb t E v m a :=
  ⟨h.bel, (il_ext e) ▸ h.ind, h.own, h.c, h.f, h.lt, h.ne, h.ng, h.nb, h.fi, h.fh, h.fv⟩
end

/-- Ascending. -/
def Asc (a : Nat → Int) (m : Nat) : Prop := ∀ j k, j < k → k < m → a j < a k
theorem Asc.hp {a : Nat → Int} {m : Nat} (h : Asc a m) : Hp a m := fun k h0 hk => Int.le_of_lt (h _ _ (by omega) hk)
theorem il_push {m : Nat} {a : Nat → Int} {x : Int} : il m a ++ [.int .i64 x] = il (m + 1) (fun k => if k = m then x else a k) := by
  rw [il_snoc]
  have e1 : il m a = il m (fun k => if k = m then x else a k) := il_ext fun i hi => by simp [show i ≠ m by omega]
  rw [← e1]; simp
theorem Asc.push {a : Nat → Int} {m : Nat} {x : Int} (h : Asc a m) (hx : ∀ k, k < m → a k < x) : Asc (fun k => if k = m then x else a k) (m + 1) := by
  intro j k hjk hk
  by_cases e : k = m
  · simp only [e, if_true, show j ≠ m by omega, if_false]; exact hx j (by omega)
  · simp only [e, if_false, show j ≠ m by omega]; exact h j k hjk (by omega)

/-- The box of the heap, filled by one more. -/
theorem Ls.boxed {w w1 w2 : World} {gi hb t : Nat} {D : Nat → Int} {v : Value} {m : Nat} {a : Nat → Int} (h : Ls w w1 gi hb t D v m a) {g cap : Nat} {x : Int}
    (hown : OwnV w2 3 (.slice (some ⟨g, 0, none⟩) (m + 1) cap) (il m a ++ [.int .i64 x])) (hgr : w1.grownBy w2 v.ownBlock) (hpl : v.ownBlock = some g ∨ w1.heap.size ≤ g) :
    Ls w (w2.setCell ⟨hb, 0, none⟩ (.slice (some ⟨g, 0, none⟩) (m + 1) cap)) gi hb t D (.slice (some ⟨g, 0, none⟩) (m + 1) cap) (m + 1) (fun k => if k = m then x else a k) := by
  rw [il_push] at hown
  have hgi : gi < w1.heap.size := h.ind.lt rfl
  have hlt := h.lt
  have hgb : g ≠ hb := by
    rcases hpl with s | s
    · intro e; exact h.ne (by rw [s, e])
    · omega
  have hgg : g ≠ gi := by
    rcases hpl with s | s
    · intro e; exact h.ng (by rw [s, e])
    · omega
  have hbk := hgr.block hb hlt fun e => h.ne e.symm
  have hc2 : w2.cell? ⟨hb, 0, none⟩ = some v := (cell_of_block hbk).trans h.c
  refine ⟨?_, (OwnV.frame (w' := w2) h.ind fun k hk => ?_).frame fun k hk => ?_, hown.frame fun k hk => ?_, World.cell?_setCell_same _ _ _ hc2, ?_, ?_, fun e => hgb (by simpa [Value.ownBlock] using e), fun e => hgg (by simpa [Value.ownBlock] using e), h.nb, h.fi, h.fh, fun k hk => ?_⟩
  · refine (h.bel.trans ⟨hgr.os, hgr.tape, hgr.output, hgr.size, fun k hk => hgr.block k (Nat.lt_of_lt_of_le hk h.bel.size) fun s => ?_⟩).setCell h.fh _
    have := h.fv k s.symm
    omega
  · obtain rfl : gi = k := by simpa [Value.ownBlock] using hk
    exact hgr.block gi hgi fun e => h.ng e.symm
  · obtain rfl : gi = k := by simpa [Value.ownBlock] using hk
    exact Below.heap_setCell _ _ _ _ (Ne.symm h.nb)
  · obtain rfl : g = k := by simpa [Value.ownBlock] using hk
    exact Below.heap_setCell _ _ _ _ hgb
  · have h3 : w2.frozen? ⟨hb, 0, none⟩ = false := (World.frozen?_of_block hbk).trans h.f
    simp [h3]
  · have : hb < w2.heap.size := Nat.lt_of_lt_of_le hlt hgr.size
    simpa [World.setCell] using this
  · obtain rfl : g = k := by simpa [Value.ownBlock] using hk
    rcases hpl with s | s
    · exact h.fv g s
    · exact Nat.le_trans h.bel.size s

theorem Cov.bound {a : Nat → Int} {m t : Nat} {Q : Nat → Prop} (h : Cov a m (RP Q)) (hQ : ∀ n, Q n → n < t) : m ≤ t := by
  refine pigeon t m (fun k => (a k).toNat) (fun k hk => ?_) (fun i j hi hj e => ?_)
  · obtain ⟨n, e, hn⟩ := h.all k hk
    have := hQ n hn
    show (a k).toNat < t
    omega
  · obtain ⟨n, e1, _⟩ := h.all i hi
    obtain ⟨n', e2, _⟩ := h.all j hj
    refine h.inj i j hi hj ?_
    have e' : (a i).toNat = (a j).toNat := e
    omega

def ol (os : List Nat) : List Value := os.map fun n : Nat => Value.int .i64 (n : Int)
theorem ol_len (os : List Nat) : (ol os).length = os.length := by simp [ol]
/-- The order so far. -/
structure Od (w wr : World) (gi hb : Nat) (v : Value) (go cap : Nat) (os : List Nat) : Prop where
  own : OwnV wr 3 (.slice (some ⟨go, 0, none⟩) os.length cap) (ol os)
  f0 : w.heap.size ≤ go
  n1 : go ≠ gi
  n2 : go ≠ hb
  n3 : v.ownBlock ≠ some go
section
variable {w wr : World} {gi hb : Nat} {v : Value} {go cap : Nat} {os : List Nat}
theorem Od.lt (h : Od w wr gi hb v go cap os) : go < wr.heap.size := h.own.lt rfl
theorem Od.frame (h : Od w wr gi hb v go cap os) {w' : World} (hb' : w'.heap[go]? = wr.heap[go]?) : Od w w' gi hb v go cap os :=
  ⟨h.own.frame fun g hg => by obtain rfl : go = g := by simpa [Value.ownBlock] using hg
                              exact hb', h.f0, h.n1, h.n2, h.n3⟩
theorem Od.turn (h : Od w wr gi hb v go cap os) {w' : World} {v' : Value} {m' : Nat} {b : Nat → Int} (q : Hq wr w' hb v v' m' b) : Od w w' gi hb v' go cap os := by
  have hl := h.lt
  have h1 := h.frame (q.onl.block go hl fun s => s.elim h.n2 h.n3)
  exact ⟨h1.own, h1.f0, h1.n1, h1.n2, fun e => (q.blk go e).elim h.n3 fun s => by omega⟩
end

/-- Which successors of u have been seen. -/
def Seen (F S : Nat → Nat) (u j s : Nat) : Prop := ∃ k, F u ≤ k ∧ k < F u + j ∧ S k = s
theorem Seen.step {F S : Nat → Nat} {u j s : Nat} : Seen F S u (j + 1) s ↔ Seen F S u j s ∨ s = S (F u + j) := by
  unfold Seen
  constructor
  · rintro ⟨k, h1, h2, h3⟩
    by_cases e : k = F u + j
    · subst e; exact .inr h3.symm
    · exact .inl ⟨k, h1, by omega, h3⟩
  · rintro (⟨k, h1, h2, h3⟩ | e)
    · exact ⟨k, h1, by omega, h3⟩
    · exact ⟨F u + j, by omega, by omega, e.symm⟩
/-- Within the successors of u. -/
structure Mid (t : Nat) (M : Nat → Nat → Bool) (F S : Nat → Nat) (os : List Nat) (u j : Nat) (D : Nat → Int) (m : Nat) (a : Nat → Int) : Prop where
  d1 : ∀ s, s < t → Seen F S u j s → D s = dg t M (os ++ [u]) s
  d0 : ∀ s, s < t → ¬ Seen F S u j s → D s = dg t M os s
  hp : Hp a m
  cov : Cov a m (RP fun n => (ready t M os n ∧ n ≠ u) ∨ (Seen F S u j n ∧ n < t ∧ dg t M (os ++ [u]) n = 0))
section
variable {t K : Nat} {M : Nat → Nat → Bool} {F S : Nat → Nat} {os : List Nat} {u j : Nat} {D : Nat → Int} {m : Nat} {a : Nat → Int}
theorem Mid.fresh (hs : Sg t K F S M) (hu : u < t) (hj : F u + j < F (u + 1)) : ¬ Seen F S u j (S (F u + j)) := by
  rintro ⟨k, h1, h2, h3⟩
  have := hs.inj u hu k (F u + j) h1 (by omega) (by omega) hj h3
  omega
theorem Mid.at (h : Mid t M F S os u j D m a) (hs : Sg t K F S M) (hr : ready t M os u) (hj : F u + j < F (u + 1)) : D (S (F u + j)) = dg t M (os ++ [u]) (S (F u + j)) + 1 := by
  have hK := hs.leK (v := u + 1) hr.1
  have hst := hs.lt (F u + j) (by omega)
  have hM : M u (S (F u + j)) = true := (hs.mem u hr.1 _).2 ⟨F u + j, by omega, hj, rfl⟩
  have h1 := dg_snoc (M := M) hr.1 hr.2.1 (S (F u + j))
  rw [hM] at h1
  rw [h.d0 _ hst (Mid.fresh hs hr.1 hj), ← h1]
  simp
theorem Mid.next (h : Mid t M F S os u j D m a) (hs : Sg t K F S M) (hr : ready t M os u) (hj : F u + j < F (u + 1)) {b : Nat → Int} {m' : Nat} (hb : Hp b m')
    (hc : Cov b m' (RP fun n => (ready t M os n ∧ n ≠ u) ∨ (Seen F S u (j + 1) n ∧ n < t ∧ dg t M (os ++ [u]) n = 0))) :
    Mid t M F S os u (j + 1) (fun k => if k = S (F u + j) then D (S (F u + j)) - 1 else D k) m' b := by
  have ha := h.at hs hr hj
  refine ⟨fun s hs1 hs2 => ?_, fun s hs1 hs2 => ?_, hb, hc⟩
  · by_cases e : s = S (F u + j)
    · simp only [e, if_true]; omega
    · simp only [e, if_false]
      rcases Seen.step.1 hs2 with h2 | h2
      · exact h.d1 s hs1 h2
      · exact absurd h2 e
  · have h2 := mt Seen.step.2 hs2
    have e : s ≠ S (F u + j) := fun e => h2 (.inr e)
    simp only [e, if_false]
    exact h.d0 s hs1 fun h3 => h2 (.inl h3)
theorem Mid.skip (h : Mid t M F S os u j D m a) (hs : Sg t K F S M) (hr : ready t M os u) (hj : F u + j < F (u + 1)) (hz : D (S (F u + j)) - 1 ≠ 0) :
    Mid t M F S os u (j + 1) (fun k => if k = S (F u + j) then D (S (F u + j)) - 1 else D k) m a := by
  have ha := h.at hs hr hj
  refine h.next hs hr hj h.hp (h.cov.congr (RP_iff fun n => ?_))
  constructor
  · rintro (h1 | ⟨h1, h2⟩)
    · exact .inl h1
    · exact .inr ⟨Seen.step.2 (.inl h1), h2⟩
  · rintro (h1 | ⟨h1, h2, h3⟩)
    · exact .inl h1
    · rcases Seen.step.1 h1 with h4 | h4
      · exact .inr ⟨h4, h2, h3⟩
      · subst h4; omega
theorem Mid.push (h : Mid t M F S os u j D m a) (hs : Sg t K F S M) (hr : ready t M os u) (hj : F u + j < F (u + 1)) (hz : D (S (F u + j)) - 1 = 0) {b : Nat → Int} (hb : Hp a m → Hp b (m + 1))
    (hc : ∀ P, Cov a m P → ¬ P (S (F u + j)) → Cov b (m + 1) (fun c => P c ∨ c = S (F u + j))) :
    Mid t M F S os u (j + 1) (fun k => if k = S (F u + j) then D (S (F u + j)) - 1 else D k) (m + 1) b := by
  have ha := h.at hs hr hj
  have hK := hs.leK (v := u + 1) hr.1
  have hst := hs.lt (F u + j) (by omega)
  have hfr := Mid.fresh hs hr.1 hj
  have hM : M u (S (F u + j)) = true := (hs.mem u hr.1 _).2 ⟨F u + j, by omega, hj, rfl⟩
  have hpos := dg_pos (M := M) hr.1 hr.2.1 hM
  refine h.next hs hr hj (hb h.hp) ((hc _ h.cov ?_).congr fun c => (RP_or c).trans (RP_iff (fun n => ?_) c))
  · rw [RP_nat]
    rintro (⟨h1, _⟩ | ⟨h1, _⟩)
    · have := h1.2.2; omega
    · exact hfr h1
  · constructor
    · rintro ((h1 | ⟨h1, h2⟩) | h1)
      · exact .inl h1
      · exact .inr ⟨Seen.step.2 (.inl h1), h2⟩
      · subst h1; exact .inr ⟨Seen.step.2 (.inr rfl), hst, by omega⟩
    · rintro (h1 | ⟨h1, h2, h3⟩)
      · exact .inl (.inl h1)
      · rcases Seen.step.1 h1 with h4 | h4
        · exact .inl (.inr ⟨h4, h2, h3⟩)
        · exact .inr h4
theorem Mid.start (hk : Kd t M os) (hr : ready t M os u) (hD : ∀ s, s < t → D s = dg t M os s) (hp : Hp a m) (hc : Cov a m (RP fun n => ready t M os n ∧ n ≠ u)) : Mid t M F S os u 0 D m a :=
  ⟨fun s _ h => by obtain ⟨k, h1, h2, _⟩ := h; omega, fun s hs _ => hD s hs, hp, hc.congr (RP_iff fun n => ⟨fun h => .inl h, fun h => h.elim id fun h => by obtain ⟨⟨k, h1, h2, _⟩, _⟩ := h; omega⟩)⟩
theorem Mid.stop (h : Mid t M F S os u j D m a) (hs : Sg t K F S M) (hk : Kd t M os) (hr : ready t M os u) (hj : F u + j = F (u + 1)) : (∀ s, s < t → D s = dg t M (os ++ [u]) s) ∧ Cov a m (RP (ready t M (os ++ [u]))) := by
  have hiff : ∀ s, Seen F S u j s ↔ M u s = true := fun s => by
    rw [hs.mem u hr.1 s]
    unfold Seen
    rw [hj]
  refine ⟨fun s h1 => ?_, h.cov.congr (RP_iff fun n => ?_)⟩
  · have h2 := dg_snoc (M := M) hr.1 hr.2.1 s
    cases hM : M u s
    · rw [hM] at h2
      rw [h.d0 s h1 (fun h3 => by rw [(hiff s).1 h3] at hM; cases hM)]
      simp at h2; omega
    · exact h.d1 s h1 ((hiff s).2 hM)
  · rw [ready_step hk hr n]
    constructor
    · rintro (h1 | ⟨h1, h2, h3⟩)
      · exact .inl h1
      · exact .inr ⟨h2, (hiff n).1 h1, h3⟩
    · rintro (h1 | ⟨h1, h2, h3⟩)
      · exact .inl h1
      · exact .inr ⟨(hiff n).2 h2, h1, h3⟩
end
def slen : Value → Nat
  | .slice _ n _ => n
  | _ => 0
end Go.Proofs.Ybulkecis

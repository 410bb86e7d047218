/-
  A small kit on memory of the call's own: what a slice value owns, and an append that says where its result lies. It speaks of no program.
-/
import Derived.WalkKit
import Derived.ProofKit
import Derived.ArgAppend
import Derived.Deep.RegionLaw
import Derived.Laws.CopyOwn
import Derived.WalkSmall
namespace Go.Proofs.Ybulkecis.Own
open Go.RowKit
set_option linter.unusedVariables false

/-- The slice value v owns the cells xs (one cell an element). -/
def OwnV (w : World) (e : TypeId) (v : Value) (xs : List Value) : Prop := w.ownsRow 0 e 1 v xs.length xs

section
variable {w : World} {e : TypeId} {v : Value} {xs : List Value}

theorem OwnV.nil (w : World) (e : TypeId) : OwnV w e (.slice none 0 0) [] := World.ownsRow_nil w 0 e 1

theorem OwnV.frame {w' : World} (h : OwnV w e v xs) (hb : ∀ g, v.ownBlock = some g → w'.heap[g]? = w.heap[g]?) : OwnV w' e v xs := by
  obtain ⟨h1, h2⟩ := h
  refine ⟨h1, ?_⟩
  rcases h2 with h2 | ⟨g, cap, cur, hv, hg, hh, r⟩
  · exact .inl h2
  · subst hv
    exact .inr ⟨g, cap, cur, rfl, hg, by rw [hb g rfl]; exact hh, r⟩

theorem OwnV.lt (h : OwnV w e v xs) {g : Nat} (hg : v.ownBlock = some g) : g < w.heap.size := (World.ownsRow.lt h g hg).2

theorem OwnV.form (h : OwnV w e v xs) : (v = .slice none 0 0 ∧ xs = []) ∨ ∃ g cap, v = .slice (some ⟨g, 0, none⟩) xs.length cap ∧ v.ownBlock = some g ∧ xs.length ≤ cap ∧ cap ≤ maxLen ∧ g < w.heap.size := by
  rcases h.2 with ⟨hv, hn⟩ | ⟨g, cap, cur, hv, hg, hh, hn, hc, _⟩
  · exact .inl ⟨hv, List.eq_nil_of_length_eq_zero hn⟩
  · exact .inr ⟨g, cap, hv, by rw [hv]; rfl, hn, hc, lt_of_block hh⟩

theorem OwnV.form' (h : OwnV w e v xs) : ∃ ao cap, v = .slice ao xs.length cap := by
  rcases h.form with ⟨hv, hx⟩ | ⟨g, cap, hv, _⟩
  · exact ⟨none, 0, by rw [hv, hx]; rfl⟩
  · exact ⟨_, _, hv⟩

theorem OwnV.cell {g n cap : Nat} (h : OwnV w e (.slice (some ⟨g, 0, none⟩) n cap) xs) (hn : n = xs.length) {j : Nat} (hj : j < xs.length) : w.cell? ⟨g, j, none⟩ = xs[j]? := by
  subst hn
  exact World.ownsRow.cellAt h j (by omega)

theorem OwnV.free {g n cap : Nat} (h : OwnV w e (.slice (some ⟨g, 0, none⟩) n cap) xs) (hn : n = xs.length) (j : Nat) : w.frozen? ⟨g, j, none⟩ = false := by
  subst hn
  exact World.ownsRow.frozenAt h j

theorem OwnV.pop {g n cap : Nat} {x : Value} (h : OwnV w e (.slice (some ⟨g, 0, none⟩) n cap) (xs ++ [x])) (hn : n = xs.length + 1) : OwnV w e (.slice (some ⟨g, 0, none⟩) xs.length cap) xs := by
  subst hn
  unfold OwnV at h
  rw [show (xs ++ [x]).length = xs.length + 1 by simp] at h
  exact ownsRow_pop (last := [x]) (by simp) h

theorem OwnV.set {g n cap : Nat} (h : OwnV w e (.slice (some ⟨g, 0, none⟩) n cap) xs) (hn : n = xs.length) (j : Nat) (u : Value) : OwnV (w.setCell ⟨g, j, none⟩ u) e (.slice (some ⟨g, 0, none⟩) n cap) (xs.set j u) := by
  subst hn
  have := (World.ownsRow.stored h j u).1
  unfold OwnV
  rw [List.length_set]
  exact this

/-- A made row. -/
theorem OwnV.made (w : World) (e : TypeId) (cs : List Value) (hm : cs.length ≤ maxLen) : OwnV (w.alloc (.cells cs.toArray e)) e (.slice (some ⟨w.heap.size, 0, none⟩) cs.length cs.length) cs := by
  have := World.ownsRow_lit (base := 0) (e := e) (size := 1) w cs.toArray cs.length (Nat.zero_le _) hm (by simp)
  simpa [OwnV] using this
end

section
variable {P : Program} (w : World)

/-- append, its result's place said: the old block, or a new one. -/
theorem run_append_v (t ty e : TypeId) (i : TypeInfo) (z : Value) (bytes : Nat) (ht : P.underlying t = some (.slice e)) (hi : P.info? e = some i) (hz : i.zero = some z)
    (hsize : i.size = 1) (hby : i.bytes = bytes) (hzs : z.cells.size = 1)
    (v : Value) (xs : List Value) (hown : OwnV w e v xs)
    (a : Addr) (m c : Nat) (news : List Value) (hl : news.length = m) (hnews : ∀ j u, news[j]? = some u → w.cell? (a.add j) = some u) (h1 : ∀ u ∈ news, u.oneCell' = true)
    (h63 : xs.length + m ≤ maxLen) (hbytes : (xs.length + m) * bytes ≤ 140737488355328) :
    ∃ v' w', (Builtin.append_ #[t, t] ty #[v, .slice (some a) m c]).run P w = .ok v' w' ∧ OwnV w' e v' (xs ++ news) ∧ w.grownBy w' v.ownBlock ∧
      (v'.ownBlock = v.ownBlock ∨ ∃ g, v'.ownBlock = some g ∧ w.heap.size ≤ g) ∧ (v' = .slice none 0 0 ↔ v = .slice none 0 0 ∧ m = 0) := by
  have hlen : (xs ++ news).length = xs.length + m := by rw [List.length_append, hl]
  have up : ∀ {w' : World} {v' : Value}, w'.ownsRow w.heap.size e 1 v' (xs.length + m) (xs ++ news) → OwnV w' e v' (xs ++ news) := by
    intro w' v' h
    unfold OwnV
    rw [hlen]
    obtain ⟨h1, h2⟩ := h
    refine ⟨h1, ?_⟩
    rcases h2 with h2 | ⟨g, cap, cur, hv, hg, r⟩
    · exact .inl h2
    · exact .inr ⟨g, cap, cur, hv, Nat.zero_le _, r⟩
  rcases hown.form with ⟨rfl, rfl⟩ | ⟨g, cap, rfl, _, hnc, hcm, hgl⟩
  · obtain ⟨v', w', hr, ho, hg, hn⟩ := run_append_own (P := P) w w.heap.size t ty e i z 1 bytes ht hi hz hsize hby hzs (by decide) (.slice none 0 0) 0 [] (World.ownsRow_nil w _ e 1) a m c news (by simpa using hl) hnews h1 (by simpa using h63) (by simpa using hbytes) (Nat.le_refl _)
    refine ⟨v', w', hr, up (by simpa using ho), hg, ?_, hn⟩
    rcases ho.2 with ⟨rfl, _⟩ | ⟨g, cap, cur, rfl, hgb, _⟩
    · exact .inl rfl
    · exact .inr ⟨g, rfl, hgb⟩
  · by_cases hroom : xs.length + m ≤ cap
    · obtain ⟨w', hr, ho, hg⟩ := run_append_fits (P := P) w 0 t ty e i 1 ht hi hsize g xs.length cap xs hown a m c news (by simpa using hl) hnews h1 hroom
      refine ⟨_, w', hr, ?_, hg, .inl rfl, by simp⟩
      unfold OwnV
      rw [hlen]
      exact ho
    · obtain ⟨v', w', hr, ho, hg⟩ := run_append_arg_grows (P := P) w t ty e i z 1 bytes ht hi hz hsize hby hzs (by decide) ⟨g, 0, none⟩ xs.length cap xs (by simp) (fun j u hu => by
        have := World.ownsRow.cells hown (g := g) rfl j u hu; exact this) a m c news (by simpa using hl) hnews (by omega) h63 hbytes
      refine ⟨v', w', hr, up ho, ⟨hg.os, hg.tape, hg.output, hg.size, fun k hk _ => hg.block k hk (by simp)⟩, ?_, ?_⟩
      · rcases ho.2 with ⟨rfl, hz⟩ | ⟨g', cap', cur, rfl, hgb, _⟩
        · omega
        · exact .inr ⟨g', rfl, hgb⟩
      · rcases ho.2 with ⟨rfl, hz⟩ | ⟨g', cap', cur, rfl, hgb, _⟩
        · omega
        · simp

theorem wp_append_v {o : Oper} {a : Act} {K : Act → World → Prop} {Q : Exit → Act → World → Prop} (s x : Operand) (t : TypeId)
    (ho : o.op = .call { callee := .builtin .append, args := #[s, x], argTypes := #[t, t] })
    (e : TypeId) (i : TypeInfo) (z : Value) (bytes : Nat) (ht : P.underlying t = some (.slice e)) (hi : P.info? e = some i) (hz : i.zero = some z)
    (hsize : i.size = 1) (hby : i.bytes = bytes) (hzs : z.cells.size = 1)
    (v : Value) (xs : List Value) (hs : a.eval s = v) (hown : OwnV w e v xs)
    (ad : Addr) (m c : Nat) (news : List Value) (hx : a.eval x = .slice (some ad) m c) (hl : news.length = m) (hnews : ∀ j u, news[j]? = some u → w.cell? (ad.add j) = some u) (h1 : ∀ u ∈ news, u.oneCell' = true)
    (h63 : xs.length + m ≤ maxLen) (hbytes : (xs.length + m) * bytes ≤ 140737488355328)
    (h : ∀ v' w', OwnV w' e v' (xs ++ news) → w.grownBy w' v.ownBlock → (v'.ownBlock = v.ownBlock ∨ ∃ g, v'.ownBlock = some g ∧ w.heap.size ≤ g) → (v' = .slice none 0 0 ↔ v = .slice none 0 0 ∧ m = 0) → K (a.put o.dst v') w') : o.wp P a w K Q := by
  obtain ⟨v', w', hr, h2, h3, h4, h5⟩ := run_append_v (P := P) w t o.type e i z bytes ht hi hz hsize hby hzs v xs hown ad m c news hl hnews h1 h63 hbytes
  unfold Oper.wp execOp
  simp only [ho, resolve, invoke, builtin, Sem.run_bind, Sem.run_pure, Result.andThen_ok, List.map_toArray, List.map_cons, List.map_nil, hs, hx, hr]
  exact h v' w' h2 h3 h4 h5

theorem wpList_append_v {ops : Array Oper} {rest : List Oper} {o : Oper} {a : Act} {Q : Exit → Act → World → Prop} (hgd : o.guard = none) (s x : Operand) (t : TypeId)
    (ho : o.op = .call { callee := .builtin .append, args := #[s, x], argTypes := #[t, t] })
    (e : TypeId) (i : TypeInfo) (z : Value) (bytes : Nat) (ht : P.underlying t = some (.slice e)) (hi : P.info? e = some i) (hz : i.zero = some z)
    (hsize : i.size = 1) (hby : i.bytes = bytes) (hzs : z.cells.size = 1)
    (v : Value) (xs : List Value) (hs : a.eval s = v) (hown : OwnV w e v xs)
    (ad : Addr) (m c : Nat) (news : List Value) (hx : a.eval x = .slice (some ad) m c) (hl : news.length = m) (hnews : ∀ j u, news[j]? = some u → w.cell? (ad.add j) = some u) (h1 : ∀ u ∈ news, u.oneCell' = true)
    (h63 : xs.length + m ≤ maxLen) (hbytes : (xs.length + m) * bytes ≤ 140737488355328)
    (h : ∀ v' w', OwnV w' e v' (xs ++ news) → w.grownBy w' v.ownBlock → (v'.ownBlock = v.ownBlock ∨ ∃ g, v'.ownBlock = some g ∧ w.heap.size ≤ g) → (v' = .slice none 0 0 ↔ v = .slice none 0 0 ∧ m = 0) → wpList P ops Q rest (a.put o.dst v') w') : wpList P ops Q (o :: rest) a w :=
  wpList_plain hgd fun _ hK => wp_append_v w s x t ho e i z bytes ht hi hz hsize hby hzs v xs hs hown ad m c news hx hl hnews h1 h63 hbytes fun v' w' h2 h3 h4 h5 => hK _ _ (h v' w' h2 h3 h4 h5)

/-- The same as one step of a region that draws its order. -/
theorem step_append_v {ops : Array Oper} {o : Oper} {a : Act} {K : Act → World → Prop} {Q : Exit → Act → World → Prop} {E : Prop} (hgd : o.guard = none) (s x : Operand) (t : TypeId)
    (ho : o.op = .call { callee := .builtin .append, args := #[s, x], argTypes := #[t, t] })
    (e : TypeId) (i : TypeInfo) (z : Value) (bytes : Nat) (ht : P.underlying t = some (.slice e)) (hi : P.info? e = some i) (hz : i.zero = some z)
    (hsize : i.size = 1) (hby : i.bytes = bytes) (hzs : z.cells.size = 1)
    (v : Value) (xs : List Value) (hs : a.eval s = v) (hown : OwnV w e v xs)
    (ad : Addr) (m c : Nat) (news : List Value) (hx : a.eval x = .slice (some ad) m c) (hl : news.length = m) (hnews : ∀ j u, news[j]? = some u → w.cell? (ad.add j) = some u) (h1 : ∀ u ∈ news, u.oneCell' = true)
    (h63 : xs.length + m ≤ maxLen) (hbytes : (xs.length + m) * bytes ≤ 140737488355328)
    (h : ∀ v' w', OwnV w' e v' (xs ++ news) → w.grownBy w' v.ownBlock → (v'.ownBlock = v.ownBlock ∨ ∃ g, v'.ownBlock = some g ∧ w.heap.size ≤ g) → (v' = .slice none 0 0 ↔ v = .slice none 0 0 ∧ m = 0) → K (a.put o.dst v') w') :
    if Region.wanted o (yielded ops a.tmps) = true then Oper.wp P o a w K Q else E := by
  have hw : Region.wanted o (yielded ops a.tmps) = true := by simp [Region.wanted, hgd]
  rw [if_pos hw]
  exact wp_append_v w s x t ho e i z bytes ht hi hz hsize hby hzs v xs hs hown ad m c news hx hl hnews h1 h63 hbytes h

theorem v_form {w w' : World} {e : TypeId} {v v' : Value} {xs news : List Value} {m : Nat} (h : OwnV w' e v' (xs ++ news)) (hl : news.length = m) (hm : 0 < m) (hp : v'.ownBlock = v.ownBlock ∨ ∃ g, v'.ownBlock = some g ∧ w.heap.size ≤ g) :
    ∃ g cap, v' = .slice (some ⟨g, 0, none⟩) (xs.length + m) cap ∧ (v.ownBlock = some g ∨ w.heap.size ≤ g) ∧ xs.length + m ≤ cap ∧ cap ≤ maxLen ∧ g < w'.heap.size := by
  rcases h.form with ⟨_, hx⟩ | ⟨g, cap, hv, hb, hn, hc, hg⟩
  · exfalso
    have := congrArg List.length hx
    rw [List.length_append, List.length_nil] at this
    omega
  · rw [List.length_append, hl] at hv hn
    refine ⟨g, cap, hv, ?_, hn, hc, hg⟩
    rcases hp with hp | ⟨g', hg', hs⟩
    · exact .inl (hp ▸ hb)
    · rw [hb] at hg'
      cases hg'
      exact .inr hs

/-- append of at least one element: the value written out. -/
theorem wpList_append_n {ops : Array Oper} {rest : List Oper} {o : Oper} {a : Act} {Q : Exit → Act → World → Prop} (hgd : o.guard = none) (s x : Operand) (t : TypeId)
    (ho : o.op = .call { callee := .builtin .append, args := #[s, x], argTypes := #[t, t] })
    (e : TypeId) (i : TypeInfo) (z : Value) (bytes : Nat) (ht : P.underlying t = some (.slice e)) (hi : P.info? e = some i) (hz : i.zero = some z)
    (hsize : i.size = 1) (hby : i.bytes = bytes) (hzs : z.cells.size = 1)
    (v : Value) (xs : List Value) (hs : a.eval s = v) (hown : OwnV w e v xs)
    (ad : Addr) (m c : Nat) (news : List Value) (hx : a.eval x = .slice (some ad) m c) (hl : news.length = m) (hm : 0 < m) (hnews : ∀ j u, news[j]? = some u → w.cell? (ad.add j) = some u) (h1 : ∀ u ∈ news, u.oneCell' = true)
    (h63 : xs.length + m ≤ maxLen) (hbytes : (xs.length + m) * bytes ≤ 140737488355328)
    (h : ∀ g cap w', OwnV w' e (.slice (some ⟨g, 0, none⟩) (xs.length + m) cap) (xs ++ news) → w.grownBy w' v.ownBlock → (v.ownBlock = some g ∨ w.heap.size ≤ g) → xs.length + m ≤ cap ∧ cap ≤ maxLen ∧ g < w'.heap.size → wpList P ops Q rest (a.put o.dst (.slice (some ⟨g, 0, none⟩) (xs.length + m) cap)) w') : wpList P ops Q (o :: rest) a w :=
  wpList_append_v w hgd s x t ho e i z bytes ht hi hz hsize hby hzs v xs hs hown ad m c news hx hl hnews h1 h63 hbytes fun v' w' h2 h3 h4 h5 => by
    obtain ⟨g, cap, rfl, hp, hc⟩ := v_form h2 hl hm h4
    exact h g cap w' h2 h3 hp hc

theorem step_append_n {ops : Array Oper} {o : Oper} {a : Act} {K : Act → World → Prop} {Q : Exit → Act → World → Prop} {E : Prop} (hgd : o.guard = none) (s x : Operand) (t : TypeId)
    (ho : o.op = .call { callee := .builtin .append, args := #[s, x], argTypes := #[t, t] })
    (e : TypeId) (i : TypeInfo) (z : Value) (bytes : Nat) (ht : P.underlying t = some (.slice e)) (hi : P.info? e = some i) (hz : i.zero = some z)
    (hsize : i.size = 1) (hby : i.bytes = bytes) (hzs : z.cells.size = 1)
    (v : Value) (xs : List Value) (hs : a.eval s = v) (hown : OwnV w e v xs)
    (ad : Addr) (m c : Nat) (news : List Value) (hx : a.eval x = .slice (some ad) m c) (hl : news.length = m) (hm : 0 < m) (hnews : ∀ j u, news[j]? = some u → w.cell? (ad.add j) = some u) (h1 : ∀ u ∈ news, u.oneCell' = true)
    (h63 : xs.length + m ≤ maxLen) (hbytes : (xs.length + m) * bytes ≤ 140737488355328)
    (h : ∀ g cap w', OwnV w' e (.slice (some ⟨g, 0, none⟩) (xs.length + m) cap) (xs ++ news) → w.grownBy w' v.ownBlock → (v.ownBlock = some g ∨ w.heap.size ≤ g) → xs.length + m ≤ cap ∧ cap ≤ maxLen ∧ g < w'.heap.size → K (a.put o.dst (.slice (some ⟨g, 0, none⟩) (xs.length + m) cap)) w') :
    if Region.wanted o (yielded ops a.tmps) = true then Oper.wp P o a w K Q else E :=
  step_append_v w hgd s x t ho e i z bytes ht hi hz hsize hby hzs v xs hs hown ad m c news hx hl hnews h1 h63 hbytes fun v' w' h2 h3 h4 h5 => by
    obtain ⟨g, cap, rfl, hp, hc⟩ := v_form h2 hl hm h4
    exact h g cap w' h2 h3 hp hc

/-- make, at whatever length and capacity, one cell an element. -/
theorem wpList_make_v {ops : Array Oper} {rest : List Oper} {o : Oper} {a : Act} {Q : Exit → Act → World → Prop}
    (hg : o.guard = none) (l c : Operand) (t : TypeId) (hop : o.op = Op.makeSlice t l c)
    (e : TypeId) (i : TypeInfo) (z : Value) (h1 : P.underlying t = some (.slice e)) (h2 : P.info? e = some i) (h3 : i.zero = some z) (h4 : i.size = 1) (hzc : z.cells = #[z])
    (kl kc : IntKind) (L C : Int) (n m : Nat) (hl : a.eval l = .int kl L) (hc : a.eval c = .int kc C) (hL : L = (n : Int)) (hC : C = (m : Int)) (hnm : n ≤ m) (b2 : i.bytes * m ≤ 281474976710656) (b3 : m ≤ 9223372036854775807)
    (hK : wpList P ops Q rest (a.put o.dst (.slice (some ⟨w.heap.size, 0, none⟩) n m)) (w.alloc (.cells (List.replicate m z).toArray e))) :
    wpList P ops Q (o :: rest) a w := by
  refine wpList_plain hg fun K hK' => ?_
  have hb' : (i.bytes : Int) * (m : Int) ≤ 281474976710656 := by
    have h : ((i.bytes * m : Nat) : Int) ≤ 281474976710656 := by omega
    rwa [Int.natCast_mul] at h
  have hrun := run_make (P := P) w t e i z h1 h2 h3 kl kc n m (by omega) (by omega) hb' (by omega)
  simp only [Int.toNat_natCast, h4, Nat.mul_one, hzc] at hrun
  subst hL
  subst hC
  unfold Oper.wp
  simp [execOp, hop, hl, hc, hrun, Result.andThen]
  refine hK' _ _ ?_
  have e1 : madeCells #[z] m = (List.replicate m z).toArray := by rw [← toList_madeCells_one]
  rw [e1]
  exact hK
end

/-- The one cell that 'append(xs, v)' has boxed. -/
theorem one_new (X : World) (v : Value) (t : TypeId) (g : Nat) (hg : g = X.heap.size) : ∀ (j : Nat) (u : Value), [v][j]? = some u → (X.alloc (.cells #[v] t)).cell? ((⟨g, 0, none⟩ : Addr).add j) = some u := by
  intro j u hu
  subst hg
  match j, hu with
  | 0, hu => simp at hu; subst hu; simp [Addr.add]
  | j + 1, hu => simp at hu
theorem one_newN (X : World) (v : Value) (t : TypeId) (g n : Nat) (hg : g = X.heap.size) : ∀ (j : Nat) (u : Value), [v][j]? = some u → ((X.alloc (.cells #[v] t)).drewN n).cell? ((⟨g, 0, none⟩ : Addr).add j) = some u := one_new X v t g hg
theorem grown_frozen {w w' : World} {row : Option Nat} (hg : w.grownBy w' row) {a : Addr} (hl : a.block < w.heap.size) (h : w.frozen? a = false) (hne : some a.block ≠ row) : w'.frozen? a = false :=
  (World.frozen?_of_block (hg.block a.block hl hne)).trans h

/-- Only blocks of S have turned among the old ones. -/
structure Only (S : Nat → Prop) (w w' : World) : Prop where
  os : w'.os = w.os
  tape : w'.tape = w.tape
  output : w'.output = w.output
  size : w.heap.size ≤ w'.heap.size
  block : ∀ k, k < w.heap.size → ¬ S k → w'.heap[k]? = w.heap[k]?

theorem Only.refl (S : Nat → Prop) (w : World) : Only S w w := ⟨rfl, rfl, rfl, Nat.le_refl _, fun _ _ _ => rfl⟩
theorem Only.trans {S : Nat → Prop} {a b c : World} (h : Only S a b) (k : Only S b c) : Only S a c :=
  ⟨k.os.trans h.os, k.tape.trans h.tape, k.output.trans h.output, Nat.le_trans h.size k.size, fun i hi hn => (k.block i (Nat.lt_of_lt_of_le hi h.size) hn).trans (h.block i hi hn)⟩
theorem Only.mono {S T : Nat → Prop} {a b : World} (h : Only S a b) (hs : ∀ k, k < a.heap.size → S k → T k) : Only T a b :=
  ⟨h.os, h.tape, h.output, h.size, fun i hi hn => h.block i hi (fun s => hn (hs i hi s))⟩
theorem Only.drewN {S : Nat → Prop} {a b : World} (h : Only S a b) (n : Nat) : Only S a (b.drewN n) := ⟨h.os, h.tape, h.output, h.size, h.block⟩
theorem Only.drew {S : Nat → Prop} {a b : World} (h : Only S a b) : Only S a b.drew := ⟨h.os, h.tape, h.output, h.size, h.block⟩
theorem Only.alloc {S : Nat → Prop} {a b : World} (h : Only S a b) (o : Obj) : Only S a (b.alloc o) :=
  ⟨h.os, h.tape, h.output, Nat.le_trans h.size (by simp), fun i hi hn => (Below.heap_alloc _ _ _ (Nat.lt_of_lt_of_le hi h.size)).trans (h.block i hi hn)⟩
theorem Only.setCell {S : Nat → Prop} {a b : World} (h : Only S a b) (p : Addr) (u : Value) (hp : p.block < a.heap.size → S p.block) : Only S a (b.setCell p u) :=
  ⟨h.os, h.tape, h.output, Nat.le_trans h.size (by simp [World.setCell]), fun i hi hn => (Below.heap_setCell _ _ _ _ (fun e => hn (by rw [e]; exact hp (by omega)))).trans (h.block i hi hn)⟩
theorem Only.of_grown {S : Nat → Prop} {a b : World} {row : Option Nat} (h : a.grownBy b row) (hr : ∀ k, row = some k → S k) : Only S a b :=
  ⟨h.os, h.tape, h.output, h.size, fun i hi hn => h.block i hi (fun e => hn (hr i e.symm))⟩
theorem Only.below {S : Nat → Prop} {B : Nat} {a b : World} (h : Only S a b) (hB : B ≤ a.heap.size) (hs : ∀ k, S k → B ≤ k) : Below B a b :=
  ⟨h.os, h.tape, h.output, h.size, fun k hk => h.block k (by omega) (fun s => by have := hs k s; omega)⟩
theorem Only.of_below {B : Nat} {a b : World} (h : Below B a b) : Only (fun k => B ≤ k) a b := ⟨h.os, h.tape, h.output, h.size, fun k _ hn => h.block k (by omega)⟩

end Go.Proofs.Ybulkecis.Own

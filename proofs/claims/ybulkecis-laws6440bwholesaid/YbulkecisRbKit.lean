/-
  rebuild: the propagator's cells, the start, the end.
-/
import Derived.Test.YbulkecisRbState
namespace Go.Proofs.Ybulkecis
open Go.RowKit _root_.Go.Proofs.Ybulkecis.Own
set_option linter.unusedVariables false

/-- The cells that stay. -/
structure Fk (f : Nat → Value) (bb q : Nat) (pv sv lv slv qdv : Value) (ap : Option Addr) (cp : Nat) : Prop where
  k1 : f 1 = .slice none 0 0
  k5 : f 5 = pv
  k6 : f 6 = sv
  k7 : f 7 = lv
  k41 : f 41 = .slice ap q cp
  k47 : f 47 = qdv
  k48 : f 48 = .int .i64 0
  k49 : f 49 = .slice none 0 0
  k50 : f 50 = .int .i64 0
  k51 : f 51 = .slice none 0 0
  k57 : f 57 = slv
  k90 : f 90 = .int .i64 0
  k91 : f 91 = .int .i64 0
  k92 : f 92 = .bool false
  k93 : f 93 = .int .i64 0
  k94 : f 94 = .int .i64 0
  k95 : f 95 = .int .i64 0
  k96 : f 96 = .bool false
  k97 : f 97 = .int .i64 0
  k102 : f 102 = .slice none 0 0
  k103 : f 103 = .slice none 0 0
  k105 : f 105 = .slice none 0 0
  k110 : f 110 = .pointer (some ⟨bb, 0, none⟩)
theorem Fk.congr {f g : Nat → Value} {bb q : Nat} {pv sv lv slv qdv : Value} {ap : Option Addr} {cp : Nat} (h : Fk f bb q pv sv lv slv qdv ap cp) (e : ∀ k, k ≠ 46 → k ≠ 56 → k ≠ 100 → k ≠ 101 → k ≠ 104 → g k = f k) : Fk g bb q pv sv lv slv qdv ap cp := by
  constructor <;> rw [e _ (by decide) (by decide) (by decide) (by decide) (by decide)]
  · exact h.k1
  · exact h.k5
  · exact h.k6
  · exact h.k7
  · exact h.k41
  · exact h.k47
  · exact h.k48
  · exact h.k49
  · exact h.k50
  · exact h.k51
  · exact h.k57
  · exact h.k90
  · exact h.k91
  · exact h.k92
  · exact h.k93
  · exact h.k94
  · exact h.k95
  · exact h.k96
  · exact h.k97
  · exact h.k102
  · exact h.k103
  · exact h.k105
  · exact h.k110
theorem upd_self {f : Nat → Value} {i : Nat} {v : Value} (h : f i = v) : upd f i v = f := by
  funext k
  by_cases e : k = i
  · rw [e, upd_at, h]
  · rw [upd_ne _ _ e]
theorem upd_upd (f : Nat → Value) (i : Nat) (u v : Value) : upd (upd f i u) i v = upd f i v := by
  funext k
  by_cases e : k = i
  · rw [e, upd_at, upd_at]
  · rw [upd_ne _ _ e, upd_ne _ _ e, upd_ne _ _ e]
theorem Fk.u104 {f : Nat → Value} {bb q : Nat} {pv sv lv slv qdv : Value} {ap : Option Addr} {cp : Nat} (h : Fk f bb q pv sv lv slv qdv ap cp) (v : Value) : Fk (upd f 104 v) bb q pv sv lv slv qdv ap cp := h.congr fun k _ _ _ _ e => upd_ne _ _ e
theorem Fk.u56 {f : Nat → Value} {bb q : Nat} {pv sv lv slv qdv : Value} {ap : Option Addr} {cp : Nat} (h : Fk f bb q pv sv lv slv qdv ap cp) (v : Value) : Fk (upd f 56 v) bb q pv sv lv slv qdv ap cp := h.congr fun k _ e _ _ _ => upd_ne _ _ e
theorem Fk.u46 {f : Nat → Value} {bb q : Nat} {pv sv lv slv qdv : Value} {ap : Option Addr} {cp : Nat} (h : Fk f bb q pv sv lv slv qdv ap cp) (v : Value) : Fk (upd f 46 v) bb q pv sv lv slv qdv ap cp := h.congr fun k e _ _ _ _ => upd_ne _ _ e

theorem ltc {w : World} {b i : Nat} {v : Value} (h : w.cell? ⟨b, i, none⟩ = some v) : b < w.heap.size := by
  rcases Nat.lt_or_ge b w.heap.size with h' | h'
  · exact h'
  · simp [World.cell?, Array.getElem?_eq_none h'] at h
theorem Own.OwnV.block {w : World} {e : TypeId} {v : Value} {xs : List Value} {m : Nat} (h : OwnV w e v xs) (hm : xs.length = m) (h0 : 0 < m) : ∃ g c, v = .slice (some ⟨g, 0, none⟩) m c ∧ m ≤ c := by
  subst hm
  rcases h.form with ⟨_, e⟩ | ⟨g, c, e, _, h1, _⟩
  · rw [e] at h0; simp at h0
  · exact ⟨g, c, e, h1⟩
theorem take_ixo {th : List Nat} (hn : th.Nodup) {k : Nat} (hk : k < th.length) (v : Nat) : ixo (th.take (k + 1)) v = if v = th[k] then (k : Int) else ixo (th.take k) v := by
  rw [take_snoc' th k hk, ixo_snoc]
  · rw [List.length_take, Nat.min_eq_left (by omega)]
  · intro h
    have h2 := List.Sublist.nodup (List.take_sublist (k + 1) th) hn
    rw [take_snoc' th k hk, List.nodup_append] at h2
    exact h2.2.2 _ h _ (by simp) rfl
theorem two_newD (X : World) (u v : Value) (t : TypeId) (g : Nat) (hg : g = X.heap.size) : ∀ (j : Nat) (z : Value), [u, v][j]? = some z → (X.alloc (.cells #[u, v] t)).drew.cell? ((⟨g, 0, none⟩ : Addr).add j) = some z := two_new X u v t g hg
theorem OwnA.drew {w : World} {v : Value} {al : List (Nat × Nat)} (h : OwnA w v al) : OwnA w.drew v al := h.frame fun _ _ => rfl
theorem OwnA.arcs {w : World} {ao : Option Addr} {R c : Nat} {al : List (Nat × Nat)} (h : OwnA w (.slice ao R c) al) (hR : al.length = R) : Arcs w ao R (fun r => (al.getD r (0, 0)).1) (fun r => (al.getD r (0, 0)).2) := ⟨fun h0 => by
  subst hR
  rcases h.form with ⟨_, h1⟩ | ⟨g, cap, h1, _, _, _, h2⟩
  · rw [h1] at h0; simp at h0
  · cases h1
    refine ⟨g, rfl, h2, fun r hr => ?_⟩
    have h3 := h.cell hr
    rw [show al.getD r (0, 0) = al[r] by rw [List.getD_eq_getElem?_getD, List.getElem?_eq_getElem hr]; rfl]
    exact h3⟩
theorem mt_arcs (al : List (Nat × Nat)) {R : Nat} (hR : al.length = R) (u s : Nat) : mt al u s = true ↔ ∃ r, r < R ∧ (al.getD r (0, 0)).1 = u ∧ (al.getD r (0, 0)).2 = s := by
  subst hR
  unfold mt
  rw [decide_eq_true_iff, List.mem_iff_getElem]
  constructor
  · rintro ⟨r, hr, e⟩
    refine ⟨r, hr, ?_⟩
    rw [show al.getD r (0, 0) = al[r] by rw [List.getD_eq_getElem?_getD, List.getElem?_eq_getElem hr]; rfl, e]
    exact ⟨rfl, rfl⟩
  · rintro ⟨r, hr, e1, e2⟩
    rw [show al.getD r (0, 0) = al[r] by rw [List.getD_eq_getElem?_getD, List.getElem?_eq_getElem hr]; rfl] at e1 e2
    exact ⟨r, hr, Prod.ext e1 e2⟩
theorem arcs_bd {al : List (Nat × Nat)} {R t : Nat} (hR : al.length = R) (h : ∀ p, p ∈ al → p.1 < t ∧ p.2 < t) : (∀ r, r < R → (al.getD r (0, 0)).1 < t) ∧ ∀ r, r < R → (al.getD r (0, 0)).2 < t := by
  subst hR
  have key : ∀ r, r < al.length → (al.getD r (0, 0)).1 < t ∧ (al.getD r (0, 0)).2 < t := fun r hr => by
    rw [show al.getD r (0, 0) = al[r] by rw [List.getD_eq_getElem?_getD, List.getElem?_eq_getElem hr]; rfl]
    exact h _ (List.getElem_mem hr)
  exact ⟨fun r hr => (key r hr).1, fun r hr => (key r hr).2⟩
/-- What rebuild only reads, without its own boxes. -/
structure St0 (w : World) (b bb : Nat) (slv qdv quv : Value) (n : Nat) (O : Nat → List Nat) (th : List Nat) (pv sv lv tv : Value) : Prop where
  po : OwnV w 3 pv (il n fun i => (i : Int))
  st : OwnV w 3 sv (il (n + 1) fun v => (tot (fun v => (O v).length) v : Nat))
  li : OwnV w 3 lv (ol (flat O n))
  th : OwnV w 3 tv (ol th)
  np : ∀ g, pv.ownBlock = some g → ¬ Wk b bb slv qdv quv g
  ns : ∀ g, sv.ownBlock = some g → ¬ Wk b bb slv qdv quv g
  nl : ∀ g, lv.ownBlock = some g → ¬ Wk b bb slv qdv quv g
  nt : ∀ g, tv.ownBlock = some g → ¬ Wk b bb slv qdv quv g
/-- The two boxes. -/
theorem St0.open {w w0 : World} {b bb : Nat} {slv qdv quv : Value} {n : Nat} {O : Nat → List Nat} {th : List Nat} {pv sv lv tv : Value} (h : St0 w b bb slv qdv quv n O th pv sv lv tv) (hb : Below w.heap.size w w0) (hw : ∀ k, Wk b bb slv qdv quv k → k < w.heap.size) {B0 B1 : Nat} (h0 : w.heap.size ≤ B0) (h1 : w.heap.size ≤ B1)
    (bx : w0.cell? ⟨B0, 0, none⟩ = some (.pointer (some ⟨b, 0, none⟩))) (ox : w0.cell? ⟨B1, 0, none⟩ = some (.slice none 0 0)) : St w0 b bb slv qdv quv B0 B1 n O th pv sv lv tv :=
  ⟨bx, ox, ltc bx, ltc ox, h.po.frame fun g hg => hb.block g (h.po.lt hg), h.st.frame fun g hg => hb.block g (h.st.lt hg), h.li.frame fun g hg => hb.block g (h.li.lt hg), h.th.frame fun g hg => hb.block g (h.th.lt hg),
   fun k => by have := hw _ k; omega, fun k => by have := hw _ k; omega, h.np, h.ns, h.nl, h.nt⟩
section
variable {w wr w0 : World} {b bb n q : Nat} {slv qdv quv0 : Value} {f : Nat → Value} {S : Nat → Int} {kb : Int} {B : Nat → Bool} {quv : Value} {ql : List Value}
theorem Rs.lt (h : Rs w w b bb n q slv qdv quv0 f S kb B quv0 ql) : ∀ k, Wk b bb slv qdv quv0 k → k < w.heap.size := by
  rintro k (e | e | e | e | e)
  · rw [e]; exact h.lb
  · rw [e]; exact h.lbb
  · exact h.ls k e
  · exact h.ld k e
  · exact h.qu.lt e
/-- The state seen from a later start. -/
theorem Rs.open (h : Rs w w b bb n q slv qdv quv0 f S kb B quv0 ql) (hb : Below w.heap.size w w0) : Rs w0 w0 b bb n q slv qdv quv0 f S kb B quv0 ql := by
  have h1 := h.below hb
  have hs := hb.size
  exact ⟨Only.refl _ _, h1.pg, h1.bc, h1.bf, Nat.lt_of_lt_of_le h1.lb hs, Nat.lt_of_lt_of_le h1.lbb hs, h1.sl, h1.qd, h1.qu, fun g hg => Nat.lt_of_lt_of_le (h1.ls g hg) hs, fun g hg => Nat.lt_of_lt_of_le (h1.ld g hg) hs, fun g hg => .inl hg⟩
/-- And back. -/
theorem Rs.back (h : Rs w0 wr b bb n q slv qdv quv0 f S kb B quv ql) (hb : Below w.heap.size w w0) (hw : ∀ k, Wk b bb slv qdv quv0 k → k < w.heap.size) : Rs w wr b bb n q slv qdv quv0 f S kb B quv ql :=
  ⟨((Only.of_below hb).mono (T := Wk b bb slv qdv quv0) fun k h1 h2 => by omega).next h.onl fun _ _ t => t, h.pg, h.bc, h.bf, hw b (.inl rfl), hw bb (.inr (.inl rfl)), h.sl, h.qd, h.qu, fun g hg => hw g (.inr (.inr (.inl hg))), fun g hg => hw g (.inr (.inr (.inr (.inl hg)))), fun g hg => by
    rcases h.qb g hg with s | s
    · exact .inl s
    · have := hb.size; exact .inr (by omega)⟩
end

/-- append of one number, as it runs. -/
theorem run_append_1 (w : World) (v : Value) (xs : List Value) (hown : OwnV w 3 v xs) (a : Addr) (c : Nat) (x : Value) (h1 : x.oneCell' = true) (hnews : ∀ j u, [x][j]? = some u → w.cell? (a.add j) = some u) (hlen : xs.length ≤ 1000000) :
    ∃ g cap w', (Builtin.append_ #[22, 22] 22 #[v, .slice (some a) 1 c]).run Yba.prog w = .ok (.slice (some ⟨g, 0, none⟩) (xs.length + 1) cap) w' ∧ OwnV w' 3 (.slice (some ⟨g, 0, none⟩) (xs.length + 1) cap) (xs ++ [x]) ∧ w.grownBy w' v.ownBlock ∧ (v.ownBlock = some g ∨ w.heap.size ≤ g) := by
  obtain ⟨i3, a3, b3, c3, d3⟩ := info_parts info3
  obtain ⟨v', w', hr, h2, h3, h4, h5⟩ := run_append_v (P := Yba.prog) w 22 22 3 i3 (.int .i64 0) 8 Yba.underlying22 a3 b3 c3 d3 rfl v xs hown a 1 c [x] rfl hnews (by intro u hu; simp at hu; subst hu; exact h1) (by unfold maxLen; omega) (by omega)
  obtain ⟨g, cap, rfl, hp, hc⟩ := v_form h2 rfl (by simp) h4
  exact ⟨g, cap, w', hr, h2, h3, hp⟩
theorem one_newD (X : World) (v : Value) (t : TypeId) (g : Nat) (hg : g = X.heap.size) : ∀ (j : Nat) (u : Value), [v][j]? = some u → (X.alloc (.cells #[v] t)).drew.cell? ((⟨g, 0, none⟩ : Addr).add j) = some u := one_new X v t g hg
theorem ol_il (l : List Nat) : ol l = il l.length fun j => ((l.getD j 0 : Nat) : Int) := by
  apply List.ext_getElem?
  intro k
  by_cases hk : k < l.length
  · rw [ol_get hk, il_get hk, List.getD_eq_getElem?_getD, List.getElem?_eq_getElem hk]; rfl
  · rw [List.getElem?_eq_none (by rw [ol_len]; omega), List.getElem?_eq_none (by rw [il_len]; omega)]
theorem map_il (os th : List Nat) : ol (os.map fun i => th.getD i 0) = il os.length fun j => ((th.getD (os.getD j 0) 0 : Nat) : Int) := by
  rw [ol_il, List.length_map]
  exact il_ext fun i hi => by
    have e1 : (os.map fun i => th.getD i 0).getD i 0 = th.getD os[i] 0 := by
      rw [List.getD_eq_getElem?_getD, List.getElem?_map, List.getElem?_eq_getElem hi]; rfl
    have e2 : os.getD i 0 = os[i] := by rw [List.getD_eq_getElem?_getD, List.getElem?_eq_getElem hi]; rfl
    rw [e1, e2]
theorem getD_mem {l : List Nat} {k : Nat} (h : k < l.length) : l.getD k 0 ∈ l := by
  rw [List.getD_eq_getElem?_getD, List.getElem?_eq_getElem h]; exact List.getElem_mem h
/-- A slot of the list is emptied. -/
theorem drop_next {l : List Nat} {k n : Nat} {S : Nat → Int} (hk : k < l.length) (h : ∀ u, u < n → u ∉ l.drop k → S u = -1) : ∀ u, u < n → u ∉ l.drop (k + 1) → (if u = l[k] then -1 else S u) = -1 := by
  intro u hu hn
  by_cases e : u = l[k]
  · rw [if_pos e]
  · rw [if_neg e]
    refine h u hu fun hm => ?_
    rw [List.drop_eq_getElem_cons hk] at hm
    rcases List.mem_cons.1 hm with hm | hm
    · exact e hm
    · exact hn hm

theorem resize_int0 (w : World) : Calls Yba.prog 8 #[.slice none 0 0, .int .i64 0] w fun e w' => e = .returned (.slice none 0 0) ∧ w' = w := by
  go_enter Yba.func8, Yba.ntmps8
  go_wp2_with fail
  go_ret
  exact ⟨rfl, rfl⟩
theorem resize_bool0 (w : World) : Calls Yba.prog 10 #[.slice none 0 0, .int .i64 0] w fun e w' => e = .returned (.slice none 0 0) ∧ w' = w := by
  go_enter Yba.func10, Yba.ntmps10
  go_wp2_with fail
  go_ret
  exact ⟨rfl, rfl⟩

/-- What rebuild leaves. -/
structure Rb (w w' : World) (b bb n q : Nat) (slv qdv quv tv : Value) (B : Nat → Bool) (ql : List Value) (O : Nat → List Nat) (th os : List Nat) (pv sv lv : Value) (ap : Option Addr) (cp : Nat) (f' : Nat → Value) (av : Value) (B' : Nat → Bool) (quv' : Value) (ql' : List Value) : Prop where
  rs : Rs w w' b bb n q slv qdv quv f' (fun _ => -1) (16 * ((th.length : Int) + ((arcsA O th th.length).length : Int))) B' quv' ql'
  fk : Fk f' bb q pv sv lv slv qdv ap cp
  k104 : f' 104 = av
  k46 : f' 46 = quv'
  arcs : OwnA w' av (arcsA O th th.length)
  fa : ∀ g, av.ownBlock = some g → w.heap.size ≤ g
  no : os.length ≠ th.length → f' 56 = tv ∧ B' = B ∧ quv' = quv ∧ ql' = ql
  yes : os.length = th.length → (∃ ov, f' 56 = ov ∧ OwnV w' 3 ov (ol (os.map fun i => th.getD i 0))) ∧ (∀ i, i < q → B' i = true) ∧ ql' = ql ++ ol (unq B q)
end Go.Proofs.Ybulkecis

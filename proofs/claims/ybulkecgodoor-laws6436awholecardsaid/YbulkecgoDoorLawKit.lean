/-
  What the law's own walk needs: slices that came in, copies of them, plan for every number of values.
-/
import Derived.Test.YbulkecgoDoorPlanZero
import Derived.Laws.CopyOwn
namespace Go.Proofs.YbulkecgoDoor
open Go.RowKit Go.Shelf _root_.Go.Proofs.YbulkecgoDoor.Own
set_option linter.unusedVariables false
set_option maxRecDepth 100000

/-- A slice that came in, its elements one cell each. -/
structure Src (w : World) (a0 : Option Addr) (L : Nat) (cs : List Value) : Prop where
  len : cs.length = L
  at' : 0 < L → ∃ b o, a0 = some ⟨b, o, none⟩ ∧ ∀ j v, cs[j]? = some v → w.cell? ⟨b, o + j, none⟩ = some v
  one : ∀ v ∈ cs, v.oneCell' = true
theorem Src.below {w w' : World} {a0 : Option Addr} {L : Nat} {cs : List Value} (h : Src w a0 L cs) (hb : Below w.heap.size w w') : Src w' a0 L cs := by
  refine ⟨h.len, fun h0 => ?_, h.one⟩
  obtain ⟨b, o, ha, hc⟩ := h.at' h0
  exact ⟨b, o, ha, fun j v hj => (hb.cell (World.block_lt_of_cell? w _ (hc j v hj))).trans (hc j v hj)⟩
theorem Src.pos {w : World} {a0 : Option Addr} {L : Nat} {cs : List Value} (h : Src w a0 L cs) {dp : Option Addr} {g : Nat} (hd : dp = some ⟨g, 0, none⟩) : 0 < cs.length → dp = some ⟨g, 0, none⟩ ∧ ∃ ad, a0 = some ad ∧ ∀ j v, cs[j]? = some v → w.cell? (ad.add j) = some v := by
  intro h0
  obtain ⟨b, o, ha, hc⟩ := h.at' (by rw [← h.len]; exact h0)
  refine ⟨hd, _, ha, fun j v hj => ?_⟩
  rw [Go.WideShapes.add_plain]
  exact hc j v hj

/-- A copy of it in memory of its own, nil where it was nil. -/
def Cop (wr : World) (B : Nat) (t : TypeId) (a0 : Option Addr) (L : Nat) (cs : List Value) (x : Value) : Prop :=
  ∃ a' g, x = .slice a' L L ∧ ((a' = none ∧ a0 = none ∧ L = 0) ∨ (a' = some ⟨g, 0, none⟩ ∧ a0 ≠ none ∧ B ≤ g ∧ g < wr.heap.size ∧ wr.heap[g]? = some (.cells cs.toArray t (0, 0))))
theorem splice_all (cs : List Value) (z : Value) : splice (List.replicate cs.length z) 0 cs = cs := by
  unfold splice; simp

theorem eq24 (a : Option Addr) (n c : Nat) (w : World) : (binOp .eql 24 (.slice a n c) (.slice none 0 0)).run Ybad.prog w = .ok (.bool a.isNone) w := Lib.run_eql_slice_nil w 24 2 a n c 0 0 Ybad.underlying24
theorem eq29 (a : Option Addr) (n c : Nat) (w : World) : (binOp .eql 29 (.slice a n c) (.slice none 0 0)).run Ybad.prog w = .ok (.bool a.isNone) w := Lib.run_eql_slice_nil w 29 3 a n c 0 0 Ybad.underlying29
theorem neq24 (a : Option Addr) (n c : Nat) (w : World) : (binOp .neq 24 (.slice a n c) (.slice none 0 0)).run Ybad.prog w = .ok (.bool !a.isNone) w := by
  have h := eq24 a n c w
  simp only [binOp] at h ⊢
  cases hh : Sem.run Ybad.prog (Op.equal 24 (.slice a n c) (.slice none 0 0)) w <;> simp_all
theorem neq29 (a : Option Addr) (n c : Nat) (w : World) : (binOp .neq 29 (.slice a n c) (.slice none 0 0)).run Ybad.prog w = .ok (.bool !a.isNone) w := by
  have h := eq29 a n c w
  simp only [binOp] at h ⊢
  cases hh : Sem.run Ybad.prog (Op.equal 29 (.slice a n c) (.slice none 0 0)) w <;> simp_all
theorem neq23 (a : Option Addr) (n c : Nat) (w : World) : (binOp .neq 23 (.slice a n c) (.slice none 0 0)).run Ybad.prog w = .ok (.bool !a.isNone) w := by
  have h := eq23 a n c w
  simp only [binOp] at h ⊢
  cases hh : Sem.run Ybad.prog (Op.equal 23 (.slice a n c) (.slice none 0 0)) w <;> simp_all
theorem siz25 : (Ybad.prog.info? 25).map (·.size) = some 1 := by kernel_rfl
theorem siz2 : (Ybad.prog.info? 2).map (·.size) = some 1 := by kernel_rfl
theorem siz3 : (Ybad.prog.info? 3).map (·.size) = some 1 := by kernel_rfl

theorem wpList_make_h {P : Program} (w : World) {ops : Array Oper} {rest : List Oper} {o : Oper} {a : Act} {Q : Exit → Act → World → Prop}
    (hg : o.guard = none) (l c : Operand) (t : TypeId) (hop : o.op = Op.makeSlice t l c)
    (e : TypeId) (i : TypeInfo) (z : Value) (h1 : P.underlying t = some (.slice e)) (h2 : P.info? e = some i) (h3 : i.zero = some z) (h4 : i.size = 1) (h5 : i.bytes = 8) (hzc : z.cells = #[z])
    (n : Nat) (hl : a.eval l = .int .i64 (n : Int)) (hc : a.eval c = .int .i64 (n : Int)) (hn : n ≤ 65536)
    (hK : ∀ w', Hid (w'.heap[w.heap.size]? = some (.cells (List.replicate n z).toArray e (0, 0))) → Below w.heap.size w w' → w'.heap.size = w.heap.size + 1 → wpList P ops Q rest (a.put o.dst (.slice (some ⟨w.heap.size, 0, none⟩) n n)) w') :
    wpList P ops Q (o :: rest) a w := by
  refine wpList_make_v w hg l c t hop e i z h1 h2 h3 h4 hzc .i64 .i64 n n n n hl hc rfl rfl (Nat.le_refl _) (by rw [h5]; omega) (by omega) ?_
  exact hK _ (heap_alloc_new w _) ((Below.refl _ w).alloc (Nat.le_refl _) _) (by simp)

/-- The receiver and what hangs on it, as the law reads it behind plan. -/
structure Aft (w : World) (sb gi eg n m : Nat) (ai ae : Option Addr) (ci ce : Nat) (R : Nat → Int) (E : Nat → Nat) (z0 z1 z2 z5 : Value) : Prop where
  ints : 0 < n → ai = some ⟨gi, 0, none⟩
  exc : 0 < m → ae = some ⟨eg, 0, none⟩
  row : Row w gi 0 n R
  rox : Row w eg 0 m (fun j => E j)
  c0 : w.cell? ⟨sb, 0, none⟩ = some z0
  c1 : w.cell? ⟨sb, 1, none⟩ = some z1
  c2 : w.cell? ⟨sb, 2, none⟩ = some z2
  c3 : w.cell? ⟨sb, 3, none⟩ = some (.slice ai n ci)
  c4 : w.cell? ⟨sb, 4, none⟩ = some (.slice ae m ce)
  c5 : w.cell? ⟨sb, 5, none⟩ = some z5
theorem cell_later {w w' : World} (hb : Below w.heap.size w w') {a : Addr} {v : Value} (h : w.cell? a = some v) : w'.cell? a = some v := (hb.cell (World.block_lt_of_cell? w _ h)).trans h
theorem Row.later {w w' : World} {b o n : Nat} {D : Nat → Int} (h : Row w b o n D) (hb : Below w.heap.size w w') : Row w' b o n D := fun i hi => cell_later hb (h i hi)
theorem Aft.later {w w' : World} {sb gi eg n m : Nat} {ai ae : Option Addr} {ci ce : Nat} {R : Nat → Int} {E : Nat → Nat} {z0 z1 z2 z5 : Value} (h : Aft w sb gi eg n m ai ae ci ce R E z0 z1 z2 z5) (hb : Below w.heap.size w w') : Aft w' sb gi eg n m ai ae ci ce R E z0 z1 z2 z5 :=
  ⟨h.ints, h.exc, h.row.later hb, h.rox.later hb, cell_later hb h.c0, cell_later hb h.c1, cell_later hb h.c2, cell_later hb h.c3, cell_later hb h.c4, cell_later hb h.c5⟩

/-- What plan leaves, for every number of values. -/
def PlanAll (w w' : World) (e : Ending) (B0 sb n : Nat) (V : Nat → Nat) (k : Nat) (lim : Int) (E0 : Nat → Int) (ia ea : Option Addr) (vv u0 u1 u2 u5 : Value) : Prop :=
  ∃ (ai ae : Option Addr) (ci ce gi eg : Nat), (ai = none ↔ ia = none ∧ n = 0) ∧ Below B0 w w' ∧
    ((∃ i, i < n ∧ StopAt V k lim i ∧ (∀ j, j < i → ¬ StopAt V k lim j) ∧ e = .returned (.bool false) ∧ (ae = none ↔ ea = none ∧ exs V k (i + 1) = []) ∧
        Aft w' sb gi eg n (exs V k (i + 1)).length ai ae ci ce (mixR V k E0 i) (exE V k (i + 1)) u0 u1 u2 u5) ∨
     ((∀ j, j < n → ¬ StopAt V k lim j) ∧ (ae = none ↔ ea = none ∧ exs V k n = []) ∧
        e = .returned (.bool (decide (((best (bas V k) n (min 2 n)).2 + exL (exE V k n) (exs V k n).length : Nat) < lim))) ∧
        Aft w' sb gi eg n (exs V k n).length ai ae ci ce (dd (bas V k) (best (bas V k) n (min 2 n)).1) (exE V k n) vv (.int .i64 k) (.int .i64 (best (bas V k) n (min 2 n)).1) (.int .i64 ((best (bas V k) n (min 2 n)).2 + exL (exE V k n) (exs V k n).length : Nat))))

theorem Fin.exc {w wr : World} {B0 sb gi n : Nat} {R : Nat → Int} {ev : Value} {V : Nat → Nat} {k m : Nat} {Sc : Nat → Value} (h : Fin w wr B0 sb gi n R ev (exV' V k m) Sc) (ea : Option Addr) (hnil : ev = .slice none 0 0 ↔ ea = none ∧ exs V k m = []) :
    ∃ ae ce eg, ev = .slice ae (exs V k m).length ce ∧ (ae = none ↔ ea = none ∧ exs V k m = []) ∧ (0 < (exs V k m).length → ae = some ⟨eg, 0, none⟩) ∧ Row wr eg 0 (exs V k m).length (fun j => exE V k m j) := by
  rcases h.own.form with ⟨hv, hx⟩ | ⟨g, c', hv, hb, _⟩
  · have h9 : (exV' V k m).length = 0 := by rw [hx]; rfl
    rw [exV'_len] at h9
    refine ⟨none, 0, 0, by rw [hv, h9], ?_, fun h => by omega, fun i hi => by omega⟩
    rw [← hnil, hv]
    simp
  · rw [exV'_len] at hv
    refine ⟨some ⟨g, 0, none⟩, c', g, hv, ?_, fun _ => rfl, fun i hi => ?_⟩
    · constructor
      · intro h; cases h
      · intro h; have := hnil.2 h; rw [hv] at this; cases this
    · rw [Nat.zero_add]
      subst hv
      have := h.own.cell (by rw [exV'_len]) (j := i) (by rw [exV'_len]; exact hi)
      rw [this]
      unfold exV' exE
      simp [hi]

theorem plan_any (w : World) (B0 sb n vc C X k : Nat) (va ia ea : Option Addr) (D0 : Nat → Int) (V : Nat → Nat) (csX : List Value) (lim : Int) (u0 u1 u2 u5 : Value) (gI gE : Nat)
    (hn : n ≤ 65536) (hnv : n ≤ vc) (hva : va = none → vc = 0) (hC : C ≤ 65536) (hXm : X ≤ 65536) (hXl : csX.length = X) (hk : k < 19) (hB2 : 2 < B0) (hB : B0 ≤ w.heap.size) (hsb : sb < w.heap.size) (hsb0 : B0 ≤ sb)
    (HV : 0 < n → ∃ vb vo, va = some ⟨vb, vo, none⟩ ∧ vb < B0 ∧ ∀ i, i < n → w.cell? ⟨vb, vo + i, none⟩ = some (.float .f64 (V i))) (HT : Tab w)
    (HU : ∀ q, q < 6 → w.cell? ⟨sb, q, none⟩ = some (if q = 0 then u0 else if q = 1 then u1 else if q = 2 then u2 else if q = 3 then .slice ia C C else if q = 4 then .slice ea X X else u5))
    (hfs : ∀ q, w.frozen? ⟨sb, q, none⟩ = false)
    (HI : (ia = none ∧ C = 0) ∨ (ia = some ⟨gI, 0, none⟩ ∧ B0 ≤ gI ∧ gI ≠ sb ∧ w.heap[gI]? = some (.cells ((List.range C).map fun i => Value.int .i64 (D0 i)).toArray 2 (0, 0))))
    (HE : (ea = none ∧ X = 0) ∨ (ea = some ⟨gE, 0, none⟩ ∧ B0 ≤ gE ∧ gE ≠ sb ∧ (ia = some ⟨gI, 0, none⟩ → gE ≠ gI) ∧ w.heap[gE]? = some (.cells csX.toArray 3 (0, 0)))) :
    Calls Ybad.prog 10 #[.pointer (some ⟨sb, 0, none⟩), .slice va n vc, .int .i64 k, .int .i64 lim] w fun e w' => PlanAll w w' e B0 sb n V k lim (old0 C D0) ia ea (.slice va n vc) u0 u1 u2 u5 := by
  have hea : ea = none → X = 0 := by
    intro h
    rcases HE with ⟨_, h'⟩ | ⟨h', _⟩
    · exact h'
    · rw [h'] at h; cases h
  have hia : ia = none → C = 0 := by
    intro h
    rcases HI with ⟨_, h'⟩ | ⟨h', _⟩
    · exact h'
    · rw [h'] at h; cases h
  by_cases hn0 : 0 < n
  · obtain ⟨vb, vo, rfl, hvb, hvc⟩ := HV hn0
    have hown : OwnV w 3 (.slice ea 0 X) [] := by
      rcases HE with ⟨rfl, rfl⟩ | ⟨rfl, h1, h2, h3, h4⟩
      · exact ⟨rfl, .inl ⟨rfl, rfl⟩⟩
      · exact ⟨rfl, .inr ⟨gE, X, csX.toArray, rfl, Nat.zero_le _, h4, Nat.zero_le _, by unfold maxLen; omega, by simpa using hXl, by simp⟩⟩
    refine (plan_walk w B0 sb vb vo n vc gI C X k ia ea D0 V lim u0 u1 u2 u5 hn0 hn hnv hC hk hvb hB2 hB hsb hvc HT hsb0 HU (HU 3 (by omega)) (HU 4 (by omega)) hfs hea ?_ hown ?_).mono ?_
    · rcases HI with h | ⟨rfl, h1, h2, h3⟩
      · exact .inl h
      · refine .inr ⟨rfl, fun i hi => ?_, fun q => frozen_of_row _ _ q _ _ h3, h1, lt_of_block h3, h2⟩
        rw [Nat.zero_add, cell_of_row w gI i _ _ _ h3]
        simp [hi]
    · intro g hg
      rcases HE with ⟨rfl, rfl⟩ | ⟨rfl, h1, h2, h3, h4⟩
      · cases hg
      · obtain rfl : gE = g := by simpa [Value.ownBlock] using hg
        exact ⟨h3, h2, h1⟩
    · rintro e w' ⟨gi, cap, ev, h1, h2, h⟩
      rcases h with ⟨i, hi, hs, hns, rfl, hnil, hF⟩ | ⟨hns, hnil, rfl, hF⟩
      · obtain ⟨ae, ce, eg, rfl, hx1, hx2, hx3⟩ := hF.exc ea hnil
        refine ⟨some ⟨gi, 0, none⟩, ae, cap, ce, gi, eg, ?_, hF.bel, .inl ⟨i, hi, hs, hns, rfl, hx1, fun _ => rfl, hx2, hF.row, hx3, hF.cs 0 (by omega), hF.cs 1 (by omega), hF.cs 2 (by omega), hF.cs 3 (by omega), hF.cs 4 (by omega), hF.cs 5 (by omega)⟩⟩
        constructor
        · intro h; cases h
        · rintro ⟨_, h⟩; omega
      · obtain ⟨ae, ce, eg, rfl, hx1, hx2, hx3⟩ := hF.exc ea hnil
        refine ⟨some ⟨gi, 0, none⟩, ae, cap, ce, gi, eg, ?_, hF.bel, .inr ⟨hns, hx1, rfl, fun _ => rfl, hx2, hF.row, hx3, hF.cs 0 (by omega), hF.cs 1 (by omega), hF.cs 2 (by omega), hF.cs 3 (by omega), hF.cs 4 (by omega), hF.cs 5 (by omega)⟩⟩
        constructor
        · intro h; cases h
        · rintro ⟨_, h⟩; omega
  · obtain rfl : n = 0 := by omega
    refine (plan_zero w B0 sb vc gI C X k va ia ea lim u0 u1 u2 u5 hC hB hsb hsb0 HU hfs ?_ hea hva).mono ?_
    · rcases HI with h | h
      · exact .inr h
      · exact .inl h.1
    · rintro e w' ⟨rfl, hb, hc⟩
      have hbest : best (bas V k) 0 (min 2 0) = (0, 1) := by
        show best (bas V k) 0 0 = _
        unfold best
        rw [dln_zero]
      have hex : exL (exE V k 0) (exs V k 0).length = 1 := by
        have : exE V k 0 = fun _ => 0 := by funext j; simp [exE, exs]
        rw [this]
        exact exL_zero
      refine ⟨ia, ea, C, X, 0, 0, by simp, hb, .inr ⟨fun j hj => by omega, by simp [exs], ?_, fun h => by omega, fun h => absurd h (by simp [exs]), fun i hi => by omega, fun i hi => by simp [exs] at hi, hc 0 (by omega), hc 1 (by omega), ?_, hc 3 (by omega), hc 4 (by omega), ?_⟩⟩
      · rw [hbest, hex]; rfl
      · rw [hbest]; exact hc 2 (by omega)
      · rw [hbest, hex]; exact hc 5 (by omega)
end Go.Proofs.YbulkecgoDoor

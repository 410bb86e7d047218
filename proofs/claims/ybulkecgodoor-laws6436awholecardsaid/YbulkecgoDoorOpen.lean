/-
  The row's arguments, opened: a slice of floats, of integers, the state; the tables out of the row's condition.
-/
import Derived.Test.YbulkecgoDoorLawKit
import Derived.Test.YbulkecgoDoorRows
import Derived.OpenShut
import Derived.ChangeOld
import Derived.Below
import Derived.Deep.Matrix
import Derived.LaidMore
import Derived.Lay
import Derived.Stop.Joined
namespace Go.Proofs.YbulkecgoDoor
open Go.ChangeShapes Go.WideShapes Go.ChangeAt Go.RowKit
set_option linter.unusedVariables false

def fl (n : Nat) (V : Nat → Nat) : List Value := (List.range n).map fun i => Value.float .f64 (V i)
def il (n : Nat) (D : Nat → Int) : List Value := (List.range n).map fun i => Value.int .i64 (D i)
theorem fl_len (n : Nat) (V : Nat → Nat) : (fl n V).length = n := by simp [fl]
theorem il_len (n : Nat) (D : Nat → Int) : (il n D).length = n := by simp [il]
theorem trod_float {H : Type} {enc : TypeId × Value → H} {P : Program} {w : World} {base : Nat} {sp : Nat → Bool} {held : Bool} {fuel : Nat} {t : TypeId} {k : FloatKind} {c : Value} {y : DataW H × List MemPlace}
    (ht : P.underlying t = some (.float k)) (h : DataW.trod enc P w base sp held fuel t [c] = some y) : ∃ n, c = .float k n ∧ y = (.lit (.float k n), []) ∧ (Lit.float k n).wf = true := by
  cases fuel with
  | zero => simp [DataW.trod] at h
  | succ fuel =>
    cases c <;> simp [DataW.trod, ht] at h
    rename_i k' n
    obtain ⟨⟨rfl, hw⟩, rfl⟩ := h
    exact ⟨n, rfl, rfl, hw⟩
theorem cells25 : Ybad.prog.cellsOf 25 = 1 := by kernel_rfl
theorem cells23 : Ybad.prog.cellsOf 23 = 1 := by kernel_rfl
theorem cells24 : Ybad.prog.cellsOf 24 = 1 := by kernel_rfl
theorem cells29 : Ybad.prog.cellsOf 29 = 1 := by kernel_rfl
theorem cells2 : Ybad.prog.cellsOf 2 = 1 := by kernel_rfl
theorem cells3 : Ybad.prog.cellsOf 3 = 1 := by kernel_rfl
theorem cells38 : Ybad.prog.cellsOf 38 = 6 := by kernel_rfl
noncomputable def bitsF : Value → Nat
  | .float _ b => b
  | _ => 0

section
variable {H : Type} {enc : TypeId × Value → H} {W : World} {fuel : Nat} {cs : List Value} {x : DataW H × List MemPlace}
/-- A slice of floats. -/
theorem open_floats (h : DataW.trod enc Ybad.prog W 0 (fun _ => true) true fuel 23 cs = some x) :
    ∃ (a : Option Addr) (n c : Nat) (V : Nat → Nat), cs = [.slice a n c] ∧ Src W a n (fl n V) ∧ n ≤ c ∧ (a = none → c = 0) ∧ ∀ i, i < n → V i < 18446744073709551616 := by
  rcases Deep.open_slice1 Ybad.underlying23 cells25 h with ⟨rfl, _⟩ | ⟨a, len, cap, m, k, F, D, Pl, rfl, _, hl, _, hm, _, hx⟩
  · exact ⟨none, 0, 0, fun _ => 0, rfl, ⟨rfl, fun h => absurd h (by omega), fun v hv => by simp [fl] at hv⟩, Nat.le_refl _, fun _ => rfl, fun i hi => absurd hi (by omega)⟩
  · have hm' : m = cap := by simpa using hm
    have hF : ∀ i, i < len → F i = .float .f64 (bitsF (F i)) ∧ bitsF (F i) < 18446744073709551616 := by
      intro i hi
      obtain ⟨b, hb, _, hw⟩ := trod_float Ybad.underlying25 (hx i (by omega)).2
      rw [hb]
      exact ⟨rfl, by simpa [Lit.wf, bitsF] using hw⟩
    refine ⟨some a, len, cap, fun i => bitsF (F i), rfl, ⟨fl_len _ _, fun h0 => ?_, fun v hv => ?_⟩, hl, (fun h => by cases h), fun i hi => (hF i hi).2⟩
    · obtain ⟨b, o, spot⟩ := a
      have g0 := (hx 0 (by omega)).1
      have hs : spot = none := by simpa [Addr.add] using World.cell?_spot g0
      subst hs
      refine ⟨b, o, rfl, fun j v hj => ?_⟩
      have hjl : j < len := by
        have := (List.getElem?_eq_some_iff.1 hj).1
        rwa [fl_len] at this
      have e : v = F j := by
        rw [(hF j hjl).1]
        have : (fl len fun i => bitsF (F i))[j]? = some (.float .f64 (bitsF (F j))) := by simp [fl, hjl]
        exact Option.some.inj (hj.symm.trans this)
      subst e
      have := (hx j (by omega)).1
      rwa [add_plain] at this
    · simp only [fl, List.mem_map] at hv
      obtain ⟨i, _, rfl⟩ := hv
      rfl
/-- A slice of integers (one cell each). -/
theorem open_i64s {t e : TypeId} (ht : Ybad.prog.underlying t = some (.slice e)) (he : Ybad.prog.underlying e = some (.int .i64)) (hc : Ybad.prog.cellsOf e = 1) (h : DataW.trod enc Ybad.prog W 0 (fun _ => true) true fuel t cs = some x) :
    ∃ (a : Option Addr) (n c : Nat) (D : Nat → Int), cs = [.slice a n c] ∧ Src W a n (il n D) ∧ n ≤ c ∧ (a = none → c = 0) ∧ ∀ i, i < n → -9223372036854775808 ≤ D i ∧ D i ≤ 9223372036854775807 := by
  rcases open_ints ht he hc h with ⟨rfl, _⟩ | ⟨a, len, cap, zs, rfl, _, hl, _, hz, _, hx, hwf⟩
  · exact ⟨none, 0, 0, fun _ => 0, rfl, ⟨rfl, fun h => absurd h (by omega), fun v hv => by simp [il] at hv⟩, Nat.le_refl _, fun _ => rfl, fun i hi => absurd hi (by omega)⟩
  · have hz' : zs.length = cap := by simpa using hz
    refine ⟨some a, len, cap, fun i => zs.getD i 0, rfl, ⟨il_len _ _, fun h0 => ?_, fun v hv => ?_⟩, hl, (fun h => by cases h), fun i hi => ?_⟩
    · obtain ⟨b, o, spot⟩ := a
      have g0 := hx 0 (by omega)
      have hs : spot = none := by simpa [Addr.add] using World.cell?_spot g0
      subst hs
      refine ⟨b, o, rfl, fun j v hj => ?_⟩
      have hjl : j < len := by
        have := (List.getElem?_eq_some_iff.1 hj).1
        rwa [il_len] at this
      have e : v = .int .i64 (zs.getD j 0) := by
        have : (il len fun i => zs.getD i 0)[j]? = some (.int .i64 (zs.getD j 0)) := by simp [il, hjl]
        exact Option.some.inj (hj.symm.trans this)
      subst e
      have := hx j (by omega)
      rwa [add_plain] at this
    · simp only [il, List.mem_map] at hv
      obtain ⟨i, _, rfl⟩ := hv
      rfl
    · have hm : zs.getD i 0 ∈ zs := by
        rw [List.getD, List.getElem?_eq_getElem (by omega : i < zs.length)]
        exact List.getElem_mem _
      have := hwf _ hm
      simp [Lit.wf, IntKind.min, IntKind.max] at this
      exact this
end

theorem state_type : ∃ fs : Array Field, Ybad.prog.underlying 38 = some (.struct fs) ∧ fs.toList.map (fun f => (f.type, f.offset)) = [(24, 0), (29, 1), (23, 2), (3, 3), (3, 4), (3, 5)] := ⟨_, Ybad.underlying38, by kernel_rfl⟩
theorem list6 {α : Type} (l : List α) (h : l.length = 6) : ∃ a b c d e f, l = [a, b, c, d, e, f] := by
  match l, h with
  | [a, b, c, d, e, f], _ => exact ⟨a, b, c, d, e, f, rfl⟩
/-- The state. -/
theorem open_state {H : Type} {enc : TypeId × Value → H} {W : World} {fuel : Nat} {cs : List Value} {x : DataW H × List MemPlace} (h : DataW.trod enc Ybad.prog W 0 (fun _ => true) true fuel 38 cs = some x) :
    ∃ (ia ea pa : Option Addr) (C ic X ec Y pc : Nat) (D0 D1 : Nat → Int) (VP : Nat → Nat) (S O Z : Int), cs = [.slice ia C ic, .slice ea X ec, .slice pa Y pc, .int .i64 S, .int .i64 O, .int .i64 Z] ∧
      Src W ia C (il C D0) ∧ Src W ea X (il X D1) ∧ Src W pa Y (fl Y VP) ∧ (ia = none → C = 0) ∧ (ea = none → X = 0) ∧ (pa = none → Y = 0) := by
  obtain ⟨fs, hu, hfs⟩ := state_type
  obtain ⟨xs, n, rfl, rfl, hlen, hxl, hfd⟩ := DataW.trod_struct hu h
  rw [cells38] at hlen
  have hfl : fs.size = 6 := by
    have := congrArg List.length hfs
    simpa using this
  obtain ⟨c0, c1, c2, c3, c4, c5, rfl⟩ := list6 cs hlen
  have fld : ∀ (i : Nat) t o, [(24, 0), (29, 1), (23, 2), (3, 3), (3, 4), (3, 5)][i]? = some (t, o) →
      DataW.trod enc Ybad.prog W 0 (fun _ => true) true n t (([c0, c1, c2, c3, c4, c5].drop o).take (Ybad.prog.cellsOf t)) = xs[i]? := by
    intro i t o hi
    rw [← hfs] at hi
    rw [List.getElem?_map] at hi
    match hf : fs.toList[i]?, hi with
    | some f, hi =>
      simp only [Option.map_some, Option.some.injEq, Prod.mk.injEq] at hi
      obtain ⟨rfl, rfl⟩ := hi
      exact hfd i f (by rw [← Array.getElem?_toList]; exact hf)
  have some' : ∀ i, i < 6 → ∃ y, xs[i]? = some y := fun i hi => ⟨xs[i]'(by omega), by simp⟩
  obtain ⟨y0, e0⟩ := some' 0 (by omega)
  obtain ⟨y1, e1⟩ := some' 1 (by omega)
  obtain ⟨y2, e2⟩ := some' 2 (by omega)
  obtain ⟨y3, e3⟩ := some' 3 (by omega)
  obtain ⟨y4, e4⟩ := some' 4 (by omega)
  obtain ⟨y5, e5⟩ := some' 5 (by omega)
  have t0 := (fld 0 24 0 rfl).trans e0
  have t1 := (fld 1 29 1 rfl).trans e1
  have t2 := (fld 2 23 2 rfl).trans e2
  have t3 := (fld 3 3 3 rfl).trans e3
  have t4 := (fld 4 3 4 rfl).trans e4
  have t5 := (fld 5 3 5 rfl).trans e5
  rw [cells24] at t0
  rw [cells29] at t1
  rw [cells23] at t2
  rw [cells3] at t3 t4 t5
  obtain ⟨ia, C, ic, D0, q0, g0, l0, m0, _⟩ := open_i64s Ybad.underlying24 Ybad.underlying2 cells2 t0
  obtain ⟨ea, X, ec, D1, q1, g1, l1, m1, _⟩ := open_i64s Ybad.underlying29 Ybad.underlying3 cells3 t1
  obtain ⟨pa, Y, pc, VP, q2, g2, l2, m2, _⟩ := open_floats t2
  obtain ⟨z3, q3, _, _⟩ := DataW.trod_int Ybad.underlying3 t3
  obtain ⟨z4, q4, _, _⟩ := DataW.trod_int Ybad.underlying3 t4
  obtain ⟨z5, q5, _, _⟩ := DataW.trod_int Ybad.underlying3 t5
  simp at q0 q1 q2 q3 q4 q5
  subst q0 q1 q2 q3 q4 q5
  exact ⟨ia, ea, pa, C, ic, X, ec, Y, pc, D0, D1, VP, z3, z4, z5, rfl, g0, g1, g2, fun h => by have := m0 h; omega, fun h => by have := m1 h; omega, fun h => by have := m2 h; omega⟩

/-- The tables' places. -/
theorem glob_tab : Ybad.prog.globalNamed "math.pow10tab" = some 2 := by kernel_rfl
theorem glob_pos : Ybad.prog.globalNamed "math.pow10postab32" = some 1 := by kernel_rfl
theorem type_tab : (Ybad.prog.globals[2]?).map (·.type) = some 71 := by kernel_rfl
theorem type_pos : (Ybad.prog.globals[1]?).map (·.type) = some 70 := by kernel_rfl
theorem float_at {H : Type} {enc : TypeId × Value → H} {W : World} {base : Nat} {sp : Nat → Bool} {held : Bool} {fuel : Nat} {t : TypeId} {n : Nat} {cs : List Value} {ds : List (DataW H)} {p : List MemPlace} (ht : Ybad.prog.underlying t = some (.array n 25))
    (h : DataW.trod enc Ybad.prog W base sp held fuel t cs = some (.agg ds, p)) {r : Nat} (hr : r < n) {z : Nat} (hz : ds[r]? = some (.lit (.float .f64 z))) : cs[r]? = some (.float .f64 z) := by
  obtain ⟨xs, m, _, ex, _, hl, hel⟩ := DataW.trod_array ht h
  have hE := hel r hr
  rw [cells25, Nat.mul_one, List.getElem?_eq_getElem (by omega)] at hE
  have e3 : (xs.map (·.1)) = ds := (DataW.agg.inj (Prod.mk.inj ex).1).symm
  have hlen : ((cs.drop r).take 1).length ≤ 1 := by simp; omega
  match hc : (cs.drop r).take 1, hlen with
  | [], _ =>
    rw [hc] at hE
    cases m with
    | zero => simp [DataW.trod] at hE
    | succ m => simp [DataW.trod, Ybad.underlying25] at hE
  | [c], _ =>
    rw [hc] at hE
    obtain ⟨z', rfl, e2, _⟩ := trod_float Ybad.underlying25 hE
    have e4 : (xs.map (·.1))[r]? = ds[r]? := by rw [e3]
    rw [List.getElem?_map, List.getElem?_eq_getElem (by omega : r < xs.length), e2, hz] at e4
    have hzz : z' = z := by simpa using e4
    have h0 : ((cs.drop r).take 1)[0]? = some (.float .f64 z') := by rw [hc]; rfl
    rw [← hzz]
    simpa using h0
theorem tab_of_laid {W : World} (h : laidMetH Ybad.prog [("math.pow10tab", Rows.laid_math_pow10tab), ("math.pow10postab32", Rows.laid_math_pow10postab32), ("math.pow10negtab32", Rows.laid_math_pow10negtab32)] W) : Tab W := by
  rw [MakeChecks.laidMetH_plain _ _ _ (by kernel_rfl)] at h
  obtain ⟨ps, ⟨g, t, cs, fuel, p, q, hg, ht, hv, hd, ⟨g1, t1, cs1, fuel1, p1, q1, hg1, ht1, hv1, hd1, _, _⟩, _⟩, _⟩ := h
  obtain rfl := Option.some.inj (glob_tab.symm.trans hg)
  obtain rfl := Option.some.inj (type_tab.symm.trans ht)
  obtain rfl := Option.some.inj (glob_pos.symm.trans hg1)
  obtain rfl := Option.some.inj (type_pos.symm.trans ht1)
  constructor
  · have h0 := float_at Ybad.underlying70 hd1 (r := 0) (by omega) (z := 4607182418800017408) rfl
    rw [World.var?_cell hg1 hv1 0]
    simpa using h0
  · intro j hj
    have h0 := float_at Ybad.underlying71 hd (r := j) (by omega) (z := p10 j) (by
      have : j = 0 ∨ j = 1 ∨ j = 2 ∨ j = 3 ∨ j = 4 ∨ j = 5 ∨ j = 6 ∨ j = 7 ∨ j = 8 ∨ j = 9 ∨ j = 10 ∨ j = 11 ∨ j = 12 ∨ j = 13 ∨ j = 14 ∨ j = 15 ∨ j = 16 ∨ j = 17 ∨ j = 18 := by omega
      rcases this with rfl | rfl | rfl | rfl | rfl | rfl | rfl | rfl | rfl | rfl | rfl | rfl | rfl | rfl | rfl | rfl | rfl | rfl | rfl <;> rfl)
    rw [World.var?_cell hg hv j]
    simpa using h0
end Go.Proofs.YbulkecgoDoor

/-
  THE LAW 'peerwell.LawS6442APart': the row.
-/
import Derived.Test.YbulkecjuLawWalk
import Derived.Test.YbulkecjuRows
import Derived.OpenShut
import Derived.ChangeOld
import Derived.Below
import Derived.SizedLaws
import Derived.Deep.Matrix
namespace Go.Proofs.Ybulkecju.lawS6442APart
open Go.ChangeShapes Go.WideShapes Go.ChangeAt Go.RowKit
set_option linter.unusedVariables false
theorem own : ownKnob Yba.prog.godebug = none := by kernel_rfl
theorem laidOut : laidOutB Yba.prog = true := by kernel_rfl
theorem bytes5 : Yba.prog.bytesOf 5 = 1 := by kernel_rfl
theorem bytes26 : Yba.prog.bytesOf 26 = 24 := by kernel_rfl

theorem weights_in {H : Type} {P : Program} {e : TypeId} : ∀ {l : List (DataW H)} {d : DataW H}, d ∈ l → ∀ n ∈ d.weights P e, n ∈ DataW.weightsAll P e l
  | d' :: r, d, hd, n, hn => by
    simp only [DataW.weightsAll, List.mem_append]
    rcases List.mem_cons.1 hd with rfl | h
    · exact Or.inl hn
    · exact Or.inr (weights_in h n hn)

theorem sized_field {H : Type} {P : Program} {t : TypeId} {fs : Array Field} {parts : List (DataW H)} (h : (DataW.weightsEach P [t] [DataW.agg parts]).all (· ≤ reachBytes) = true) (hu : P.underlying t = some (.struct fs))
    {j : Nat} {ft : TypeId} {d : DataW H} (hf : (fs.toList.map (·.type))[j]? = some ft) (hd : parts[j]? = some d) : (DataW.weights P ft d).all (· ≤ reachBytes) = true := by
  refine List.all_eq_true.2 fun y hy => List.all_eq_true.1 h y ?_
  simp only [DataW.weightsEach, DataW.weights, hu, List.append_nil]
  exact DataW.weights_mem_each hf hd y hy

/-- A [][]byte, opened. -/
theorem open_rows {H : Type} {enc : TypeId × Value → H} {W : World} {fuel : Nat} {cs : List Value} {x : DataW H × List MemPlace} (h : DataW.trod enc Yba.prog W 0 (fun _ => true) true fuel 22 cs = some x) (hw : (DataW.weights Yba.prog 22 x.1).all (· ≤ reachBytes) = true) :
    ∃ (v : Value) (hs : List Value) (ss : List (List Int)), cs = [v] ∧ Hdr W v hs ∧ hs.length ≤ 140737488351232 ∧ ∀ i, i < hs.length → Byt W (hs.getD i (.slice none 0 0)) (ss.getD i []) ∧ (ss.getD i []).length ≤ 140737488351232 := by
  rcases Deep.open_int_rows Yba.underlying22 Yba.underlying26 Yba.underlying5 (by kernel_rfl) (by kernel_rfl) h with ⟨rfl, _⟩ | ⟨a, len, cap, A, L, C, Z, rfl, _, hl, hm, rfl, hx⟩
  · exact ⟨_, [], [], rfl, ⟨none, 0, 0, rfl, rfl, Nat.le_refl _, by simp, fun _ => rfl, fun a ha => by cases ha⟩, by simp, fun i hi => absurd hi (by simp)⟩
  · have h1 := List.all_eq_true.1 hw ((len + (cap - len)) * 24) (by simp only [DataW.weights, Yba.underlying22, bytes26]; simp)
    have hlen : len ≤ 140737488351232 := by
      have : (len + (cap - len)) * 24 ≤ reachBytes := by simpa using h1
      unfold reachBytes at this
      omega
    refine ⟨_, (List.range len).map (fun r => .slice (A r) (L r) (C r)), (List.range len).map (fun r => (Z r).take (L r)), rfl, ⟨_, _, _, rfl, by simp, hl, hm, (fun e => by cases e), fun a' ha i hi => ?_⟩, by simpa using hlen, fun i hi => ?_⟩
    · cases ha
      rw [(hx i (by omega)).1]
      simp [hi]
    · have hi' : i < len := by simpa using hi
      obtain ⟨_, q1, q2, q3, q4, q5, q6⟩ := hx i (by omega)
      have e1 : ((List.range len).map (fun r => Value.slice (A r) (L r) (C r))).getD i (.slice none 0 0) = .slice (A i) (L i) (C i) := by simp [hi']
      have e2 : ((List.range len).map (fun r => (Z r).take (L r))).getD i [] = (Z i).take (L i) := by simp [hi']
      have hlt : ((Z i).take (L i)).length = L i := by simp; omega
      rw [e1, e2]
      refine ⟨⟨_, _, _, rfl, hlt.symm, q1, fun e => by have := q5 e; omega, fun a' ha j hj => ?_⟩, ?_⟩
      · rw [(q6 a' ha).2 j (by omega)]
        congr 2
        simp [hj]
      · rw [hlt]
        match hA : A i, q5 with
        | none, q5 => have := q5 rfl; omega
        | some a', _ =>
          have h2 := List.all_eq_true.1 hw (((lits .u8 ((Z i).take (L i)) : List (DataW H)).length + (lits .u8 ((Z i).drop (L i)) : List (DataW H)).length) * 1) (by
            simp only [DataW.weights, Yba.underlying22, List.mem_cons, List.mem_append]
            refine Or.inr (Or.inl (weights_in (d := Deep.intRow .u8 (A i) (L i) (Z i)) (List.mem_map.2 ⟨i, List.mem_range.2 hi', rfl⟩) _ ?_))
            rw [hA]
            simp only [Deep.intRow, DataW.weights, Yba.underlying26, bytes5]
            simp)
          have : ((Z i).take (L i)).length ≤ reachBytes := by
            simp only [lits, List.length_map, decide_eq_true_eq] at h2
            omega
          rw [hlt] at this
          unfold reachBytes at this
          omega

theorem state_type : ∃ fs : Array Field, Yba.prog.underlying 25 = some (.struct fs) ∧ fs.toList.map (fun f => (f.type, f.offset)) = [(22, 0), (22, 1), (3, 2), (4, 3), (4, 4), (23, 5), (23, 6), (4, 7), (4, 8), (23, 9), (23, 10), (4, 11), (4, 12)] := ⟨_, Yba.underlying25, by kernel_rfl⟩
theorem cells_all : Yba.prog.cellsOf 25 = 13 ∧ Yba.prog.cellsOf 22 = 1 ∧ Yba.prog.cellsOf 3 = 1 ∧ Yba.prog.cellsOf 4 = 1 ∧ Yba.prog.cellsOf 23 = 1 := ⟨by kernel_rfl, by kernel_rfl, by kernel_rfl, by kernel_rfl, by kernel_rfl⟩

theorem list13 {α : Type} (l : List α) (h : l.length = 13) : ∃ a b c d e f g i j k m n o, l = [a, b, c, d, e, f, g, i, j, k, m, n, o] := by
  match l, h with
  | [a, b, c, d, e, f, g, i, j, k, m, n, o], _ => exact ⟨a, b, c, d, e, f, g, i, j, k, m, n, o, rfl⟩

/-- The law's argument, opened. -/
theorem open_state {H : Type} {enc : TypeId × Value → H} {W : World} {fuel : Nat} {cs : List Value} {x : DataW H × List MemPlace} (h : DataW.trod enc Yba.prog W 0 (fun _ => true) true fuel 25 cs = some x) (hw : (DataW.weightsEach Yba.prog [25] [x.1]).all (· ≤ reachBytes) = true) :
    ∃ (sO sP : Value) (hO hP : List Value) (ssO ssP : List (List Int)) (wt : Int) (rel cl : Bool) (rd td : Int) (tl tm : Bool) (st tk : Int) (ak wa : Bool), cs = [sO, sP, .int .i64 wt, .bool rel, .bool cl, .int .u64 rd, .int .u64 td, .bool tl, .bool tm, .int .u64 st, .int .u64 tk, .bool ak, .bool wa] ∧
      Given W sO sP hO hP ssO ssP ∧ hO.length ≤ 140737488351232 ∧ hP.length ≤ 140737488351232 ∧ 0 ≤ rd ∧ rd < 18446744073709551616 := by
  obtain ⟨fs, hu, hfs⟩ := state_type
  obtain ⟨k25, k22, k3, k4, k23⟩ := cells_all
  obtain ⟨xs, n, rfl, rfl, hlen, hxl, hfd⟩ := DataW.trod_struct hu h
  rw [k25] at hlen
  have hfl : fs.size = 13 := by
    have := congrArg List.length hfs
    simpa using this
  obtain ⟨c0, c1, c2, c3, c4, c5, c6, c7, c8, c9, c10, c11, c12, rfl⟩ := list13 cs hlen
  have fld : ∀ (i : Nat) t o, [(22, 0), (22, 1), (3, 2), (4, 3), (4, 4), (23, 5), (23, 6), (4, 7), (4, 8), (23, 9), (23, 10), (4, 11), (4, 12)][i]? = some (t, o) →
      DataW.trod enc Yba.prog W 0 (fun _ => true) true n t (([c0, c1, c2, c3, c4, c5, c6, c7, c8, c9, c10, c11, c12].drop o).take (Yba.prog.cellsOf t)) = xs[i]? := by
    intro i t o hi
    rw [← hfs] at hi
    rw [List.getElem?_map] at hi
    match hf : fs.toList[i]?, hi with
    | some f, hi =>
      simp only [Option.map_some, Option.some.injEq, Prod.mk.injEq] at hi
      obtain ⟨rfl, rfl⟩ := hi
      exact hfd i f (by rw [← Array.getElem?_toList]; exact hf)
  have some' : ∀ i, i < 13 → ∃ y, xs[i]? = some y := fun i hi => ⟨xs[i]'(by omega), by simp⟩
  have typ : ∀ (i : Nat) t o, [(22, 0), (22, 1), (3, 2), (4, 3), (4, 4), (23, 5), (23, 6), (4, 7), (4, 8), (23, 9), (23, 10), (4, 11), (4, 12)][i]? = some (t, o) → (fs.toList.map (·.type))[i]? = some t := by
    intro i t o hi
    rw [← hfs] at hi
    rw [List.getElem?_map] at hi ⊢
    match hf : fs.toList[i]?, hi with
    | some f, hi =>
      simp only [Option.map_some, Option.some.injEq, Prod.mk.injEq] at hi ⊢
      exact hi.1
  have wgt : ∀ (i : Nat) t o y, [(22, 0), (22, 1), (3, 2), (4, 3), (4, 4), (23, 5), (23, 6), (4, 7), (4, 8), (23, 9), (23, 10), (4, 11), (4, 12)][i]? = some (t, o) → xs[i]? = some y → (DataW.weights Yba.prog t y.1).all (· ≤ reachBytes) = true := fun i t o y hi hy =>
    sized_field hw hu (typ i t o hi) (by rw [List.getElem?_map, hy]; rfl)
  obtain ⟨y0, e0⟩ := some' 0 (by omega)
  obtain ⟨y1, e1⟩ := some' 1 (by omega)
  obtain ⟨y2, e2⟩ := some' 2 (by omega)
  obtain ⟨y3, e3⟩ := some' 3 (by omega)
  obtain ⟨y4, e4⟩ := some' 4 (by omega)
  obtain ⟨y5, e5⟩ := some' 5 (by omega)
  obtain ⟨y6, e6⟩ := some' 6 (by omega)
  obtain ⟨y7, e7⟩ := some' 7 (by omega)
  obtain ⟨y8, e8⟩ := some' 8 (by omega)
  obtain ⟨y9, e9⟩ := some' 9 (by omega)
  obtain ⟨y10, e10⟩ := some' 10 (by omega)
  obtain ⟨y11, e11⟩ := some' 11 (by omega)
  obtain ⟨y12, e12⟩ := some' 12 (by omega)
  have t0 := (fld 0 22 0 rfl).trans e0
  have t1 := (fld 1 22 1 rfl).trans e1
  have t2 := (fld 2 3 2 rfl).trans e2
  have t3 := (fld 3 4 3 rfl).trans e3
  have t4 := (fld 4 4 4 rfl).trans e4
  have t5 := (fld 5 23 5 rfl).trans e5
  have t6 := (fld 6 23 6 rfl).trans e6
  have t7 := (fld 7 4 7 rfl).trans e7
  have t8 := (fld 8 4 8 rfl).trans e8
  have t9 := (fld 9 23 9 rfl).trans e9
  have t10 := (fld 10 23 10 rfl).trans e10
  have t11 := (fld 11 4 11 rfl).trans e11
  have t12 := (fld 12 4 12 rfl).trans e12
  rw [k22] at t0 t1
  rw [k3] at t2
  rw [k4] at t3 t4 t7 t8 t11 t12
  rw [k23] at t5 t6 t9 t10
  obtain ⟨v0, hO, ssO, q0, g0, l0, b0⟩ := open_rows t0 (wgt 0 22 0 y0 rfl e0)
  obtain ⟨v1, hP, ssP, q1, g1, l1, b1⟩ := open_rows t1 (wgt 1 22 1 y1 rfl e1)
  obtain ⟨z2, q2, _, w2⟩ := DataW.trod_int Yba.underlying3 t2
  obtain ⟨z3, q3, _⟩ := DataW.trod_bool Yba.underlying4 t3
  obtain ⟨z4, q4, _⟩ := DataW.trod_bool Yba.underlying4 t4
  obtain ⟨z5, q5, _, w5⟩ := DataW.trod_int Yba.underlying23 t5
  obtain ⟨z6, q6, _, w6⟩ := DataW.trod_int Yba.underlying23 t6
  obtain ⟨z7, q7, _⟩ := DataW.trod_bool Yba.underlying4 t7
  obtain ⟨z8, q8, _⟩ := DataW.trod_bool Yba.underlying4 t8
  obtain ⟨z9, q9, _, w9⟩ := DataW.trod_int Yba.underlying23 t9
  obtain ⟨z10, q10, _, w10⟩ := DataW.trod_int Yba.underlying23 t10
  obtain ⟨z11, q11, _⟩ := DataW.trod_bool Yba.underlying4 t11
  obtain ⟨z12, q12, _⟩ := DataW.trod_bool Yba.underlying4 t12
  simp at q0 q1 q2 q3 q4 q5 q6 q7 q8 q9 q10 q11 q12
  subst q0 q1 q2 q3 q4 q5 q6 q7 q8 q9 q10 q11 q12
  have hb := bounds_u64 w5
  exact ⟨_, _, hO, hP, ssO, ssP, z2, z3, z4, z5, z6, z7, z8, z9, z10, z11, z12, rfl, ⟨g0, g1, b0, b1⟩, l0, l1, by omega, by omega⟩

set_option maxRecDepth 100000 in
theorem lifted (os : Os) (started : os.Started) (H : Type) (enc : TypeId × Value → H) :
    ReturnsInHanded {} Yba.checked os 3 .any (Rows.lawS6442APartSpec.pre6 enc Yba.prog Yba.f3 Rows.lawS6442APartRow.domain false) (Rows.lawS6442APartSpec.post enc Yba.prog Yba.f3 false true false false) := by
  refine returnsInHanded_of_change_sized (C := Yba.checked) own started (by kernel_rfl) Yba.func3
    (ChangeSpec.witness6 (enc := enc) (C := Yba.checked) false ⟨#[], #[.agg #[.slice none 0 0, .slice none 0 0, .int .i64 0, .bool false, .bool false, .int .u64 0, .int .u64 0, .bool false, .bool false, .int .u64 0, .int .u64 0, .bool false, .bool false]], []⟩ 8 (by kernel_rfl) (by kernel_rfl) (by kernel_rfl) (by kernel_rfl)) ?_
  intro W base args ds gs before hval0 hW hcnd hsz0 _
  have hsz : (DataW.weightsEach Yba.prog (Yba.f3.params.toList ++ Rows.lawS6442APartSpec.plain.varTypes Yba.prog) (ds ++ gs)).all (· ≤ reachBytes) = true := hsz0
  have hval : ∀ (j : Nat) t v, Yba.f3.params[j]? = some t → args[j]? = some v → Value.okWide Yba.prog W .any base t v := hval0
  have hW' := hW
  obtain ⟨p, q, hA0, hV, rfl, hfz, hnd⟩ := hW
  have hA : DataW.TrodAll enc Yba.prog W 0 (fun _ => true) true Yba.f3.params.toList args.toList ds p := hA0
  rw [Yba.params3] at hA hval hsz
  obtain ⟨v0, vs0, d0, ds0, p0, q0, hargs, rfl, rfl, h0, r0⟩ := trodAll_cons hA
  obtain ⟨rfl, rfl, rfl⟩ := trodAll_nil r0
  obtain rfl : args = #[v0] := by cases args; simp_all
  obtain ⟨rfl, rfl⟩ := trodVars_none hV
  obtain ⟨cs, rfl, hcs⟩ := okWide_struct Yba.underlying25 (hval 0 25 v0 rfl rfl)
  have k0 := h0
  have lt0 : ∀ x ∈ p0, x.block < W.heap.size := by obtain ⟨m, hm⟩ := k0; exact DataW.trod_lt m _ _ _ hm
  obtain ⟨fuel, hf⟩ := h0
  obtain ⟨sO, sP, hO, hP, ssO, ssP, wt, rel, cl, rd, td, tl, tm, st, tk, ak, wa, hcs', G, l0, l1, hr⟩ := open_state hf hsz
  have hcs2 : cs = #[sO, sP, .int .i64 wt, .bool rel, .bool cl, .int .u64 rd, .int .u64 td, .bool tl, .bool tm, .int .u64 st, .int .u64 tk, .bool ak, .bool wa] := by
    cases cs
    simpa [Value.cells] using hcs'
  subst hcs2
  clear hA0 hval0
  refine (law_true W sO sP hO hP ssO ssP wt rel cl rd td tl tm st tk ak wa G l0 l1 hr).mono fun e W' ⟨he, bel⟩ => ?_
  subst he
  exact ⟨_, rfl, _, _, _, [], _, [], hW', trodAll_mk1 (shut_bool Yba.underlying4 _), (trodAll_cons_mk (Below.trod laidOut (by kernel_rfl) (of_decide_eq_true (by kernel_rfl)) k0 bel lt0) trodAll_mk0), rfl, bel.frame _, fun h => by cases h⟩

theorem over : Rows.lawS6442APartRow.holds Yba.pinned (OpenSpec.ofChange Rows.lawS6442APartSpec) :=
  OpenClaim.holds_of_wide 3 Yba.f3 rfl rfl rfl rfl rfl rfl rfl ⟨rfl, rfl, rfl, rfl, rfl⟩ rfl rfl rfl rfl rfl (by kernel_rfl) Yba.func3 (by kernel_rfl)
    (of_decide_eq_true (by kernel_rfl)) (by unfold Func.isWrapper; first | (rw [if_pos (by decide +kernel)]; kernel_rfl) | (rw [if_neg (by decide +kernel)]; exact ⟨rfl, rfl⟩))
    (fun os started H enc _ => lifted os started H enc)

/-- ████ THE STATEMENT ████ -/
theorem proved : Rows.LawS6442APartSaid := over
#print axioms proved
end Go.Proofs.Ybulkecju.lawS6442APart

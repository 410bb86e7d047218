/-
  THE LAW 'view.LawS6440BWhole': the row; the walk is YbulkecisBLaw's.
-/
import Derived.Test.YbulkecisBLaw
import Derived.OpenShut
import Derived.ChangeOld
import Derived.Below
import Derived.SizedLaws
import Derived.Deep.Grids
import Derived.Deep.Matrix
namespace Go.Proofs.Ybulkecis.lawS6440BWhole
open Go.ChangeShapes Go.WideShapes Go.ChangeAt Go.RowKit
set_option linter.unusedVariables false
theorem own : ownKnob Yba.prog.godebug = none := by kernel_rfl
theorem laidOut : laidOutB Yba.prog = true := by kernel_rfl
theorem bytes59 : Yba.prog.bytesOf 59 = 2 := by kernel_rfl

set_option maxRecDepth 100000 in
set_option maxHeartbeats 400000 in
theorem big1 (ao : Option Addr) (n co : Nat) (ap : Option Addr) (lp cp : Nat) (aq : Option Addr) (lq cq : Nat) (au : Option Addr) (lu cu : Nat) (w : World) (h : 1000 < n) :
    Calls Yba.prog 4 #[.slice ao n co, .slice ap lp cp, .slice aq lq cq, .slice au lu cu] w fun e w' => e = .returned (.bool true) ∧ Below w.heap.size w w' := by
  have h1 : (n : Int) > 1000 := by omega
  go_enter Yba.func4, Yba.ntmps4
  go_wp2_with fail
  go_ret
  exact ⟨rfl, Below.refl _ _⟩
set_option maxRecDepth 100000 in
set_option maxHeartbeats 400000 in
theorem big2 (ao : Option Addr) (n co : Nat) (ap : Option Addr) (lp cp : Nat) (aq : Option Addr) (lq cq : Nat) (au : Option Addr) (lu cu : Nat) (w : World) (h : n ≤ 1000) (h' : 65536 < lp) :
    Calls Yba.prog 4 #[.slice ao n co, .slice ap lp cp, .slice aq lq cq, .slice au lu cu] w fun e w' => e = .returned (.bool true) ∧ Below w.heap.size w w' := by
  have h1 : ¬ (n : Int) > 1000 := by omega
  have h2 : (lp : Int) > 65536 := by omega
  go_enter Yba.func4, Yba.ntmps4
  go_wp2_with fail
  go_ret
  exact ⟨rfl, Below.refl _ _⟩
set_option maxRecDepth 100000 in
set_option maxHeartbeats 400000 in
theorem big3 (ao : Option Addr) (n co : Nat) (ap : Option Addr) (lp cp : Nat) (aq : Option Addr) (lq cq : Nat) (au : Option Addr) (lu cu : Nat) (w : World) (h : n ≤ 1000) (h' : lp ≤ 65536) (h'' : 65536 < lq) :
    Calls Yba.prog 4 #[.slice ao n co, .slice ap lp cp, .slice aq lq cq, .slice au lu cu] w fun e w' => e = .returned (.bool true) ∧ Below w.heap.size w w' := by
  have h1 : ¬ (n : Int) > 1000 := by omega
  have h2 : ¬ (lp : Int) > 65536 := by omega
  have h3 : (lq : Int) > 65536 := by omega
  go_enter Yba.func4, Yba.ntmps4
  go_wp2_with fail
  go_ret
  exact ⟨rfl, Below.refl _ _⟩
set_option maxRecDepth 100000 in
set_option maxHeartbeats 400000 in
theorem big4 (ao : Option Addr) (n co : Nat) (ap : Option Addr) (lp cp : Nat) (aq : Option Addr) (lq cq : Nat) (au : Option Addr) (lu cu : Nat) (w : World) (h : n ≤ 1000) (h' : lp ≤ 65536) (h'' : lq ≤ 65536) (h''' : 65536 < lu) :
    Calls Yba.prog 4 #[.slice ao n co, .slice ap lp cp, .slice aq lq cq, .slice au lu cu] w fun e w' => e = .returned (.bool true) ∧ Below w.heap.size w w' := by
  have h1 : ¬ (n : Int) > 1000 := by omega
  have h2 : ¬ (lp : Int) > 65536 := by omega
  have h3 : ¬ (lq : Int) > 65536 := by omega
  have h4 : (lu : Int) > 65536 := by omega
  go_enter Yba.func4, Yba.ntmps4
  go_wp2_with fail
  go_ret
  exact ⟨rfl, Below.refl _ _⟩

theorem walk (ao : Option Addr) (n co : Nat) (ap : Option Addr) (lp cp : Nat) (aq : Option Addr) (lq cq : Nat) (au : Option Addr) (lu cu : Nat) (w : World)
    (ai : Nat → Option Addr) (li ci : Nat → Nat) (z : Nat → Nat → Int) (zp : Nat → Int) (B : Nat → Bool) (zu : Nat → Int)
    (HO : Rv w ao n fun v => .slice (ai v) (li v) (ci v))
    (HI : ∀ v, v < n → Rv w (ai v) (li v) (fun j => .int .u16 (z v j)) ∧ ∀ j, j < li v → 0 ≤ z v j ∧ z v j ≤ 65535)
    (HL : ∀ v, v < n → li v ≤ 281474976710656)
    (HPk : Rv w ap lp (fun j => .int .u16 (zp j)) ∧ ∀ j, j < lp → 0 ≤ zp j ∧ zp j ≤ 65535)
    (HQd : Rv w aq lq fun j => .bool (B j)) (HQu : Rv w au lu fun j => .int .i64 (zu j)) :
    Calls Yba.prog 4 #[.slice ao n co, .slice ap lp cp, .slice aq lq cq, .slice au lu cu] w fun e w' => e = .returned (.bool true) ∧ Below w.heap.size w w' := by
  by_cases h1 : 1000 < n
  · exact big1 _ _ _ _ _ _ _ _ _ _ _ _ w h1
  · by_cases h2 : 65536 < lp
    · exact big2 _ _ _ _ _ _ _ _ _ _ _ _ w (by omega) h2
    · by_cases h3 : 65536 < lq
      · exact big3 _ _ _ _ _ _ _ _ _ _ _ _ w (by omega) (by omega) h3
      · by_cases h4 : 65536 < lu
        · exact big4 _ _ _ _ _ _ _ _ _ _ _ _ w (by omega) (by omega) (by omega) h4
        · exact blaw_walk ao n co ap lp cp aq lq cq au lu cu w ai li ci z zp B zu HO HI HL HPk HQd HQu (by omega) (by omega) (by omega) (by omega)

theorem rv_of {W : World} {a : Addr} {l : Nat} {V : Nat → Value} (h : ∀ j, j < l → W.cell? (a.add j) = some (V j)) : Rv W (some a) l V := ⟨fun h0 => by
  obtain ⟨b, off, spot⟩ := a
  have hs : spot = none := by simpa [Addr.add] using World.cell?_spot (h 0 h0)
  subst hs
  exact ⟨b, off, rfl, fun j hj => by have := h j hj; rwa [add_plain] at this⟩⟩
theorem rv_zero {W : World} {ao : Option Addr} {V : Nat → Value} : Rv W ao 0 V := ⟨fun h => absurd h (by omega)⟩
theorem weights_in {H : Type} {P : Program} {e : TypeId} : ∀ {l : List (DataW H)} {d : DataW H}, d ∈ l → ∀ n ∈ d.weights P e, n ∈ DataW.weightsAll P e l
  | d' :: r, d, hd, n, hn => by
    simp only [DataW.weightsAll, List.mem_append]
    rcases List.mem_cons.1 hd with rfl | h
    · exact Or.inl hn
    · exact Or.inr (weights_in h n hn)

/-- out, opened. -/
theorem open_out {H : Type} {enc : TypeId × Value → H} {W : World} {fuel : Nat} {cs : List Value} {x : DataW H × List MemPlace} (h : DataW.trod enc Yba.prog W 0 (fun _ => true) true fuel 26 cs = some x) (hw : (DataW.weights Yba.prog 26 x.1).all (· ≤ reachBytes) = true) :
    ∃ (ao : Option Addr) (n co : Nat) (ai : Nat → Option Addr) (li ci : Nat → Nat) (z : Nat → Nat → Int), cs = [.slice ao n co] ∧ Rv W ao n (fun v => .slice (ai v) (li v) (ci v)) ∧ (∀ v, v < n → Rv W (ai v) (li v) (fun j => .int .u16 (z v j)) ∧ ∀ j, j < li v → 0 ≤ z v j ∧ z v j ≤ 65535) ∧ ∀ v, v < n → li v ≤ 281474976710656 := by
  rcases Deep.open_int_rows Yba.underlying26 Yba.underlying27 Yba.underlying59 (by kernel_rfl) (by kernel_rfl) h with ⟨rfl, _⟩ | ⟨a, len, cap, A, L, C, Z, rfl, _, hl, hm, rfl, hx⟩
  · exact ⟨none, 0, 0, fun _ => none, fun _ => 0, fun _ => 0, fun _ _ => 0, rfl, rv_zero, fun v hv => absurd hv (by omega), fun v hv => absurd hv (by omega)⟩
  · refine ⟨some a, len, cap, A, L, C, fun v j => (Z v).getD j 0, rfl, rv_of fun j hj => (hx j (by omega)).1, fun v hv => ?_, fun v hv => ?_⟩
    · obtain ⟨_, q1, q2, q3, q4, q5, q6⟩ := hx v (by omega)
      refine ⟨?_, fun j hj => ?_⟩
      · match hA : A v, q5, q6 with
        | none, q5, _ =>
          have h0 : L v = 0 := by have := q5 rfl; omega
          rw [h0]; exact rv_zero
        | some a', _, q6 => exact rv_of fun j hj => (q6 a' rfl).2 j (by omega)
      · have hj' : j < (Z v).length := by omega
        exact bounds_u16 (q4 ((Z v).getD j 0) (by simp [hj']))
    · obtain ⟨_, q1, q2, q3, q4, q5, q6⟩ := hx v (by omega)
      match hA : A v, q5 with
      | none, q5 => have := q5 rfl; omega
      | some a', _ =>
        have h2 := List.all_eq_true.1 hw (((lits .u16 ((Z v).take (L v)) : List (DataW H)).length + (lits .u16 ((Z v).drop (L v)) : List (DataW H)).length) * 2) (by
          simp only [DataW.weights, Yba.underlying26, List.mem_cons, List.mem_append]
          refine Or.inr (Or.inl (weights_in (d := Deep.intRow .u16 (A v) (L v) (Z v)) (List.mem_map.2 ⟨v, List.mem_range.2 hv, rfl⟩) _ ?_))
          rw [hA]
          simp only [Deep.intRow, DataW.weights, Yba.underlying27, bytes59]
          simp)
        have hlt : ((Z v).take (L v)).length = L v := by simp; omega
        have : ((Z v).take (L v)).length ≤ reachBytes := by
          simp only [lits, List.length_map, decide_eq_true_eq] at h2
          omega
        rw [hlt] at this
        unfold reachBytes at this
        omega
/-- A row of numbers, opened. -/
theorem open_nums {H : Type} {enc : TypeId × Value → H} {W : World} {fuel : Nat} {t e : TypeId} {k : IntKind} {ao : Option Addr} {l c : Nat} {x : DataW H × List MemPlace} (ht : Yba.prog.underlying t = some (.slice e)) (he : Yba.prog.underlying e = some (.int k)) (hc : Yba.prog.cellsOf e = 1) (h : DataW.trod enc Yba.prog W 0 (fun _ => true) true fuel t [.slice ao l c] = some x) :
    ∃ z : Nat → Int, Rv W ao l (fun j => .int k (z j)) ∧ ∀ j, j < l → (Lit.int k (z j)).wf = true := by
  rcases open_ints ht he hc h with ⟨hcs, _⟩ | ⟨a, len, cap, zs, hcs, _, hl, hm, hz, _, hcell, hwz⟩
  · cases hcs
    exact ⟨fun _ => 0, rv_zero, fun j hj => absurd hj (by omega)⟩
  · cases hcs
    have hz' : zs.length = c := by simpa using hz
    refine ⟨fun j => zs.getD j 0, rv_of fun j hj => hcell j (by omega), fun j hj => ?_⟩
    have hi' : j < zs.length := by omega
    exact hwz (zs.getD j 0) (by simp [hi'])
theorem open_marks {H : Type} {enc : TypeId × Value → H} {W : World} {fuel : Nat} {ao : Option Addr} {l c : Nat} {x : DataW H × List MemPlace} (h : DataW.trod enc Yba.prog W 0 (fun _ => true) true fuel 28 [.slice ao l c] = some x) :
    ∃ B : Nat → Bool, Rv W ao l (fun j => .bool (B j)) := by
  rcases Deep.open_bools Yba.underlying28 Yba.underlying4 (by kernel_rfl) h with ⟨hcs, _⟩ | ⟨a, len, cap, B, hcs, _, hl, hm, _, hcell⟩
  · cases hcs
    exact ⟨fun _ => false, rv_zero⟩
  · cases hcs
    exact ⟨B, rv_of fun j hj => hcell j (by omega)⟩

set_option maxRecDepth 100000 in
theorem lifted (os : Os) (started : os.Started) (H : Type) (enc : TypeId × Value → H) :
    ReturnsInHanded {} Yba.checked os 4 .any (Rows.lawS6440BWholeSpec.pre6 enc Yba.prog Yba.f4 Rows.lawS6440BWholeRow.domain false) (Rows.lawS6440BWholeSpec.post enc Yba.prog Yba.f4 false true false false) := by
  refine returnsInHanded_of_change_sized (C := Yba.checked) own started (by kernel_rfl) Yba.func4
    (ChangeSpec.witness6 (enc := enc) (C := Yba.checked) false ⟨#[], #[.slice none 0 0, .slice none 0 0, .slice none 0 0, .slice none 0 0], []⟩ 8 (by kernel_rfl) (by kernel_rfl) (by kernel_rfl) (by kernel_rfl)) ?_
  intro W base args ds gs before hval0 hW hcnd hsz0 _
  have hsz : (DataW.weightsEach Yba.prog (Yba.f4.params.toList ++ Rows.lawS6440BWholeSpec.plain.varTypes Yba.prog) (ds ++ gs)).all (· ≤ reachBytes) = true := hsz0
  have hval : ∀ (j : Nat) t v, Yba.f4.params[j]? = some t → args[j]? = some v → Value.okWide Yba.prog W .any base t v := hval0
  have hW' := hW
  obtain ⟨p, q, hA0, hV, rfl, hfz, hnd⟩ := hW
  have hA : DataW.TrodAll enc Yba.prog W 0 (fun _ => true) true Yba.f4.params.toList args.toList ds p := hA0
  rw [Yba.params4] at hA hval hsz
  obtain ⟨v0, vs0, d0, ds0, p0, q0, hargs, rfl, rfl, h0, r0⟩ := trodAll_cons hA
  obtain ⟨v1, vs1, d1, ds1, p1, q1, rfl, rfl, rfl, h1, r1⟩ := trodAll_cons r0
  obtain ⟨v2, vs2, d2, ds2, p2, q2, rfl, rfl, rfl, h2, r2⟩ := trodAll_cons r1
  obtain ⟨v3, vs3, d3, ds3, p3, q3, rfl, rfl, rfl, h3, r3⟩ := trodAll_cons r2
  obtain ⟨rfl, rfl, rfl⟩ := trodAll_nil r3
  obtain rfl : args = #[v0, v1, v2, v3] := by cases args; simp_all
  obtain ⟨rfl, rfl⟩ := trodVars_none hV
  obtain ⟨a0, len0, cap0, rfl⟩ := okWide_slice Yba.underlying26 (hval 0 26 v0 rfl rfl)
  obtain ⟨a1, len1, cap1, rfl⟩ := okWide_slice Yba.underlying27 (hval 1 27 v1 rfl rfl)
  obtain ⟨a2, len2, cap2, rfl⟩ := okWide_slice Yba.underlying28 (hval 2 28 v2 rfl rfl)
  obtain ⟨a3, len3, cap3, rfl⟩ := okWide_slice Yba.underlying22 (hval 3 22 v3 rfl rfl)
  have k0 := h0
  have lt0 : ∀ x ∈ p0, x.block < W.heap.size := by obtain ⟨m, hm⟩ := k0; exact DataW.trod_lt m _ _ _ hm
  have k1 := h1
  have lt1 : ∀ x ∈ p1, x.block < W.heap.size := by obtain ⟨m, hm⟩ := k1; exact DataW.trod_lt m _ _ _ hm
  have k2 := h2
  have lt2 : ∀ x ∈ p2, x.block < W.heap.size := by obtain ⟨m, hm⟩ := k2; exact DataW.trod_lt m _ _ _ hm
  have k3 := h3
  have lt3 : ∀ x ∈ p3, x.block < W.heap.size := by obtain ⟨m, hm⟩ := k3; exact DataW.trod_lt m _ _ _ hm
  obtain ⟨_, hf0⟩ := h0
  obtain ⟨_, hf1⟩ := h1
  obtain ⟨_, hf2⟩ := h2
  obtain ⟨_, hf3⟩ := h3
  have hw0 : (DataW.weights Yba.prog 26 d0).all (· ≤ reachBytes) = true := by
    refine List.all_eq_true.2 fun y hy => List.all_eq_true.1 hsz y ?_
    simp only [List.cons_append, DataW.weightsEach, List.mem_append]
    exact Or.inl hy
  obtain ⟨ao, n, co, ai, li, ci, z, hcs, HO, HI, HL⟩ := open_out hf0 hw0
  have hcs' : Value.slice a0 len0 cap0 = .slice ao n co := by simpa [Value.cells] using hcs
  cases hcs'
  obtain ⟨zp, HP, HPw⟩ := open_nums Yba.underlying27 Yba.underlying59 (by kernel_rfl) (ao := a1) (l := len1) (c := cap1) (by simpa [Value.cells] using hf1)
  obtain ⟨B, HQd⟩ := open_marks (ao := a2) (l := len2) (c := cap2) (by simpa [Value.cells] using hf2)
  obtain ⟨zu, HQu, _⟩ := open_nums Yba.underlying22 Yba.underlying3 (by kernel_rfl) (ao := a3) (l := len3) (c := cap3) (by simpa [Value.cells] using hf3)
  clear hA0 hval0
  refine (walk a0 len0 cap0 a1 len1 cap1 a2 len2 cap2 a3 len3 cap3 W ai li ci z zp B zu HO HI HL ⟨HP, fun j hj => bounds_u16 (HPw j hj)⟩ HQd HQu).mono fun e W' ⟨he, bel⟩ => ?_
  subst he
  exact ⟨_, rfl, _, _, _, [], _, [], hW', trodAll_mk1 (shut_bool Yba.underlying4 _), (trodAll_cons_mk (Below.trod laidOut (by kernel_rfl) (of_decide_eq_true (by kernel_rfl)) k0 bel lt0) (trodAll_cons_mk (Below.trod laidOut (by kernel_rfl) (of_decide_eq_true (by kernel_rfl)) k1 bel lt1) (trodAll_cons_mk (Below.trod laidOut (by kernel_rfl) (of_decide_eq_true (by kernel_rfl)) k2 bel lt2) (trodAll_cons_mk (Below.trod laidOut (by kernel_rfl) (of_decide_eq_true (by kernel_rfl)) k3 bel lt3) trodAll_mk0)))), rfl, bel.frame _, fun h => by cases h⟩

theorem over : Rows.lawS6440BWholeRow.holds Yba.pinned (OpenSpec.ofChange Rows.lawS6440BWholeSpec) :=
  OpenClaim.holds_of_wide 4 Yba.f4 rfl rfl rfl rfl rfl rfl rfl ⟨rfl, rfl, rfl, rfl, rfl⟩ rfl rfl rfl rfl rfl (by kernel_rfl) Yba.func4 (by kernel_rfl)
    (of_decide_eq_true (by kernel_rfl)) (by unfold Func.isWrapper; first | (rw [if_pos (by decide +kernel)]; kernel_rfl) | (rw [if_neg (by decide +kernel)]; exact ⟨rfl, rfl⟩))
    (fun os started H enc _ => lifted os started H enc)

/-- ████ THE STATEMENT ████ -/
theorem proved : Rows.LawS6440BWholeSaid := over
#print axioms proved
end Go.Proofs.Ybulkecis.lawS6440BWhole

/-
  THE LAW 'view.LawS6440CWhole': the frame turned to this row from the seat's other laws; the walk is YbulkecisLawWalk's.
-/
import Derived.Test.YbulkecisLawWalk
import Derived.OpenShut
import Derived.ChangeOld
import Derived.Below
import Derived.Deep.SlicePairs
namespace Go.Proofs.Ybulkecis.lawS6440CWhole
open Go.ChangeShapes Go.WideShapes Go.ChangeAt Go.RowKit
set_option linter.unusedVariables false
theorem own : ownKnob Yba.prog.godebug = none := by kernel_rfl
theorem laidOut : laidOutB Yba.prog = true := by kernel_rfl

set_option maxRecDepth 100000 in
set_option maxHeartbeats 400000 in
theorem walkBig (raw : Int) (a1 : Option Addr) (lb cb : Nat) (a2 : Option Addr) (lss cs : Nat) (mark : Int) (w : World) (h : 65536 < lss) (hm : lss ≤ maxLen) :
    Calls Yba.prog 5 #[.int .u8 raw, .slice a1 lb cb, .slice a2 lss cs, .int .i64 mark] w fun e w' => e = .returned (.bool true) ∧ Below w.heap.size w w' := by
  unfold maxLen at hm
  have h' : (65536 : Int) < lss := by omega
  go_enter Yba.func5, Yba.ntmps5
  go_wp2_with fail
  go_ret
  exact ⟨rfl, Below.refl _ _⟩
set_option maxRecDepth 100000 in
set_option maxHeartbeats 400000 in
theorem walkBig2 (raw : Int) (a1 : Option Addr) (lb cb : Nat) (a2 : Option Addr) (lss cs : Nat) (mark : Int) (w : World) (h : lss ≤ 65536) (h2 : 65536 < lb) (hm : lb ≤ maxLen) :
    Calls Yba.prog 5 #[.int .u8 raw, .slice a1 lb cb, .slice a2 lss cs, .int .i64 mark] w fun e w' => e = .returned (.bool true) ∧ Below w.heap.size w w' := by
  unfold maxLen at hm
  have h' : ¬ (65536 : Int) < lss := by omega
  have h2' : (65536 : Int) < lb := by omega
  go_enter Yba.func5, Yba.ntmps5
  go_wp2_with fail
  go_ret
  exact ⟨rfl, Below.refl _ _⟩
set_option maxRecDepth 100000 in
set_option maxHeartbeats 400000 in
theorem walkNeg (raw : Int) (a1 : Option Addr) (lb cb : Nat) (a2 : Option Addr) (lss cs : Nat) (mark : Int) (w : World) (h : lss ≤ 65536) (h2 : lb ≤ 65536) (hneg : mark < 0) :
    Calls Yba.prog 5 #[.int .u8 raw, .slice a1 lb cb, .slice a2 lss cs, .int .i64 mark] w fun e w' => e = .returned (.bool true) ∧ Below w.heap.size w w' := by
  have h' : ¬ (65536 : Int) < lss := by omega
  have h2' : ¬ (65536 : Int) < lb := by omega
  go_enter Yba.func5, Yba.ntmps5
  go_wp2_with fail
  go_ret
  exact ⟨rfl, Below.refl _ _⟩

/-- What is known of base. -/
def IsBytes (w : World) (a : Option Addr) (len cap : Nat) : Prop :=
  ∃ (b o : Nat) (z : Nat → Int), len ≤ cap ∧ len ≤ maxLen ∧ (0 < len → a = some ⟨b, o, none⟩) ∧ ∀ i, i < len → w.cell? ⟨b, o + i, none⟩ = some (.int .u8 (z i)) ∧ 0 ≤ z i ∧ z i ≤ 255
/-- What is known of steps. -/
def IsSteps (w : World) (a : Option Addr) (len cap : Nat) : Prop :=
  ∃ (b o : Nat) (zu zv : Nat → Int), len ≤ cap ∧ len ≤ maxLen ∧ (0 < len → a = some ⟨b, o, none⟩) ∧ ∀ i, i < len → w.cell? ⟨b, o + i * 2, none⟩ = some (.int .u8 (zu i)) ∧ w.cell? ⟨b, o + i * 2 + 1, none⟩ = some (.int .u8 (zv i)) ∧ 0 ≤ zu i ∧ zu i ≤ 255 ∧ 0 ≤ zv i ∧ zv i ≤ 255

theorem walk (raw : Int) (a1 : Option Addr) (lb cb : Nat) (a2 : Option Addr) (lss cs : Nat) (mark : Int) (w : World) (w0 : (Lit.int .u8 raw).wf = true) (w1 : IsBytes w a1 lb cb) (w2 : IsSteps w a2 lss cs) :
    Calls Yba.prog 5 #[.int .u8 raw, .slice a1 lb cb, .slice a2 lss cs, .int .i64 mark] w fun e w' => e = .returned (.bool true) ∧ Below w.heap.size w w' := by
  obtain ⟨r0, r1⟩ := bounds_u8 w0
  obtain ⟨b1, o1, zb, l1, m1, A1, C1⟩ := w1
  obtain ⟨b2, o2, zu, zv, l2, m2, A2, C2⟩ := w2
  by_cases h1 : 65536 < lss
  · exact walkBig raw a1 lb cb a2 lss cs mark w h1 m2
  · by_cases h2 : 65536 < lb
    · exact walkBig2 raw a1 lb cb a2 lss cs mark w (by omega) h2 m1
    · by_cases h3 : mark < 0
      · exact walkNeg raw a1 lb cb a2 lss cs mark w (by omega) (by omega) h3
      · exact law_walk raw a1 b1 o1 lb cb zb a2 b2 o2 lss cs zu zv mark w r0 r1 (by omega) (by omega) (by omega) A1 C1 A2 C2 l1 l2

/-- The step's struct, as the program writes it. -/
theorem steps_type : ∃ f0 f1 : Field, Yba.prog.underlying 82 = some (.struct #[f0, f1]) ∧ f0.offset = 0 ∧ f1.offset = 1 ∧ f0.type = 5 ∧ f1.type = 5 := ⟨_, _, Yba.underlying82, rfl, rfl, rfl, rfl⟩

set_option maxRecDepth 100000 in
theorem lifted (os : Os) (started : os.Started) (H : Type) (enc : TypeId × Value → H) :
    ReturnsInHanded {} Yba.checked os 5 .any (Rows.lawS6440CWholeSpec.pre6 enc Yba.prog Yba.f5 Rows.lawS6440CWholeRow.domain false) (Rows.lawS6440CWholeSpec.post enc Yba.prog Yba.f5 false true false false) := by
  refine returnsInHanded_of_change (C := Yba.checked) own started (by kernel_rfl) Yba.func5
    (ChangeSpec.witness6 (enc := enc) (C := Yba.checked) false ⟨#[], #[.int .u8 0, .slice none 0 0, .slice none 0 0, .int .i64 0], []⟩ 8 (by kernel_rfl) (by kernel_rfl) (by kernel_rfl) (by kernel_rfl)) ?_
  intro W base args ds gs before hval0 hW hcnd _
  have hval : ∀ (j : Nat) t v, Yba.f5.params[j]? = some t → args[j]? = some v → Value.okWide Yba.prog W .any base t v := hval0
  have hW' := hW
  obtain ⟨p, q, hA0, hV, rfl, hfz, hnd⟩ := hW
  have hA : DataW.TrodAll enc Yba.prog W 0 (fun _ => true) true Yba.f5.params.toList args.toList ds p := hA0
  rw [Yba.params5] at hA hval
  obtain ⟨v0, vs0, d0, ds0, p0, q0, hargs, rfl, rfl, h0, r0⟩ := trodAll_cons hA
  obtain ⟨v1, vs1, d1, ds1, p1, q1, rfl, rfl, rfl, h1, r1⟩ := trodAll_cons r0
  obtain ⟨v2, vs2, d2, ds2, p2, q2, rfl, rfl, rfl, h2, r2⟩ := trodAll_cons r1
  obtain ⟨v3, vs3, d3, ds3, p3, q3, rfl, rfl, rfl, h3, r3⟩ := trodAll_cons r2
  obtain ⟨rfl, rfl, rfl⟩ := trodAll_nil r3
  obtain rfl : args = #[v0, v1, v2, v3] := by cases args; simp_all
  obtain ⟨rfl, rfl⟩ := trodVars_none hV
  obtain ⟨raw, rfl, rfl, rfl, w0⟩ := open_int Yba.underlying5 (hval 0 5 v0 rfl rfl) h0
  obtain ⟨a1, len1, cap1, rfl⟩ := okWide_slice Yba.underlying69 (hval 1 69 v1 rfl rfl)
  have k1 := h1
  have lt1 : ∀ x ∈ p1, x.block < W.heap.size := by obtain ⟨m, hm⟩ := k1; exact DataW.trod_lt m _ _ _ hm
  have w1 : IsBytes W a1 len1 cap1 := by
    obtain ⟨fuel, hf⟩ := h1
    rcases open_ints Yba.underlying69 Yba.underlying5 (by kernel_rfl) hf with ⟨hcs, _⟩ | ⟨x, l, c, zs, hcs, _, hl, hm, hz, _, hcell, hwz⟩
    · simp [Value.cells] at hcs
      obtain ⟨rfl, rfl, rfl⟩ := hcs
      exact ⟨0, 0, fun _ => 0, by omega, by unfold maxLen; omega, by omega, fun i hi => by omega⟩
    · simp [Value.cells] at hcs
      obtain ⟨rfl, rfl, rfl⟩ := hcs
      have hz' : zs.length = cap1 := by simpa using hz
      by_cases h00 : len1 = 0
      · subst h00
        exact ⟨0, 0, fun _ => 0, by omega, by unfold maxLen; omega, by omega, fun i hi => by omega⟩
      · obtain ⟨b, off, rfl, hc⟩ := ints_at hcell (by omega)
        refine ⟨b, off, fun i => zs.getD i 0, hl, by omega, fun _ => rfl, fun i hi => ⟨hc i (by omega), ?_⟩⟩
        have hi' : i < zs.length := by omega
        have := hwz (zs.getD i 0) (by simp [hi'])
        exact bounds_u8 this
  obtain ⟨a2, len2, cap2, rfl⟩ := okWide_slice Yba.underlying70 (hval 2 70 v2 rfl rfl)
  have k2 := h2
  have lt2 : ∀ x ∈ p2, x.block < W.heap.size := by obtain ⟨m, hm⟩ := k2; exact DataW.trod_lt m _ _ _ hm
  have w2 : IsSteps W a2 len2 cap2 := by
    obtain ⟨fuel, hf⟩ := h2
    obtain ⟨f0, f1, hu, e0, e1, t0, t1⟩ := steps_type
    rcases Deep.open_slice_pairs Yba.underlying70 hu (by kernel_rfl) e0 e1 (by rw [t0]; kernel_rfl) (by rw [t1]; kernel_rfl) hf with ⟨hcs, _⟩ | ⟨x, l, c, m, n, V0, V1, D0, D1, P0, P1, hcs, _, hl, hm, hmm, _, hx⟩
    · simp [Value.cells] at hcs
      obtain ⟨rfl, rfl, rfl⟩ := hcs
      exact ⟨0, 0, fun _ => 0, fun _ => 0, by omega, by unfold maxLen; omega, by omega, fun i hi => by omega⟩
    · simp [Value.cells] at hcs
      obtain ⟨rfl, rfl, rfl⟩ := hcs
      have hmm' : m = cap2 := by simpa using hmm
      by_cases h00 : len2 = 0
      · subst h00
        exact ⟨0, 0, fun _ => 0, fun _ => 0, by omega, by unfold maxLen; omega, by omega, fun i hi => by omega⟩
      · obtain ⟨b, off, spot⟩ := x
        have hspot : spot = none := by simpa [Addr.add] using World.cell?_spot (hx 0 (by omega)).1
        subst hspot
        refine ⟨b, off, fun i => match V0 i with | .int _ z => z | _ => 0, fun i => match V1 i with | .int _ z => z | _ => 0, hl, by omega, fun _ => rfl, fun i hi => ?_⟩
        obtain ⟨c0, c1, g0, g1⟩ := hx i (by omega)
        rw [t0] at g0
        rw [t1] at g1
        obtain ⟨z0, hz0, _, wz0⟩ := DataW.trod_int Yba.underlying5 g0
        obtain ⟨z1, hz1, _, wz1⟩ := DataW.trod_int Yba.underlying5 g1
        simp only [List.cons.injEq, and_true] at hz0 hz1
        simp only [hz0, hz1] at c0 c1 ⊢
        have q0 := bounds_u8 wz0
        have q1 := bounds_u8 wz1
        rw [add_plain] at c0 c1
        exact ⟨c0, c1, q0.1, q0.2, q1.1, q1.2⟩
  obtain ⟨mark, rfl, rfl, rfl, w3⟩ := open_int Yba.underlying3 (hval 3 3 v3 rfl rfl) h3
  clear hA0 hval0
  refine (walk raw a1 len1 cap1 a2 len2 cap2 mark W w0 w1 w2).mono fun e W' ⟨he, bel⟩ => ?_
  subst he
  exact ⟨_, rfl, _, _, _, [], _, [], hW', trodAll_mk1 (shut_bool Yba.underlying4 _), (trodAll_cons_mk (shut_int Yba.underlying5 w0) (trodAll_cons_mk (Below.trod laidOut (by kernel_rfl) (of_decide_eq_true (by kernel_rfl)) k1 bel lt1) (trodAll_cons_mk (Below.trod laidOut (by kernel_rfl) (of_decide_eq_true (by kernel_rfl)) k2 bel lt2) (trodAll_cons_mk (shut_int Yba.underlying3 w3) trodAll_mk0)))), rfl, bel.frame _, fun h => by cases h⟩

theorem over : Rows.lawS6440CWholeRow.holds Yba.pinned (OpenSpec.ofChange Rows.lawS6440CWholeSpec) :=
  OpenClaim.holds_of_wide 5 Yba.f5 rfl rfl rfl rfl rfl rfl rfl ⟨rfl, rfl, rfl, rfl, rfl⟩ rfl rfl rfl rfl rfl (by kernel_rfl) Yba.func5 (by kernel_rfl)
    (of_decide_eq_true (by kernel_rfl)) (by unfold Func.isWrapper; first | (rw [if_pos (by decide +kernel)]; kernel_rfl) | (rw [if_neg (by decide +kernel)]; exact ⟨rfl, rfl⟩))
    (fun os started H enc _ => lifted os started H enc)

/-- ████ THE STATEMENT ████ -/
theorem proved : Rows.LawS6440CWholeSaid := over
#print axioms proved
end Go.Proofs.Ybulkecis.lawS6440CWhole

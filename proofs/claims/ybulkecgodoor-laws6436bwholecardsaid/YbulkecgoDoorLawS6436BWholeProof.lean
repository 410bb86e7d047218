/-
  THE LAW 'tuck.LawS6436BWhole': the row and the tied card.
-/
import Derived.Test.YbulkecgoDoorLawWalk
import Derived.Test.YbulkecgoDoorLawBig
import Derived.Test.YbulkecgoDoorTie
import Derived.Test.YbulkecgoDoorCards
import Derived.SevenTiedAt
namespace Go.Proofs.YbulkecgoDoor.lawS6436BWhole
open Go.ChangeShapes Go.WideShapes Go.ChangeAt Go.RowKit
set_option linter.unusedVariables false
theorem own : ownKnob Ybad.prog.godebug = none := by kernel_rfl
theorem laidOut : laidOutB Ybad.prog = true := by kernel_rfl

set_option maxRecDepth 100000 in
theorem lifted (os : Os) (started : os.Started) (H : Type) (enc : TypeId × Value → H) :
    ReturnsInHanded {} Ybad.checked os 4 .any (fun w args => (Rows.lawS6436BWholeSpec.pre enc Ybad.prog Ybad.f4 Rows.lawS6436BWholeRow.domain false w args ∧ laidMetH Ybad.prog Rows.lawS6436BWholeRow.laid w) ∧ sizedMet enc Ybad.prog Ybad.f4 (OpenSpec.ofChange Rows.lawS6436BWholeSpec) false w args)
      (Rows.lawS6436BWholeSpec.post enc Ybad.prog Ybad.f4 false true false false) := by
  refine returnsInHanded_of_change_and (C := Ybad.checked) (X := fun w _ => laidMetH Ybad.prog Rows.lawS6436BWholeRow.laid w) (fun _ _ _ hh h => h.of_heap hh) own started (by kernel_rfl) Ybad.func4
    (ChangeSpec.witness_shaped (enc := enc) (C := Ybad.checked) (os := os) (X := fun w _ => laidMetH Ybad.prog Rows.lawS6436BWholeRow.laid w) false (World.laidAll Ybad.prog os Rows.lawS6436BWholeRow.laid) #[.slice none 0 0, .int .u8 0, .int .i64 0, .agg #[.slice none 0 0, .slice none 0 0, .slice none 0 0, .int .i64 0, .int .i64 0, .int .i64 0]] 8 (World.laidAll_os _ _ _)
      (World.shaped_of_ZipB (by kernel_rfl) (by kernel_rfl)) (by kernel_rfl) (by kernel_rfl) (by kernel_rfl)
      (by rw [MakeChecks.laidMetH_plain _ _ _ (by kernel_rfl)]; exact laidMet_laidAll _ (by kernel_rfl) (by kernel_rfl))) ?_
  intro W base args ds gs before hval0 hW hc _ hL _
  have hval : ∀ (j : Nat) t v, Ybad.f4.params[j]? = some t → args[j]? = some v → Value.okWide Ybad.prog W .any base t v := hval0
  have hW' := hW
  obtain ⟨p, q, hA0, hV, rfl, hfz, hnd⟩ := hW
  have hA : DataW.TrodAll enc Ybad.prog W 0 (fun _ => true) true Ybad.f4.params.toList args.toList ds p := hA0
  rw [Ybad.params4] at hA hval
  obtain ⟨v0, vs0, d0, ds0, p0, q0, hargs, rfl, rfl, h0, r0⟩ := trodAll_cons hA
  obtain ⟨v1, vs1, d1, ds1, p1, q1, rfl, rfl, rfl, h1, r1⟩ := trodAll_cons r0
  obtain ⟨v2, vs2, d2, ds2, p2, q2, rfl, rfl, rfl, h2, r2⟩ := trodAll_cons r1
  obtain ⟨v3, vs3, d3, ds3, p3, q3, rfl, rfl, rfl, h3, r3⟩ := trodAll_cons r2
  obtain ⟨rfl, rfl, rfl⟩ := trodAll_nil r3
  obtain rfl : args = #[v0, v1, v2, v3] := by cases args; simp_all
  obtain ⟨rfl, rfl⟩ := trodVars_none hV
  obtain ⟨cs, rfl, hcs⟩ := okWide_struct Ybad.underlying38 (hval 3 38 v3 rfl rfl)
  have k0 := h0
  have k1 := h1
  have k2 := h2
  have k3 := h3
  have lt0 : ∀ x ∈ p0, x.block < W.heap.size := by obtain ⟨m, hm⟩ := k0; exact DataW.trod_lt m _ _ _ hm
  have lt1 : ∀ x ∈ p1, x.block < W.heap.size := by obtain ⟨m, hm⟩ := k1; exact DataW.trod_lt m _ _ _ hm
  have lt2 : ∀ x ∈ p2, x.block < W.heap.size := by obtain ⟨m, hm⟩ := k2; exact DataW.trod_lt m _ _ _ hm
  have lt3 : ∀ x ∈ p3, x.block < W.heap.size := by obtain ⟨m, hm⟩ := k3; exact DataW.trod_lt m _ _ _ hm
  obtain ⟨sc, rfl, _, _, wsc⟩ := open_int Ybad.underlying5 (hval 1 5 v1 rfl rfl) h1
  obtain ⟨lim, rfl, _, _, _⟩ := open_int Ybad.underlying3 (hval 2 3 v2 rfl rfl) h2
  obtain ⟨m0, hm0⟩ := h0
  obtain ⟨m3, hm3⟩ := h3
  have hv0 : v0.cells = #[v0] := by
    obtain ⟨a, l, c, rfl⟩ := okWide_slice Ybad.underlying23 (hval 0 23 v0 rfl rfl)
    rfl
  obtain ⟨va, n, vc, V, e0, SV, hnv, hvN, hV64⟩ := open_floats hm0
  obtain ⟨ia, ea, pa, C, ic, X, ec, Y, pc, D0, D1, VP, S, O, Z, e3, SI, SX, SY, hiN, heN, hpN⟩ := open_state hm3
  obtain rfl : v0 = .slice va n vc := by rw [hv0] at e0; simpa using e0
  have hcs2 : cs = #[.slice ia C ic, .slice ea X ec, .slice pa Y pc, .int .i64 S, .int .i64 O, .int .i64 Z] := by
    cases cs
    simpa [Value.cells] using e3
  subst hcs2
  have hsc : 0 ≤ sc ∧ sc ≤ 255 := by have h := wsc; simp only [Lit.wf, Bool.and_eq_true, decide_eq_true_eq] at h; exact ⟨h.1, h.2⟩
  have hT := tab_of_laid hL
  have law : Calls Ybad.prog 4 #[.slice va n vc, .int .u8 sc, .int .i64 lim, .agg #[.slice ia C ic, .slice ea X ec, .slice pa Y pc, .int .i64 S, .int .i64 O, .int .i64 Z]] W fun e w' => e = .returned (.bool true) ∧ Below W.heap.size W w' := by
    by_cases hbig : 65536 < n ∨ 65536 < C ∨ 65536 < X ∨ 65536 < Y
    · exact law_big W va ia ea pa n vc C ic X ec Y pc sc lim S O Z hbig
    · exact law_walk W va ia ea pa n vc C ic X ec Y pc sc lim S O Z V D0 (il X D1) (fl Y VP) SV SI SX SY (by omega) (by omega) (by omega) (by omega) hiN heN hpN hsc hT hnv hvN hV64
  clear hA0 hval0
  refine law.mono fun e W' ⟨he, bel⟩ => ?_
  subst he
  exact ⟨_, rfl, _, _, _, [], _, [], hW', trodAll_mk1 (shut_bool Ybad.underlying4 _), (trodAll_cons_mk (Below.trod laidOut (by kernel_rfl) (of_decide_eq_true (by kernel_rfl)) k0 bel lt0) (trodAll_cons_mk (Below.trod laidOut (by kernel_rfl) (of_decide_eq_true (by kernel_rfl)) k1 bel lt1) (trodAll_cons_mk (Below.trod laidOut (by kernel_rfl) (of_decide_eq_true (by kernel_rfl)) k2 bel lt2) (trodAll_cons_mk (Below.trod laidOut (by kernel_rfl) (of_decide_eq_true (by kernel_rfl)) k3 bel lt3) trodAll_mk0)))), rfl, bel.frame _, fun h => by cases h⟩

theorem holds : Rows.LawS6436BWholeSaid :=
  OpenClaim.holds_of_wide 4 Ybad.f4 rfl rfl rfl rfl rfl rfl rfl ⟨rfl, rfl, rfl, rfl, rfl⟩ rfl rfl rfl rfl rfl (by kernel_rfl) Ybad.func4 (by kernel_rfl)
    (of_decide_eq_true (by kernel_rfl)) (by unfold Func.isWrapper; first | (rw [if_pos (by decide +kernel)]; kernel_rfl) | (rw [if_neg (by decide +kernel)]; exact ⟨rfl, rfl⟩))
    (fun os started H enc _ => lifted os started H enc)

/-- ████ THE STATEMENT ████ -/
theorem proved : Rows.LawS6436BWholeCardSaid :=
  Claim7.holds_tied_plain_at .later [] [.data, .data, .data] true (true, "329f6c8cb514570f95d2199d1b06bc3d450ce89ea6a678e086ad3d97f291a7d7") false
    holds (fun _ h => by cases h) (by kernel_rfl) (fun _ h => by cases h) lawS6436BWhole_row_tie rfl ⟨rfl, rfl⟩ (by kernel_rfl) rfl
    (fun f fn hf hfn => by
      obtain rfl : f = 4 := Option.some.inj ((show Ybad.prog.funcNamed "example.com/tuck/tuck.LawS6436BWhole" = some 4 by kernel_rfl).symm.trans hf) |>.symm
      obtain rfl : fn = Ybad.f4 := (Option.some.inj (Ybad.func4.symm.trans hfn)).symm
      exact ⟨by kernel_rfl, fun j t ht => by
        rw [Ybad.params4] at ht
        have hm : t ∈ [23, 5, 3, 38] := by simpa using Array.mem_of_getElem? ht
        have hall : ([23, 5, 3, 38].all fun u => !Ybad.prog.wantsStandIn u) = true := by kernel_rfl
        have hx : Ybad.prog.wantsStandIn t = false := by simpa using List.all_eq_true.1 hall t hm
        exact hx⟩)
    (by kernel_rfl)
#print axioms proved
end Go.Proofs.YbulkecgoDoor.lawS6436BWhole

/-
  THE LAW 'tuck.LawS6436AWhole': the row and the tied card.
-/
import Derived.Test.YbulkecgoDoorALaw
import Derived.Test.YbulkecgoDoorTie
import Derived.Test.YbulkecgoDoorCards
import Derived.SevenTiedAt
import Derived.SizedLaws
namespace Go.Proofs.YbulkecgoDoor.lawS6436AWhole
open Go.ChangeShapes Go.WideShapes Go.ChangeAt Go.RowKit
set_option linter.unusedVariables false
theorem own : ownKnob Ybad.prog.godebug = none := by kernel_rfl
theorem laidOut : laidOutB Ybad.prog = true := by kernel_rfl
theorem bytes25 : Ybad.prog.bytesOf 25 = 8 := by kernel_rfl
theorem bytes2 : Ybad.prog.bytesOf 2 = 8 := by kernel_rfl
theorem cells5 : Ybad.prog.cellsOf 5 = 1 := by kernel_rfl

section
variable {H : Type} {enc : TypeId × Value → H} {W : World} {fuel : Nat} {cs : List Value} {x : DataW H × List MemPlace}
/-- A slice of bytes. -/
theorem open_bytes (h : DataW.trod enc Ybad.prog W 0 (fun _ => true) true fuel 22 cs = some x) :
    ∃ (a : Option Addr) (n c db do' : Nat) (ds : List Nat), cs = [.slice a n c] ∧ ds.length = n ∧ Src W a n (byts ds) ∧ (0 < n → a = some ⟨db, do', none⟩) ∧ Byc W db do' n (fun j => ds.getD j 0) := by
  rcases open_ints Ybad.underlying22 Ybad.underlying5 cells5 h with ⟨rfl, _⟩ | ⟨a, len, cap, zs, rfl, _, hl, _, hz, _, hx, hwf⟩
  · exact ⟨none, 0, 0, 0, 0, [], rfl, rfl, ⟨rfl, fun h => absurd h (by omega), fun v hv => by simp [byts] at hv⟩, fun h => absurd h (by omega), fun i hi => absurd hi (by omega)⟩
  · have hz' : zs.length = cap := by simpa using hz
    have hval : ∀ i, i < len → zs.getD i 0 = (((((zs.take len).map Int.toNat).getD i 0 : Nat)) : Int) := by
      intro i hi
      have hm : zs.getD i 0 ∈ zs := by
        rw [List.getD, List.getElem?_eq_getElem (by omega : i < zs.length)]
        exact List.getElem_mem _
      have hw := hwf _ hm
      simp only [Lit.wf, Bool.and_eq_true, decide_eq_true_eq] at hw
      have h0 : 0 ≤ zs.getD i 0 := hw.1
      have e : ((zs.take len).map Int.toNat).getD i 0 = (zs.getD i 0).toNat := by
        rw [List.getD_eq_getElem?_getD, List.getElem?_map, List.getElem?_take_of_lt hi, List.getElem?_eq_getElem (by omega : i < zs.length), List.getD_eq_getElem?_getD, List.getElem?_eq_getElem (by omega : i < zs.length)]
        rfl
      rw [e]; omega
    have hdl : ((zs.take len).map Int.toNat).length = len := by simp; omega
    have hcell : 0 < len → ∃ b o, a = ⟨b, o, none⟩ ∧ Byc W b o len (fun j => ((zs.take len).map Int.toNat).getD j 0) := by
      intro h0
      obtain ⟨b, o, spot⟩ := a
      have g0 := hx 0 (by omega)
      have hs : spot = none := by simpa [Addr.add] using World.cell?_spot g0
      subst hs
      refine ⟨b, o, rfl, fun i hi => ?_⟩
      have := hx i (by omega)
      rw [add_plain, hval i hi] at this
      exact this
    by_cases h0 : 0 < len
    · obtain ⟨b, o, rfl, hB⟩ := hcell h0
      refine ⟨_, len, cap, b, o, (zs.take len).map Int.toNat, rfl, hdl, ⟨by rw [byts_len]; exact hdl, fun _ => ⟨b, o, rfl, fun j v hj => ?_⟩, fun v hv => ?_⟩, fun _ => rfl, hB⟩
      · have hjl : j < len := by have := (List.getElem?_eq_some_iff.1 hj).1; rw [byts_len, hdl] at this; exact this
        have e : v = .int .u8 ((((zs.take len).map Int.toNat).getD j 0 : Nat) : Int) := by
          have : (byts ((zs.take len).map Int.toNat))[j]? = some (.int .u8 ((((zs.take len).map Int.toNat).getD j 0 : Nat) : Int)) := by
            unfold byts
            rw [List.getElem?_map, List.getElem?_eq_getElem (by rw [hdl]; exact hjl), List.getD_eq_getElem?_getD, List.getElem?_eq_getElem (by rw [hdl]; exact hjl)]
            rfl
          exact Option.some.inj (hj.symm.trans this)
        rw [e]; exact hB j hjl
      · simp only [byts, List.mem_map] at hv
        obtain ⟨i, _, rfl⟩ := hv
        rfl
    · obtain rfl : len = 0 := by omega
      exact ⟨_, 0, cap, 0, 0, [], rfl, rfl, ⟨rfl, fun h => absurd h (by omega), fun v hv => by simp [byts] at hv⟩, fun h => absurd h (by omega), fun i hi => absurd hi (by omega)⟩
/-- How long a slice of floats, of integers can be. -/
theorem floats_short {a : Option Addr} {n c : Nat} (h : DataW.trod enc Ybad.prog W 0 (fun _ => true) true fuel 23 [.slice a n c] = some x) (hw : (DataW.weights Ybad.prog 23 x.1).all (· ≤ reachBytes) = true) : n ≤ 70368744177664 := by
  rcases Deep.open_slice1 Ybad.underlying23 cells25 h with ⟨he, _⟩ | ⟨a', len, cap, m, k, F, D, Pl, he, _, hl, _, hm, rfl, _⟩
  · cases he; omega
  · have hm' : m = cap := by simpa using hm
    cases he
    have h1 := List.all_eq_true.1 hw ((n + (m - n)) * 8) (by simp only [DataW.weights, Ybad.underlying23, bytes25]; simp)
    have : (n + (m - n)) * 8 ≤ reachBytes := by simpa using h1
    unfold reachBytes at this
    omega
theorem ints_short {a : Option Addr} {n c : Nat} (h : DataW.trod enc Ybad.prog W 0 (fun _ => true) true fuel 24 [.slice a n c] = some x) (hw : (DataW.weights Ybad.prog 24 x.1).all (· ≤ reachBytes) = true) : n ≤ 70368744177664 := by
  rcases Deep.open_slice1 Ybad.underlying24 cells2 h with ⟨he, _⟩ | ⟨a', len, cap, m, k, F, D, Pl, he, _, hl, _, hm, rfl, _⟩
  · cases he; omega
  · have hm' : m = cap := by simpa using hm
    cases he
    have h1 := List.all_eq_true.1 hw ((n + (m - n)) * 8) (by simp only [DataW.weights, Ybad.underlying24, bytes2]; simp)
    have : (n + (m - n)) * 8 ≤ reachBytes := by simpa using h1
    unfold reachBytes at this
    omega
end

set_option maxRecDepth 100000 in
theorem lifted (os : Os) (started : os.Started) (H : Type) (enc : TypeId × Value → H) :
    ReturnsInHanded {} Ybad.checked os 3 .any (fun w args => (Rows.lawS6436AWholeSpec.pre enc Ybad.prog Ybad.f3 Rows.lawS6436AWholeRow.domain false w args ∧ laidMetH Ybad.prog Rows.lawS6436AWholeRow.laid w) ∧ sizedMet enc Ybad.prog Ybad.f3 (OpenSpec.ofChange Rows.lawS6436AWholeSpec) false w args)
      (Rows.lawS6436AWholeSpec.post enc Ybad.prog Ybad.f3 false true false false) := by
  refine returnsInHanded_of_change_and (C := Ybad.checked) (X := fun w _ => laidMetH Ybad.prog Rows.lawS6436AWholeRow.laid w) (fun _ _ _ hh h => h.of_heap hh) own started (by kernel_rfl) Ybad.func3
    (ChangeSpec.witness_shaped (enc := enc) (C := Ybad.checked) (os := os) (X := fun w _ => laidMetH Ybad.prog Rows.lawS6436AWholeRow.laid w) false (World.laidAll Ybad.prog os Rows.lawS6436AWholeRow.laid) #[.slice none 0 0, .slice none 0 0, .slice none 0 0, .int .i64 0] 8 (World.laidAll_os _ _ _)
      (World.shaped_of_ZipB (by kernel_rfl) (by kernel_rfl)) (by kernel_rfl) (by kernel_rfl) (by kernel_rfl)
      (by rw [MakeChecks.laidMetH_plain _ _ _ (by kernel_rfl)]; exact laidMet_laidAll _ (by kernel_rfl) (by kernel_rfl))) ?_
  intro W base args ds gs before hval0 hW hc hsz0 hL _
  have hsz : (DataW.weightsEach Ybad.prog (Ybad.f3.params.toList ++ Rows.lawS6436AWholeSpec.plain.varTypes Ybad.prog) (ds ++ gs)).all (· ≤ reachBytes) = true := hsz0
  have hval : ∀ (j : Nat) t v, Ybad.f3.params[j]? = some t → args[j]? = some v → Value.okWide Ybad.prog W .any base t v := hval0
  have hW' := hW
  obtain ⟨p, q, hA0, hV, rfl, hfz, hnd⟩ := hW
  have hA : DataW.TrodAll enc Ybad.prog W 0 (fun _ => true) true Ybad.f3.params.toList args.toList ds p := hA0
  rw [Ybad.params3] at hA hval hsz
  obtain ⟨v0, vs0, d0, ds0, p0, q0, hargs, rfl, rfl, h0, r0⟩ := trodAll_cons hA
  obtain ⟨v1, vs1, d1, ds1, p1, q1, rfl, rfl, rfl, h1, r1⟩ := trodAll_cons r0
  obtain ⟨v2, vs2, d2, ds2, p2, q2, rfl, rfl, rfl, h2, r2⟩ := trodAll_cons r1
  obtain ⟨v3, vs3, d3, ds3, p3, q3, rfl, rfl, rfl, h3, r3⟩ := trodAll_cons r2
  obtain ⟨rfl, rfl, rfl⟩ := trodAll_nil r3
  obtain rfl : args = #[v0, v1, v2, v3] := by cases args; simp_all
  obtain ⟨rfl, rfl⟩ := trodVars_none hV
  have k0 := h0
  have k1 := h1
  have k2 := h2
  have k3 := h3
  have lt0 : ∀ x ∈ p0, x.block < W.heap.size := by obtain ⟨m, hm⟩ := k0; exact DataW.trod_lt m _ _ _ hm
  have lt1 : ∀ x ∈ p1, x.block < W.heap.size := by obtain ⟨m, hm⟩ := k1; exact DataW.trod_lt m _ _ _ hm
  have lt2 : ∀ x ∈ p2, x.block < W.heap.size := by obtain ⟨m, hm⟩ := k2; exact DataW.trod_lt m _ _ _ hm
  have lt3 : ∀ x ∈ p3, x.block < W.heap.size := by obtain ⟨m, hm⟩ := k3; exact DataW.trod_lt m _ _ _ hm
  obtain ⟨lim, rfl, _, _, _⟩ := open_int Ybad.underlying3 (hval 3 3 v3 rfl rfl) h3
  obtain ⟨m0, hm0⟩ := h0
  obtain ⟨m1, hm1⟩ := h1
  obtain ⟨m2, hm2⟩ := h2
  obtain ⟨a0, l0, c0, rfl⟩ := okWide_slice Ybad.underlying22 (hval 0 22 v0 rfl rfl)
  obtain ⟨a1, l1, c1, rfl⟩ := okWide_slice Ybad.underlying23 (hval 1 23 v1 rfl rfl)
  obtain ⟨a2, l2, c2, rfl⟩ := okWide_slice Ybad.underlying24 (hval 2 24 v2 rfl rfl)
  have w1 : (DataW.weights Ybad.prog 23 d1).all (· ≤ reachBytes) = true := by
    refine List.all_eq_true.2 fun y hy => List.all_eq_true.1 hsz y ?_
    simp only [DataW.weightsEach, List.cons_append, List.mem_append]
    exact .inr (.inl hy)
  have w2 : (DataW.weights Ybad.prog 24 d2).all (· ≤ reachBytes) = true := by
    refine List.all_eq_true.2 fun y hy => List.all_eq_true.1 hsz y ?_
    simp only [DataW.weightsEach, List.cons_append, List.mem_append]
    exact .inr (.inr (.inl hy))
  have hs1 := floats_short (a := a1) (n := l1) (c := c1) hm1 w1
  have hs2 := ints_short (a := a2) (n := l2) (c := c2) hm2 w2
  obtain ⟨da, dn, dc, db, do', bs, e0, hdl, SD, hda, HD⟩ := open_bytes hm0
  obtain ⟨va, n, vc, V, e1, SV, hnv, hvN, hV64⟩ := open_floats hm1
  obtain ⟨wa, m, wc, WW, e2, SW, _, _, _⟩ := open_i64s Ybad.underlying24 Ybad.underlying2 cells2 hm2
  have e0' : Value.slice a0 l0 c0 = .slice da dn dc := by simpa [Value.cells] using e0
  have e1' : Value.slice a1 l1 c1 = .slice va n vc := by simpa [Value.cells] using e1
  have e2' : Value.slice a2 l2 c2 = .slice wa m wc := by simpa [Value.cells] using e2
  cases e0'
  cases e1'
  cases e2'
  have hT := tab_of_laid hL
  have law : Calls Ybad.prog 3 #[.slice a0 l0 c0, .slice a1 l1 c1, .slice a2 l2 c2, .int .i64 lim] W fun e w' => e = .returned (.bool true) ∧ Below W.heap.size W w' := by
    by_cases hbig : 65536 < l1 + l2 ∨ 1048576 < l0
    · exact (law_bigA W a0 a1 a2 l0 c0 l1 c1 l2 c2 lim hs1 hs2 hbig).mono fun e w' ⟨h1, h2⟩ => ⟨h1, by rw [h2]; exact Below.refl _ _⟩
    · exact law_walkA W a0 a1 a2 l0 c0 l1 c1 l2 c2 db do' lim bs V WW hdl (by omega) (by omega) SD hda HD SV (fun h => by have := hvN h; omega) SW hV64 hT
  clear hA0 hval0
  refine law.mono fun e W' ⟨he, bel⟩ => ?_
  subst he
  exact ⟨_, rfl, _, _, _, [], _, [], hW', trodAll_mk1 (shut_bool Ybad.underlying4 _), (trodAll_cons_mk (Below.trod laidOut (by kernel_rfl) (of_decide_eq_true (by kernel_rfl)) k0 bel lt0) (trodAll_cons_mk (Below.trod laidOut (by kernel_rfl) (of_decide_eq_true (by kernel_rfl)) k1 bel lt1) (trodAll_cons_mk (Below.trod laidOut (by kernel_rfl) (of_decide_eq_true (by kernel_rfl)) k2 bel lt2) (trodAll_cons_mk (Below.trod laidOut (by kernel_rfl) (of_decide_eq_true (by kernel_rfl)) k3 bel lt3) trodAll_mk0)))), rfl, bel.frame _, fun h => by cases h⟩

theorem holds : Rows.LawS6436AWholeSaid :=
  OpenClaim.holds_of_wide 3 Ybad.f3 rfl rfl rfl rfl rfl rfl rfl ⟨rfl, rfl, rfl, rfl, rfl⟩ rfl rfl rfl rfl rfl (by kernel_rfl) Ybad.func3 (by kernel_rfl)
    (of_decide_eq_true (by kernel_rfl)) (by unfold Func.isWrapper; first | (rw [if_pos (by decide +kernel)]; kernel_rfl) | (rw [if_neg (by decide +kernel)]; exact ⟨rfl, rfl⟩))
    (fun os started H enc _ => lifted os started H enc)

/-- ████ THE STATEMENT ████ -/
theorem proved : Rows.LawS6436AWholeCardSaid :=
  Claim7.holds_tied_plain_at .later [] [.data, .data, .data] true (true, "329f6c8cb514570f95d2199d1b06bc3d450ce89ea6a678e086ad3d97f291a7d7") false
    holds (fun _ h => by cases h) (by kernel_rfl) (fun _ h => by cases h) lawS6436AWhole_row_tie rfl ⟨rfl, rfl⟩ (by kernel_rfl) rfl
    (fun f fn hf hfn => by
      obtain rfl : f = 3 := Option.some.inj ((show Ybad.prog.funcNamed "example.com/tuck/tuck.LawS6436AWhole" = some 3 by kernel_rfl).symm.trans hf) |>.symm
      obtain rfl : fn = Ybad.f3 := (Option.some.inj (Ybad.func3.symm.trans hfn)).symm
      exact ⟨by kernel_rfl, fun j t ht => by
        rw [Ybad.params3] at ht
        have hm : t ∈ [22, 23, 24, 3] := by simpa using Array.mem_of_getElem? ht
        have hall : ([22, 23, 24, 3].all fun u => !Ybad.prog.wantsStandIn u) = true := by kernel_rfl
        have hx : Ybad.prog.wantsStandIn t = false := by simpa using List.all_eq_true.1 hall t hm
        exact hx⟩)
    (by kernel_rfl)
#print axioms proved
end Go.Proofs.YbulkecgoDoor.lawS6436AWhole

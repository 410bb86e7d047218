/-
  THE TOLD CARD OF 'capture.LawS6439AWhole', after the guide's Hashx family (an array by value, told).
-/
import Derived.Test.YbulkecieFmtCards
import Derived.Test.YbulkecieFmtWalks4
import Derived.ProofKit
import Derived.ChangeSame
import Derived.OpenShut
import Derived.Carry
import Derived.Stop.JoinedAt
import Derived.Stop.Texts
import Derived.Stop.JoinedTold
import Derived.SevenToldRow
namespace Go.Proofs.YbulkecieFmt.lawS6439AWhole
open Go.ChangeShapes Go.WideShapes Go.ChangeAt Go.RowKit Go.Kit
open Go.Extern.Stop Go.Stop Go.Extern
set_option linter.unusedVariables false

theorem own : ownKnob Ybaf.prog.godebug = none := by kernel_rfl
theorem laidOut : laidOutB Ybaf.pinned.checked.prog = true := by kernel_rfl
theorem cells22 : Ybaf.prog.cellsOf 22 = 8 := by kernel_rfl
theorem cells5 : Ybaf.prog.cellsOf 5 = 1 := by kernel_rfl
theorem list8 {α : Type} (l : List α) (h : (⟨l⟩ : Array α).size = 8) : ∃ a b c d e f g i, l = [a, b, c, d, e, f, g, i] := by
  match l, h with
  | [a, b, c, d, e, f, g, i], _ => exact ⟨a, b, c, d, e, f, g, i, rfl⟩

theorem open8 {H : Type} {enc : TypeId × Value → H} {w : World} {base : Nat} {sp : Nat → Bool} {held : Bool} {fuel : Nat} {c0 c1 c2 c3 c4 c5 c6 c7 : Value} {x : DataW H × List MemPlace}
    (h : DataW.trod enc Ybaf.prog w base sp held fuel 22 [c0, c1, c2, c3, c4, c5, c6, c7] = some x) :
    ∃ x0 x1 x2 x3 x4 x5 x6 x7 : Int, (c0 = .int .u8 x0 ∧ (Lit.int .u8 x0).wf = true) ∧ (c1 = .int .u8 x1 ∧ (Lit.int .u8 x1).wf = true) ∧ (c2 = .int .u8 x2 ∧ (Lit.int .u8 x2).wf = true) ∧ (c3 = .int .u8 x3 ∧ (Lit.int .u8 x3).wf = true) ∧
      (c4 = .int .u8 x4 ∧ (Lit.int .u8 x4).wf = true) ∧ (c5 = .int .u8 x5 ∧ (Lit.int .u8 x5).wf = true) ∧ (c6 = .int .u8 x6 ∧ (Lit.int .u8 x6).wf = true) ∧ (c7 = .int .u8 x7 ∧ (Lit.int .u8 x7).wf = true) := by
  obtain ⟨xs, m, _, _, _, hlen, hx⟩ := DataW.trod_array Ybaf.underlying22 h
  rw [cells5] at hx
  have one : ∀ (i : Nat) (c : Value), i < 8 → ([c0, c1, c2, c3, c4, c5, c6, c7].drop (i * 1)).take 1 = [c] → ∃ z : Int, c = .int .u8 z ∧ (Lit.int .u8 z).wf = true := by
    intro i c hi hc
    have h1 := hx i hi
    rw [hc, List.getElem?_eq_getElem (by omega)] at h1
    obtain ⟨z, e, _, wz⟩ := DataW.trod_int Ybaf.underlying5 h1
    simp at e
    exact ⟨z, e, wz⟩
  obtain ⟨x0, h0⟩ := one 0 c0 (by omega) rfl
  obtain ⟨x1, h1⟩ := one 1 c1 (by omega) rfl
  obtain ⟨x2, h2⟩ := one 2 c2 (by omega) rfl
  obtain ⟨x3, h3⟩ := one 3 c3 (by omega) rfl
  obtain ⟨x4, h4⟩ := one 4 c4 (by omega) rfl
  obtain ⟨x5, h5⟩ := one 5 c5 (by omega) rfl
  obtain ⟨x6, h6⟩ := one 6 c6 (by omega) rfl
  obtain ⟨x7, h7⟩ := one 7 c7 (by omega) rfl
  exact ⟨x0, x1, x2, x3, x4, x5, x6, x7, h0, h1, h2, h3, h4, h5, h6, h7⟩

theorem b255 {x : Int} (h : (Lit.int .u8 x).wf = true) : 0 ≤ x ∧ x ≤ 255 := by
  have := bounds_u8 h; omega

set_option maxRecDepth 100000 in
theorem lifted (os : Os) (started : os.Started) (H : Type) (enc : TypeId × Value → H) :
    ReturnsInTold none {} Ybaf.checked os 3 .any Input.okWide ((OpenSpec.ofChange Rows.lawS6439AWholeSpec).preRow enc Ybaf.prog Ybaf.f3 [] false []) (fun F => ((OpenSpec.ofChange Rows.lawS6439AWholeSpec).at F).post enc Ybaf.prog Ybaf.f3 false true false false) (aloneAtReturn Ybaf.prog) nothingAlways := by
  refine returnsInTold_of_row (C := Ybaf.checked) (s := OpenSpec.ofChange Rows.lawS6439AWholeSpec) (by kernel_rfl) own started (by kernel_rfl) Ybaf.func3
    (OpenSpec.witness_stopped (enc := enc) (C := Ybaf.checked) false ⟨#[], #[.agg #[.int .u8 0, .int .u8 0, .int .u8 0, .int .u8 0, .int .u8 0, .int .u8 0, .int .u8 0, .int .u8 0], .int .u32 0, .int .u8 0, .int .u32 0], []⟩ 8 (by kernel_rfl) (by kernel_rfl) (by kernel_rfl) (by kernel_rfl)) ?_
  intro F W base args ds gs before _ hF hval0 hW _ _ _ _ _
  have hval : ∀ (j : Nat) t v, Ybaf.f3.params[j]? = some t → args[j]? = some v → Value.okWide Ybaf.prog W .any base t v := hval0
  have hW' := hW
  obtain ⟨p, q, hA0, hV, rfl, _, _⟩ := hW
  have hA : DataW.TrodAll enc Ybaf.prog W 0 (fun _ => true) true Ybaf.f3.params.toList args.toList ds p := hA0
  rw [Ybaf.params3] at hA hval
  obtain ⟨v0, v1, v2, v3, d0, d1, d2, d3, p0, p1, p2, p3, rfl, rfl, rfl, h0, h1, h2, h3⟩ := trodAll_four hA
  obtain ⟨rfl, rfl⟩ := trodVars_none hV
  have k0 := h0
  have lt0 : ∀ x ∈ p0, x.block < W.heap.size := by obtain ⟨m, hm⟩ := k0; exact DataW.trod_lt m _ _ _ hm
  obtain ⟨cs, rfl, hsz, _⟩ : ∃ cs, v0 = .agg cs ∧ cs.size = Ybaf.prog.cellsOf 22 ∧ Row.okWide Ybaf.prog W .any base 22 cs := by
    have := hval 0 22 v0 rfl rfl
    simpa [Value.okWide, Ybaf.underlying22] using this
  rw [cells22] at hsz
  obtain ⟨l⟩ := cs
  obtain ⟨c0, c1, c2, c3, c4, c5, c6, c7, rfl⟩ := list8 l hsz
  obtain ⟨fuel, hf⟩ := h0
  obtain ⟨x0, x1, x2, x3, x4, x5, x6, x7, ⟨rfl, w0⟩, ⟨rfl, w1⟩, ⟨rfl, w2⟩, ⟨rfl, w3⟩, ⟨rfl, w4⟩, ⟨rfl, w5⟩, ⟨rfl, w6⟩, ⟨rfl, w7⟩⟩ := open8 hf
  obtain ⟨mn, rfl, rfl, rfl, wmn⟩ := open_int Ybaf.underlying23 (hval 1 23 v1 rfl rfl) h1
  obtain ⟨sel, rfl, rfl, rfl, wsel⟩ := open_int Ybaf.underlying5 (hval 2 5 v2 rfl rfl) h2
  obtain ⟨key, rfl, rfl, rfl, wkey⟩ := open_int Ybaf.underlying23 (hval 3 23 v3 rfl rfl) h3
  clear hA0 hval0
  refine (law_any F.told x0 x1 x2 x3 x4 x5 x6 x7 mn sel key W hF (b255 w0) (b255 w1) (b255 w2) (b255 w3) (b255 w4) (b255 w5) (b255 w6) (b255 w7) (b255 wsel).1 (b255 wsel).2).mono fun e W' ⟨he, bel⟩ => ?_
  subst he
  exact ⟨_, rfl, _, _, _, [], _, [], hW', trodAll_mk1 (shut_bool Ybaf.underlying4 _), trodAll_mk4 (Below.trod laidOut (by kernel_rfl) (of_decide_eq_true (by kernel_rfl)) k0 bel lt0) (shut_int Ybaf.underlying23 wmn) (shut_int Ybaf.underlying5 wsel) (shut_int Ybaf.underlying23 wkey), rfl, bel.frame _, fun h => by cases h⟩

theorem stops : Ybaf.pinned.checked.prog.stops = ["fmt.errorf"] := by kernel_rfl
theorem stopKnobs : Ybaf.pinned.checked.prog.stopKnobs = [] := by kernel_rfl
theorem quiet (os : Os) : Stop.quiet Ybaf.pinned.checked.prog os := by
  intro k hk
  rw [stopKnobs] at hk
  cases hk

/-- THE CARD. -/
theorem proved : Rows.LawS6439AWholeToldSaid :=
  Claim7.holds_of_told_any 3 Ybaf.f3 "fmt.errorf" [] [] _ _ _ (by kernel_rfl) rfl rfl rfl laidOut (by kernel_rfl) rfl ⟨rfl, rfl, rfl, rfl, rfl, rfl, rfl⟩ rfl rfl (by kernel_rfl) (by kernel_rfl) Ybaf.func3 (by kernel_rfl)
    (of_decide_eq_true (by kernel_rfl)) (of_decide_eq_true (by kernel_rfl)) stops.symm rfl stopKnobs.symm (by kernel_rfl)
    (by kernel_rfl) (by kernel_rfl) (by kernel_rfl) (by kernel_rfl) (by kernel_rfl) (by kernel_rfl) (by kernel_rfl) (by kernel_rfl) (by kernel_rfl) rfl (by kernel_rfl) rfl rfl
    rfl rfl
    rfl (by kernel_rfl) (by kernel_rfl) (by kernel_rfl) (by decide) (by kernel_rfl)
    (OpenClaim.moreEntering_of (by kernel_rfl) (by kernel_rfl) (by kernel_rfl) (by kernel_rfl) (by kernel_rfl) (by kernel_rfl) (by kernel_rfl) (by kernel_rfl) (by kernel_rfl) (by kernel_rfl))
    ⟨_, WideRow.started_initial, quiet _⟩
    (fun os started _ H enc _ => lifted os started H enc)

#print axioms proved
end Go.Proofs.YbulkecieFmt.lawS6439AWhole

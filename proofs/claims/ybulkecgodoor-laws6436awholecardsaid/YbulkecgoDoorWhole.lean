/-
  Floats: the walks.
-/
import Derived.Test.YbulkecgoDoorFloat
import Derived.BigRegion
namespace Go.Proofs.YbulkecgoDoor
open Go.RowKit Go.Shelf
set_option linter.unusedVariables false
set_option maxRecDepth 100000
open Ieee

/-- A word as an integer, cut towards zero. -/
def toI (b : Nat) : Int := match double.read b with
  | .number s m i => signed s (kut m i) 0
  | _ => 0
theorem toI_eq {b : Nat} {s : Bool} {m : Nat} {i : Int} (h : double.read b = .number s m i) : toI b = signed s (kut m i) 0 := by unfold toI; rw [h]
/-- Is the word a whole number that an int64 holds (and not -0)? -/
def okI (b : Nat) : Bool := inR b && (FloatKind.f64.nearest (toI b) == b)

theorem conv_int {b : Nat} (h : inR b = true) : floatToIntVal .f64 b .i64 = some (toI b) ∧ -9223372036854775808 ≤ toI b ∧ toI b ≤ 9223372036854775807 := by
  obtain ⟨s, m, i, hr, h1, h2⟩ := inR_number h
  have ht : (FloatKind.f64.decode b).toInt .zero = some (signed s (kut m i) 0) := by
    show (double.read b).toInt .zero = _
    rw [hr]; rfl
  have hrange : -9223372036854775808 ≤ signed s (kut m i) 0 ∧ signed s (kut m i) 0 ≤ 9223372036854775807 := by
    rw [signed_eq]
    cases s
    · have := h1 rfl; simp; omega
    · have := h2 rfl; simp; omega
  refine ⟨?_, by rw [toI_eq hr]; exact hrange⟩
  unfold floatToIntVal
  rw [ht, toI_eq hr]
  have e1 : IntKind.i64.min = -9223372036854775808 := by decide
  have e2 : IntKind.i64.max = 9223372036854775807 := by decide
  simp only [e1, e2]
  rw [if_pos hrange]

theorem inR_split (b : Nat) : (inR b = false ∧ ((FloatKind.f64.format.order b 14114281232179134464 == some Ordering.gt || FloatKind.f64.format.order b 14114281232179134464 == some Ordering.eq) = false)) ∨ (((FloatKind.f64.format.order b 14114281232179134464 == some Ordering.gt || FloatKind.f64.format.order b 14114281232179134464 == some Ordering.eq) = true) ∧ ((FloatKind.f64.format.order b 4890909195324358656 == some Ordering.lt) = inR b)) := by
  unfold inR
  cases h : (FloatKind.f64.format.order b 14114281232179134464 == some Ordering.gt || FloatKind.f64.format.order b 14114281232179134464 == some Ordering.eq)
  · exact .inl ⟨rfl, rfl⟩
  · exact .inr ⟨rfl, by simp⟩

def exV (b : Nat) : Int := if inR b then toI b else 0
theorem exV_in {b : Nat} (h : inR b = true) : exV b = toI b := by unfold exV; rw [if_pos h]
theorem exV_out {b : Nat} (h : inR b = false) : exV b = 0 := by unfold exV; rw [h]; rfl
theorem okI_out {b : Nat} (h : inR b = false) : okI b = false := by unfold okI; rw [h]; rfl
theorem okI_in {b : Nat} (h : inR b = true) : okI b = (FloatKind.f64.nearest (toI b) == b) := by unfold okI; rw [h]; rfl
theorem near_lt (n : Int) : FloatKind.f64.nearest n < 18446744073709551616 := by
  have := double.write_lt (.number (n < 0) n.natAbs 0)
  exact this
theorem beq_cast (x y : Nat) : (((x : Nat) : Int) == ((y : Nat) : Int)) = (x == y) := by
  by_cases h : x = y
  · subst h; simp
  · have h2 : ((x : Int) ≠ (y : Int)) := by omega
    rw [beq_false_of_ne h2, beq_false_of_ne h]

set_option maxHeartbeats 1000000 in
theorem exactInt_walk (b : Nat) (w : World) :
    Calls Ybad.prog 34 #[.float .f64 b] w fun e w' => e = .returned (.tuple #[  .int .i64 (exV b), .bool (okI b)]) ∧ w' = w := by
  have HB := @bits64
  rcases inR_split b with ⟨h0, h1⟩ | ⟨h1, h2⟩
  · have H1 := (show Hid _ from exV_out h0)
    have H2 := (show Hid _ from okI_out h0)
    clear h0
    go_enter Ybad.func34, Ybad.ntmps34
    go_wp2_with fail
    go_ret2
    exact ⟨by rw [H1.out, H2.out]; rfl, rfl⟩
  · cases h3 : inR b
    · rw [h3] at h2
      have H1 := (show Hid _ from exV_out h3)
      have H2 := (show Hid _ from okI_out h3)
      clear h3
      go_enter Ybad.func34, Ybad.ntmps34
      go_wp2_with fail
      go_ret2
      exact ⟨by rw [H1.out, H2.out]; rfl, rfl⟩
    · have hcv := conv_int h3
      have hrun : ∀ w, (convert 25 2 (.float .f64 b)).run Ybad.prog w = .ok (.int .i64 (toI b)) w := fun w => run_convert_float_int w 25 2 .f64 .i64 b (toI b) (by rw [Ybad.underlying25]; rfl) Ybad.underlying2 hcv.1
      have H1 := (show Hid _ from exV_in h3)
      have H2 := (show Hid _ from okI_in h3)
      rw [h3] at h2
      obtain ⟨_, g1, g2⟩ := hcv
      generalize toI b = n at *
      clear h3
      go_enter Ybad.func34, Ybad.ntmps34
      go_wp2_with fail
      go_ret2
      refine ⟨?_, rfl⟩
      rw [H1.out, H2.out, ← beq_cast]
      rfl

set_option maxHeartbeats 1000000 in
theorem trunc_walk (b : Nat) (w : World) (s : Bool) (m : Nat) (i : Int) (h : double.read b = .number s m i) :
    Calls Ybad.prog 16 #[.float .f64 b] w fun e w' => e = .returned (.float .f64 (trw b)) ∧ w' = w := by
  have HT : ∀ w, (callFunc 31 #[.float .f64 b]).run Ybad.prog w = .ok (.value (.float .f64 (trw b))) w := fun w => archTrunc b w s m i h
  clear h
  go_enter Ybad.func16, Ybad.ntmps16
  go_wp2_with fail
  go_ret
  exact ⟨rfl, rfl⟩

/-- What the law's own word says. -/
def whV (b : Nat) : Int := if okI b then toI b else 0
theorem whV_ok {b : Nat} (h : okI b = true) : whV b = toI b := by unfold whV; rw [if_pos h]
theorem whV_no {b : Nat} (h : okI b = false) : whV b = 0 := by unfold whV; rw [h]; rfl

set_option maxHeartbeats 2000000 in
theorem bwhole_walk (b : Nat) (hb : b < 18446744073709551616) (w : World) :
    Calls Ybad.prog 27 #[.float .f64 b] w fun e w' => e = .returned (.tuple #[.int .i64 (whV b), .bool (okI b)]) ∧ w' = w := by
  have HB := @bits64
  rcases inR_split b with ⟨h0, h1⟩ | ⟨h1, h2⟩
  · have H1 := (show Hid _ from whV_no (okI_out h0))
    have H2 := (show Hid _ from okI_out h0)
    clear h0
    go_enter Ybad.func27, Ybad.ntmps27
    go_wp2_with fail
    go_ret2
    exact ⟨by rw [H1.out, H2.out]; rfl, rfl⟩
  · cases h3 : inR b
    · rw [h3] at h2
      have H1 := (show Hid _ from whV_no (okI_out h3))
      have H2 := (show Hid _ from okI_out h3)
      clear h3
      go_enter Ybad.func27, Ybad.ntmps27
      go_wp2_with fail
      go_ret2
      exact ⟨by rw [H1.out, H2.out]; rfl, rfl⟩
    · obtain ⟨s, m, i, hr, _, _⟩ := inR_number h3
      have hcv := conv_int h3
      have hrun : ∀ w, (convert 25 2 (.float .f64 b)).run Ybad.prog w = .ok (.int .i64 (toI b)) w := fun w => run_convert_float_int w 25 2 .f64 .i64 b (toI b) (by rw [Ybad.underlying25]; rfl) Ybad.underlying2 hcv.1
      have hew := exact_whole hb hr
      rw [← toI_eq hr] at hew
      have hok := okI_in h3
      have HT := (show Hid _ from fun w => trunc_walk b w s m i hr)
      rw [h3] at h2
      clear h3 hcv hr
      by_cases ht : double.order b (trw b) = some .eq
      · have ht' : FloatKind.f64.format.order b (trw b) = some Ordering.eq := ht
        by_cases hz : double.order b 0 = some .eq
        · have hz' : FloatKind.f64.format.order b 0 = some Ordering.eq := hz
          by_cases hb0 : b = 0
          · have hy : okI b = true := by rw [hok, hew.2 ⟨ht, fun h => h.2 hb0⟩]; simp
            have H1 := (show Hid _ from whV_ok hy)
            have H2 := (show Hid _ from hy)
            clear hok hew hy ht hz hb
            subst hb0
            go_enter Ybad.func27, Ybad.ntmps27
            go_wp2_with fail
            refine Calls.mono (HT.out w) ?_
            rintro e w' ⟨rfl, hw⟩
            obtain rfl : w = w' := hw.symm
            go_wp2_with fail
            go_ret2
            exact ⟨by rw [H1.out, H2.out]; rfl, rfl⟩
          · have hy : okI b = false := by
              rw [hok]
              have : FloatKind.f64.nearest (toI b) ≠ b := fun e => (hew.1 e).2 ⟨hz, hb0⟩
              exact beq_false_of_ne this
            have H1 := (show Hid _ from whV_no hy)
            have H2 := (show Hid _ from hy)
            have hbi : ¬ ((b : Int) = 0) := by omega
            clear hok hew hy ht hz
            go_enter Ybad.func27, Ybad.ntmps27
            go_wp2_with fail
            refine Calls.mono (HT.out w) ?_
            rintro e w' ⟨rfl, hw⟩
            obtain rfl : w = w' := hw.symm
            go_wp2_with fail
            go_ret2
            exact ⟨by rw [H1.out, H2.out]; rfl, rfl⟩
        · have hz' : (FloatKind.f64.format.order b 0 == some Ordering.eq) = false := beq_false_of_ne hz
          have hy : okI b = true := by rw [hok, hew.2 ⟨ht, fun h => hz h.1⟩]; simp
          have H1 := (show Hid _ from whV_ok hy)
          have H2 := (show Hid _ from hy)
          clear hok hew hy ht hz
          go_enter Ybad.func27, Ybad.ntmps27
          go_wp2_with fail
          refine Calls.mono (HT.out w) ?_
          rintro e w' ⟨rfl, hw⟩
          obtain rfl : w = w' := hw.symm
          go_wp2_with fail
          go_ret2
          exact ⟨by rw [H1.out, H2.out]; rfl, rfl⟩
      · have ht' : (FloatKind.f64.format.order b (trw b) == some Ordering.eq) = false := beq_false_of_ne ht
        have ht2 : (FloatKind.f64.format.order b (trw b) != some Ordering.eq) = true := by show (!(FloatKind.f64.format.order b (trw b) == some Ordering.eq)) = true; rw [ht']; rfl
        have hy : okI b = false := by
          rw [hok]
          have : FloatKind.f64.nearest (toI b) ≠ b := fun e => ht (hew.1 e).1
          exact beq_false_of_ne this
        have H1 := (show Hid _ from whV_no hy)
        have H2 := (show Hid _ from hy)
        clear hok hew hy ht
        go_enter Ybad.func27, Ybad.ntmps27
        go_wp2_with fail
        refine Calls.mono (HT.out w) ?_
        rintro e w' ⟨rfl, hw⟩
        obtain rfl : w = w' := hw.symm
        go_wp2_with fail
        go_ret2
        exact ⟨by rw [H1.out, H2.out]; rfl, rfl⟩
end Go.Proofs.YbulkecgoDoor

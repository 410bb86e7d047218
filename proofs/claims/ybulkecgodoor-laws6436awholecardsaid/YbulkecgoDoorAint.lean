/-
  The law's own word on whole numbers; bytes alike.
-/
import Derived.Test.YbulkecgoDoorScaled
import Derived.Test.YbulkecgoDoorBytes
import Derived.BigRegion
namespace Go.Proofs.YbulkecgoDoor
open Go.RowKit Go.Shelf _root_.Go.Proofs.YbulkecgoDoor.Own
set_option linter.unusedVariables false
set_option maxRecDepth 100000
open Ieee

theorem ord_cases (b : Nat) : (FloatKind.f64.format.order b b = none ∧ FloatKind.f64.format.order b 14114281232179134464 = none ∧ FloatKind.f64.format.order b 4890909195324358656 = none) ∨
    (FloatKind.f64.format.order b b = some .eq ∧ (∃ r, FloatKind.f64.format.order b 14114281232179134464 = some r) ∧ ∃ r, FloatKind.f64.format.order b 4890909195324358656 = some r) := by
  have r1 : double.read 14114281232179134464 = .number true 4503599627370496 11 := by decide +kernel
  have r2 : double.read 4890909195324358656 = .number false 4503599627370496 11 := by decide +kernel
  have q0 : FloatKind.f64.format.order b b = (double.read b).order (double.read b) := rfl
  have q1 : FloatKind.f64.format.order b 14114281232179134464 = (double.read b).order (double.read 14114281232179134464) := rfl
  have q2 : FloatKind.f64.format.order b 4890909195324358656 = (double.read b).order (double.read 4890909195324358656) := rfl
  rw [q0, q1, q2, r1, r2]
  obtain ⟨s, (⟨m, i, e, _⟩ | e | ⟨t, e⟩)⟩ := read_cases b
  · rw [e]
    exact .inr ⟨by show some (compare _ _) = some .eq; rw [Option.some.injEq, cmp_eq], ⟨_, rfl⟩, ⟨_, rfl⟩⟩
  · rw [e]
    cases s
    · exact .inr ⟨rfl, ⟨_, rfl⟩, ⟨_, rfl⟩⟩
    · exact .inr ⟨rfl, ⟨_, rfl⟩, ⟨_, rfl⟩⟩
  · rw [e]
    exact .inl ⟨rfl, rfl, rfl⟩
theorem okI_neg0 : okI 9223372036854775808 = false := by decide +kernel
theorem order_eq_symm {x y : Nat} (h : FloatKind.f64.format.order x y = some .eq) : FloatKind.f64.format.order y x = some .eq := by
  have q : ∀ x y : Nat, FloatKind.f64.format.order x y = (double.read x).order (double.read y) := fun _ _ => rfl
  rw [q] at h ⊢
  obtain ⟨s, (⟨m, i, e, _⟩ | e | ⟨t, e⟩)⟩ := read_cases x
  · obtain ⟨s', (⟨m', i', e', _⟩ | e' | ⟨t', e'⟩)⟩ := read_cases y
    · rw [e, e'] at h
      rw [e, e']
      have h1 : some (compare (signed s m (i - min i i').toNat) (signed s' m' (i' - min i i').toNat)) = some Ordering.eq := h
      show some (compare (signed s' m' (i' - min i' i).toNat) (signed s m (i - min i' i).toNat)) = some Ordering.eq
      rw [Option.some.injEq, cmp_eq] at h1 ⊢
      rw [Int.min_comm i' i]
      exact h1.symm
    · rw [e, e'] at h
      have h1 : some (if s' = true then Ordering.gt else Ordering.lt) = some Ordering.eq := h
      cases s' <;> cases h1
    · rw [e, e'] at h; cases h
  · obtain ⟨s', (⟨m', i', e', _⟩ | e' | ⟨t', e'⟩)⟩ := read_cases y
    · rw [e, e'] at h
      have h1 : some (if s = true then Ordering.lt else Ordering.gt) = some Ordering.eq := h
      cases s <;> cases h1
    · rw [e, e'] at h
      rw [e, e']
      cases s <;> cases s' <;> first | rfl | cases h
    · rw [e, e'] at h; cases h
  · rw [e] at h; cases h
theorem zero_bits {b : Nat} (hb : b < 18446744073709551616) (h : double.order b 0 = some .eq) : b = 0 ∨ b = 9223372036854775808 := by
  have r0 : double.read 0 = .number false 0 (-1074) := by decide +kernel
  have h' : (double.read b).order (double.read 0) = some .eq := h
  obtain ⟨s, (⟨m, i, e, _, f, _⟩ | e | ⟨t, e⟩)⟩ := read_cases b
  · rw [e, r0] at h'
    have h1 : some (compare (signed s m (i - min i (-1074)).toNat) (signed false 0 (-1074 - min i (-1074)).toNat)) = some Ordering.eq := h'
    rw [Option.some.injEq, cmp_eq, (signed_zero_iff false 0 _).2 rfl, signed_zero_iff] at h1
    rcases f with ⟨_, f1, _⟩ | ⟨f1, _⟩
    · omega
    · omega
  · rw [e, r0] at h'
    have h1 : some (if s = true then Ordering.lt else Ordering.gt) = some Ordering.eq := h'
    cases s <;> cases h1
  · rw [e, r0] at h'; cases h'

set_option maxHeartbeats 1000000 in
theorem isNaN_walk (b : Nat) (w : World) : Calls Ybad.prog 15 #[.float .f64 b] w fun e w' => e = .returned (.bool (FloatKind.f64.format.order b b != some .eq)) ∧ w' = w := by
  go_enter Ybad.func15, Ybad.ntmps15
  go_wp2_with fail
  go_ret
  exact ⟨rfl, rfl⟩

set_option maxHeartbeats 2000000 in
theorem aint_walk (b : Nat) (hb : b < 18446744073709551616) (w : World) :
    Calls Ybad.prog 6 #[.float .f64 b] w fun e w' => e = .returned (.tuple #[.int .i64 (whV b), .bool (okI b)]) ∧ w' = w := by
  have HBT := @bits64
  have KN := (show Hid _ from isNaN_walk b w)
  rcases ord_cases b with ⟨n0, n1, n2⟩ | ⟨n0, ⟨r1, n1⟩, r2, n2⟩
  · have h0 : inR b = false := by unfold inR; rw [n1]; rfl
    have H1 := (show Hid _ from whV_no (okI_out h0))
    have H2 := (show Hid _ from okI_out h0)
    rw [n0] at KN
    clear h0 n1 n2 hb
    go_enter Ybad.func6, Ybad.ntmps6
    go_wp2_with fail
    refine Calls.mono KN.out ?_
    rintro e w' ⟨rfl, hw⟩
    obtain rfl : w = w' := hw.symm
    clear hw
    have e1 : ((none : Option Ordering) != some Ordering.eq) = true := rfl
    go_wp2_with fail
    go_ret2
    exact ⟨by rw [H1.out, H2.out]; rfl, rfl⟩
  · rw [n0] at KN
    by_cases hl : r1 = .lt
    · subst hl
      have h0 : inR b = false := by unfold inR; rw [n1]; rfl
      have H1 := (show Hid _ from whV_no (okI_out h0))
      have H2 := (show Hid _ from okI_out h0)
      clear h0 n2 hb
      go_enter Ybad.func6, Ybad.ntmps6
      go_wp2_with fail
      refine Calls.mono KN.out ?_
      rintro e w' ⟨rfl, hw⟩
      obtain rfl : w = w' := hw.symm
      clear hw
      have e1 : ((some Ordering.eq : Option Ordering) != some Ordering.eq) = false := rfl
      go_wp2_with fail
      go_ret2
      exact ⟨by rw [H1.out, H2.out]; rfl, rfl⟩
    · have m1 : (FloatKind.f64.format.order b 14114281232179134464 == some Ordering.lt) = false := by rw [n1]; cases r1 <;> first | rfl | exact absurd rfl hl
      by_cases hg : r2 = .lt
      · subst hg
        have h3 : inR b = true := by unfold inR; rw [n1, n2]; cases r1 <;> first | rfl | exact absurd rfl hl
        obtain ⟨s, m, i, hr, _, _⟩ := inR_number h3
        have hcv := conv_int h3
        have hrun : ∀ w, (convert 25 2 (.float .f64 b)).run Ybad.prog w = .ok (.int .i64 (toI b)) w := fun w => run_convert_float_int w 25 2 .f64 .i64 b (toI b) (by rw [Ybad.underlying25]; rfl) Ybad.underlying2 hcv.1
        have hew := exact_whole hb hr
        rw [← toI_eq hr] at hew
        have hok := okI_in h3
        have HT := (show Hid _ from fun w => trunc_walk b w s m i hr)
        clear h3 hcv hr n1 hl
        by_cases ht : double.order b (trw b) = some .eq
        · have ht' : FloatKind.f64.format.order (trw b) b = some Ordering.eq := order_eq_symm ht
          by_cases hz : b = 9223372036854775808
          · have hy : okI b = false := by rw [hz]; exact okI_neg0
            have H1 := (show Hid _ from whV_no hy)
            have H2 := (show Hid _ from hy)
            have hz' : ((b : Int) == 9223372036854775808) = true := by rw [hz]; rfl
            clear hok hew hy ht hz hb
            go_enter Ybad.func6, Ybad.ntmps6
            go_wp2_with fail
            refine Calls.mono KN.out ?_
            rintro e w' ⟨rfl, hw⟩
            obtain rfl : w = w' := hw.symm
            clear hw
            go_wp2_with fail
            refine Calls.mono (HT.out w) ?_
            rintro e w' ⟨rfl, hw⟩
            obtain rfl : w = w' := hw.symm
            clear hw
            go_wp2_with fail
            go_ret2
            exact ⟨by rw [H1.out, H2.out]; rfl, rfl⟩
          · have hy : okI b = true := by
              rw [hok, hew.2 ⟨ht, fun h => by rcases zero_bits hb h.1 with h9 | h9 <;> first | exact h.2 h9 | exact hz h9⟩]; simp
            have H1 := (show Hid _ from whV_ok hy)
            have H2 := (show Hid _ from hy)
            have hz' : ((b : Int) == 9223372036854775808) = false := beq_false_of_ne (by omega)
            clear hok hew hy ht hz hb
            go_enter Ybad.func6, Ybad.ntmps6
            go_wp2_with fail
            refine Calls.mono KN.out ?_
            rintro e w' ⟨rfl, hw⟩
            obtain rfl : w = w' := hw.symm
            clear hw
            go_wp2_with fail
            refine Calls.mono (HT.out w) ?_
            rintro e w' ⟨rfl, hw⟩
            obtain rfl : w = w' := hw.symm
            clear hw
            go_wp2_with fail
            go_ret2
            exact ⟨by rw [H1.out, H2.out]; rfl, rfl⟩
        · have hts : ¬ FloatKind.f64.format.order (trw b) b = some Ordering.eq := fun h => ht (order_eq_symm h)
          have ht2 : (FloatKind.f64.format.order (trw b) b != some Ordering.eq) = true := by show (!(FloatKind.f64.format.order (trw b) b == some Ordering.eq)) = true; rw [beq_false_of_ne hts]; rfl
          have hy : okI b = false := by
            rw [hok]
            have : FloatKind.f64.nearest (toI b) ≠ b := fun e => ht (hew.1 e).1
            exact beq_false_of_ne this
          have H1 := (show Hid _ from whV_no hy)
          have H2 := (show Hid _ from hy)
          clear hok hew hy ht hts hb
          go_enter Ybad.func6, Ybad.ntmps6
          go_wp2_with fail
          refine Calls.mono KN.out ?_
          rintro e w' ⟨rfl, hw⟩
          obtain rfl : w = w' := hw.symm
          clear hw
          go_wp2_with fail
          refine Calls.mono (HT.out w) ?_
          rintro e w' ⟨rfl, hw⟩
          obtain rfl : w = w' := hw.symm
          clear hw
          go_wp2_with fail
          go_ret2
          exact ⟨by rw [H1.out, H2.out]; rfl, rfl⟩
      · have h0 : inR b = false := by unfold inR; rw [n1, n2]; cases r1 <;> cases r2 <;> first | rfl | exact absurd rfl hg
        have H1 := (show Hid _ from whV_no (okI_out h0))
        have H2 := (show Hid _ from okI_out h0)
        have m2 : (FloatKind.f64.format.order b 4890909195324358656 == some Ordering.gt || FloatKind.f64.format.order b 4890909195324358656 == some Ordering.eq) = true := by rw [n2]; cases r2 <;> first | rfl | exact absurd rfl hg
        clear h0 hb n1 n2 hl hg
        go_enter Ybad.func6, Ybad.ntmps6
        go_wp2_with fail
        refine Calls.mono KN.out ?_
        rintro e w' ⟨rfl, hw⟩
        obtain rfl : w = w' := hw.symm
        clear hw
        go_wp2_with fail
        go_ret2
        exact ⟨by rw [H1.out, H2.out]; rfl, rfl⟩

/-- The bytes of a slice. -/
def Byc (w : World) (b o n : Nat) (F : Nat → Nat) : Prop := ∀ i, i < n → w.cell? ⟨b, o + i, none⟩ = some (.int .u8 ((F i : Nat) : Int))

set_option maxHeartbeats 1000000 in
theorem aeq_walk (w : World) (xa ya : Option Addr) (n xc yc xb xo yb yo : Nat) (F : Nat → Nat) (hn : n ≤ 2000000000) (hx : 0 < n → xa = some ⟨xb, xo, none⟩) (hy : 0 < n → ya = some ⟨yb, yo, none⟩) (HX : Hid (Byc w xb xo n F)) (HY : Hid (Byc w yb yo n F)) :
    Calls Ybad.prog 20 #[.slice xa n xc, .slice ya n yc] w fun e w' => e = .returned (.bool true) ∧ ∃ m, w' = w.drewN m := by
  have HA := (show Hid _ from And.intro hx hy)
  clear hx hy
  have hn' : (n : Int) ≤ 2000000000 := by omega
  go_enter Ybad.func20, Ybad.ntmps20
  go_wp2_with fail
  go_loopw [4, 5, 13] (fun x4 x5 x13 wr => x4 = .bool false ∧ ∃ i : Nat, i ≤ n ∧ x13 = .int .i64 i ∧ ∃ m, wr = w.drewN m) (fun _ _ i _ => n - (intOf i).toNat)
  case atStart => exact ⟨rfl, 0, by omega, rfl, 0, rfl⟩
  case round =>
    obtain ⟨rfl, i, hi, rfl, m, hwr⟩ := hrel
    by_cases hin : i < n
    · have hin' : (i : Int) < n := by omega
      obtain rfl := HA.out.1 (by omega)
      obtain rfl := HA.out.2 (by omega)
      have h1 : wr.cell? ⟨xb, xo + i, none⟩ = some (.int .u8 ((F i : Nat) : Int)) := by rw [hwr]; exact HX.out i hin
      have h2 : wr.cell? ⟨yb, yo + i, none⟩ = some (.int .u8 ((F i : Nat) : Int)) := by rw [hwr]; exact HY.out i hin
      have HW := (show Hid _ from hwr)
      clear hwr
      go_wp2_with fail
      go_big_region
      go_wp2_with fail
      go_roundw
      case rel => exact ⟨rfl, i + 1, by omega, by go_num, m + 1, by rw [HW.out]; rfl⟩
      case measure => simp [intOf]; omega
    · obtain rfl : n = i := by omega
      have hin' : ¬ (n : Int) < n := by omega
      have HW := (show Hid _ from hwr)
      clear hwr
      go_wp2_with fail
      go_ret
      exact ⟨rfl, m, HW.out⟩
end Go.Proofs.YbulkecgoDoor

/-
  math.Pow10, scaled numbers.
-/
import Derived.Test.YbulkecgoDoorRound
import Derived.BigRegion
namespace Go.Proofs.YbulkecgoDoor
open Go.RowKit Go.Shelf
set_option linter.unusedVariables false
set_option maxRecDepth 100000
open Ieee

/-- The powers of ten, as words. -/
def p10 (k : Nat) : Nat := [4607182418800017408, 4621819117588971520, 4636737291354636288, 4652007308841189376, 4666723172467343360, 4681608360884174848, 4696837146684686336, 4711630319722168320, 4726483295884279808, 4741671816366391296, 4756540486875873280, 4771362005757984768, 4786511204640096256, 4801453603149578240, 4816244402031689728, 4831355200913801216, 4846369599423283200, 4861130398305394688, 4876203697187506176].getD k 0
theorem p10_step : ∀ k, k < 18 → double.mul (p10 k) 4621819117588971520 = some (p10 (k + 1)) := by decide +kernel
theorem p10_one : ∀ k, k < 19 → double.mul 4607182418800017408 (p10 k) = some (p10 k) := by decide +kernel

/-- The tables lie as they were laid. -/
structure Tab (w : World) : Prop where
  c1 : w.cell? ⟨1, 0, none⟩ = some (.float .f64 4607182418800017408)
  c2 : ∀ j, j < 19 → w.cell? ⟨2, j, none⟩ = some (.float .f64 (p10 j))

theorem run_mul {x y r : Nat} (h : double.mul x y = some r) (w : World) : (binOp .mul 25 (.float .f64 x) (.float .f64 y)).run Ybad.prog w = .ok (.float .f64 r) w := run_float_arith w .mul 25 .f64 x y r h
theorem run_div {x y r : Nat} (h : double.div x y = some r) (w : World) : (binOp .quo 25 (.float .f64 x) (.float .f64 y)).run Ybad.prog w = .ok (.float .f64 r) w := run_float_arith w .quo 25 .f64 x y r h

set_option maxHeartbeats 1000000 in
theorem pow10_walk (k : Nat) (hk : k < 19) (w : World) (HT : Hid (Tab w)) :
    Calls Ybad.prog 35 #[.int .i64 k] w fun e w' => e = .returned (.float .f64 (p10 k)) ∧ w' = w.drew := by
  have h1 : (0 : Int) ≤ k := by omega
  have h2 : (k : Int) ≤ 308 := by omega
  have e1 : k % 32 = k := by omega
  have e2 : k / 32 = 0 := by omega
  have e3 : (k : Int) / 32 = 0 := by omega
  have e4 : (k : Int) % 32 = k := by omega
  have c1 := HT.out.c1
  have c2 := HT.out.c2 k hk
  have hm := run_mul (p10_one k hk)
  generalize p10 k = p at *
  go_enter Ybad.func35, Ybad.ntmps35
  go_wp2_with fail
  go_big_region
  go_wp2_with fail
  go_ret
  exact ⟨rfl, rfl⟩

theorem Tab.drewN {w : World} (h : Tab w) (n : Nat) : Tab (w.drewN n) := ⟨h.c1, h.c2⟩

/-- A word that was written is no NaN. -/
theorem read_near (n : Int) : ∃ s, (∃ m i, double.read (FloatKind.f64.nearest n) = .number s m i) ∨ double.read (FloatKind.f64.nearest n) = .infinity s := by
  have hw : ∃ (s : Bool) (r : Nat), FloatKind.f64.nearest n = double.word s r ∧ r ≤ double.infRung := by
    show ∃ (s : Bool) (r : Nat), double.nearest (decide (n < 0)) n.natAbs 0 = double.word s r ∧ r ≤ double.infRung
    unfold Format.nearest
    split
    · exact ⟨_, 0, rfl, Nat.zero_le _⟩
    · exact ⟨_, _, rfl, Nat.min_le_right _ _⟩
  obtain ⟨s, r, e, hr⟩ := hw
  rw [e]
  have e1 : double.signWeight = 9223372036854775808 := rfl
  have e2 : double.infRung = 9218868437227405312 := rfl
  have hmod : double.word s r % double.signWeight = r := by
    unfold Format.word
    rw [e1]
    rw [e2] at hr
    cases s <;> simp <;> omega
  unfold Format.read
  simp only [hmod]
  refine ⟨double.word s r / double.signWeight % 2 == 1, ?_⟩
  split
  · exact .inl ⟨_, _, rfl⟩
  · split
    · exact .inl ⟨_, _, rfl⟩
    · split
      · exact .inr rfl
      · exfalso; omega

theorem p10_read : ∀ k, k < 19 → ∃ m i, double.read (p10 k) = .number false m i ∧ m ≠ 0 := by
  intro k hk
  have h : ∀ k, k < 19 → (match double.read (p10 k) with | .number s m i => !s && m != 0 | _ => false) = true := by decide +kernel
  have := h k hk
  split at this
  · rename_i s m i e
    simp at this
    exact ⟨m, i, by rw [e, this.1], this.2⟩
  · cases this

/-- m / 10^k as a word. -/
def qv (n : Int) (k : Nat) : Nat := (double.div (FloatKind.f64.nearest n) (p10 k)).getD 0
theorem qv_some (n : Int) (k : Nat) (hk : k < 19) : double.div (FloatKind.f64.nearest n) (p10 k) = some (qv n k) := by
  have h : (double.div (FloatKind.f64.nearest n) (p10 k)).isSome = true := by
    obtain ⟨m, i, hp, hm⟩ := p10_read k hk
    unfold Format.div
    rw [hp]
    obtain ⟨s, (⟨m', i', e⟩ | e)⟩ := read_near n
    · rw [e]
      simp only [Datum.quotient]
      rw [if_neg hm]
      rfl
    · rw [e]
      rfl
  unfold qv
  obtain ⟨v, hv⟩ := Option.isSome_iff_exists.1 h
  rw [hv]; rfl

/-- Has the word m for which m / 10^k is the word? -/
def scOK (b k : Nat) : Bool :=
  if k = 0 then okI b else match double.mul b (p10 k) with
    | some r => okI (rnd r) && (qv (exV (rnd r)) k == b)
    | none => false
def scV (b k : Nat) : Int :=
  if k = 0 then toI b else match double.mul b (p10 k) with
    | some r => toI (rnd r)
    | none => 0
theorem okI_inR {b : Nat} (h : okI b = true) : inR b = true := by unfold okI at h; simp at h; exact h.1
theorem exV_ok {b : Nat} (h : okI b = true) : exV b = toI b := exV_in (okI_inR h)
theorem exV_rng (b : Nat) : -9223372036854775808 ≤ exV b ∧ exV b ≤ 9223372036854775807 := by
  cases h : inR b
  · rw [exV_out h]; omega
  · rw [exV_in h]; exact (conv_int h).2
theorem whV_ex {b : Nat} (h : okI b = true) : whV b = exV b := by rw [whV_ok h, exV_ok h]

/-- A NaN that the model hands back. -/
def isNan (b : Nat) : Prop := 9218868437227405312 < b % 9223372036854775808 ∧ b < 18446744073709551616
theorem nan_read {b : Nat} (h : isNan b) : ∃ s t, double.read b = .nan s t := by
  have e1 : double.signWeight = 9223372036854775808 := rfl
  have e2 : double.binade = 4503599627370496 := rfl
  have e3 : double.infRung = 9218868437227405312 := rfl
  unfold Format.read
  simp only [e1, e2, e3]
  have h1 := h.1
  rw [if_neg (by omega), if_neg (by omega), if_neg (by omega)]
  exact ⟨_, _, rfl⟩
theorem nan_inR {b : Nat} (h : isNan b) : inR b = false := by
  cases hh : inR b
  · rfl
  · obtain ⟨s, m, i, e, _⟩ := inR_number hh
    obtain ⟨s', t, e'⟩ := nan_read h
    rw [e] at e'; cases e'
theorem nan_rnd {b : Nat} (h : isNan b) : rnd b = b := by
  unfold rnd rndE
  have h1 := h.1
  have h2 := h.2
  rw [if_neg (by omega), if_neg (by omega)]

/-- Where the product is no number the model asks the tape for a NaN. -/
theorem run_mul_nan {x y : Nat} (h : double.mul x y = none) (w : World) : ∃ b, isNan b ∧ (binOp .mul 25 (.float .f64 x) (.float .f64 y)).run Ybad.prog w = .ok (.float .f64 b) w.drew := by
  refine ⟨(Question.nanBits .f64 x y).cut (w.tape w.drawn (Question.nanBits .f64 x y)), ?_, ?_⟩
  · unfold Question.cut isNan
    simp only
    generalize w.tape w.drawn (Question.nanBits FloatKind.f64 x y) = t
    have hr : t / 2 % (2 ^ 52 - 1) < 4503599627370495 := Nat.mod_lt _ (by decide)
    generalize t / 2 % (2 ^ 52 - 1) = r at *
    rcases Nat.mod_two_eq_zero_or_one t with h | h <;> rw [h] <;> constructor <;> omega
  · have h' : FloatKind.f64.format.mul x y = none := h
    simp [binOp, Op.floatArith, h', Question.forced]
theorem fromScaled_walk (n : Int) (hn : -9223372036854775808 ≤ n ∧ n ≤ 9223372036854775807) (k : Nat) (hk : k < 19) (hk0 : k ≠ 0) (w : World) (HT : Hid (Tab w)) :
    Calls Ybad.prog 36 #[.int .i64 n, .int .i64 k] w fun e w' => e = .returned (.float .f64 (qv n k)) ∧ w' = w.drew := by
  obtain ⟨h1, h2⟩ := hn
  have hk1 : ¬ (k : Int) = 0 := by omega
  have KP := (show Hid _ from pow10_walk k hk w HT)
  have hd := run_div (qv_some n k hk)
  have hcv : ∀ w, (convert 2 25 (.int .i64 n)).run Ybad.prog w = .ok (.float .f64 (FloatKind.f64.nearest n)) w := by
    intro w
    simp [convert, go_sem, Conv.intToFloat]
  generalize qv n k = q at *
  generalize FloatKind.f64.nearest n = nn at *
  go_enter Ybad.func36, Ybad.ntmps36
  go_wp2_with fail
  refine Calls.mono KP.out ?_
  rintro e w' ⟨rfl, rfl⟩
  go_wp2_with fail
  go_ret
  exact ⟨rfl, rfl⟩

theorem scOK_zero (b : Nat) : scOK b 0 = okI b := by unfold scOK; rfl
theorem scV_zero (b : Nat) : scV b 0 = toI b := by unfold scV; rfl
theorem scOK_none {b k : Nat} (hk : k ≠ 0) (h : double.mul b (p10 k) = none) : scOK b k = false := by unfold scOK; rw [if_neg hk, h]
theorem scOK_some {b k r : Nat} (hk : k ≠ 0) (h : double.mul b (p10 k) = some r) : scOK b k = (okI (rnd r) && (qv (exV (rnd r)) k == b)) := by unfold scOK; rw [if_neg hk, h]
theorem scV_some {b k r : Nat} (hk : k ≠ 0) (h : double.mul b (p10 k) = some r) : scV b k = toI (rnd r) := by unfold scV; rw [if_neg hk, h]
theorem mul_lt64 {x y r : Nat} (h : double.mul x y = some r) : r < 18446744073709551616 := double.mul_lt h

set_option maxHeartbeats 2000000 in
theorem scaledInt_walk (b k : Nat) (hk : k < 19) (w : World) (HT : Hid (Tab w)) :
    Calls Ybad.prog 22 #[.float .f64 b, .int .i64 k] w fun e w' => (∃ m, e = .returned (.tuple #[.int .i64 m, .bool (scOK b k)]) ∧ (scOK b k = true → m = scV b k)) ∧ ∃ j, w' = w.drewN j := by
  have HB := @bits64
  by_cases hk0 : k = 0
  · subst hk0
    have K1 := (show Hid _ from exactInt_walk b w)
    have H1 := (show Hid _ from scOK_zero b)
    have H2 : Hid (okI b = true → exV b = scV b 0) := fun h => by rw [scV_zero, exV_ok h]
    go_enter Ybad.func22, Ybad.ntmps22
    go_wp2_with fail
    refine Calls.mono K1.out ?_
    rintro e w' ⟨rfl, hw⟩
    obtain rfl : w = w' := hw.symm
    go_wp2_with fail
    go_ret2
    exact ⟨⟨exV b, by rw [H1.out]; rfl, by rw [H1.out]; exact H2.out⟩, 0, rfl⟩
  · have hk1 : ¬ (k : Int) = 0 := by omega
    have KP := (show Hid _ from pow10_walk k hk w HT)
    cases hmul : double.mul b (p10 k) with
    | none =>
      obtain ⟨N, hN, hrun⟩ := run_mul_nan hmul w.drew
      have K2 := (show Hid _ from round_walk N hN.2 w.drew.drew)
      rw [nan_rnd hN] at K2
      have K3 := (show Hid _ from exactInt_walk N w.drew.drew)
      have hno := okI_out (nan_inR hN)
      rw [hno] at K3
      have H1 := (show Hid _ from scOK_none hk0 hmul)
      clear hmul hN hno
      generalize p10 k = p at *
      go_enter Ybad.func22, Ybad.ntmps22
      go_wp2_with fail
      refine Calls.mono KP.out ?_
      rintro e w' ⟨rfl, rfl⟩
      go_wp2_with fail
      refine Calls.mono K2.out ?_
      rintro e w' ⟨rfl, hw⟩
      obtain rfl : w.drew.drew = w' := hw.symm
      go_wp2_with fail
      refine Calls.mono K3.out ?_
      rintro e w' ⟨rfl, hw⟩
      obtain rfl : w.drew.drew = w' := hw.symm
      go_wp2_with fail
      go_ret2
      exact ⟨⟨exV N, by rw [H1.out]; rfl, fun h => by rw [H1.out] at h; cases h⟩, 2, rfl⟩
    | some r =>
      have hrun := run_mul hmul
      have hr := mul_lt64 hmul
      have K2 := (show Hid _ from fun W => round_walk r hr W)
      have K3 := (show Hid _ from fun W => exactInt_walk (rnd r) W)
      have H1 := (show Hid _ from scOK_some hk0 hmul)
      have H2 := (show Hid _ from scV_some hk0 hmul)
      have hex := exV_rng (rnd r)
      have K4 := (show Hid _ from fromScaled_walk (exV (rnd r)) hex k hk hk0 w.drew (HT.out.drewN 1))
      cases hok : okI (rnd r)
      · rw [hok] at K3 H1
        clear hmul hok
        generalize rnd r = R at *
        generalize p10 k = p at *
        generalize exV R = X at *
        go_enter Ybad.func22, Ybad.ntmps22
        go_wp2_with fail
        refine Calls.mono KP.out ?_
        rintro e w' ⟨rfl, rfl⟩
        go_wp2_with fail
        refine Calls.mono (K2.out _) ?_
        rintro e w' ⟨rfl, hw⟩
        obtain rfl : w.drew = w' := hw.symm
        go_wp2_with fail
        refine Calls.mono (K3.out _) ?_
        rintro e w' ⟨rfl, hw⟩
        obtain rfl : w.drew = w' := hw.symm
        go_wp2_with fail
        go_ret2
        exact ⟨⟨X, by rw [H1.out]; rfl, fun h => by rw [H1.out] at h; cases h⟩, 1, rfl⟩
      · have H3 := (show Hid _ from exV_ok hok)
        rw [hok] at K3 H1
        clear hmul hok
        generalize toI (rnd r) = TI at *
        generalize hRR : rnd r = R at *
        generalize p10 k = p at *
        generalize qv (exV R) k = Q at *
        generalize exV R = X at *
        go_enter Ybad.func22, Ybad.ntmps22
        go_wp2_with fail
        refine Calls.mono KP.out ?_
        rintro e w' ⟨rfl, rfl⟩
        go_wp2_with fail
        refine Calls.mono (K2.out _) ?_
        rintro e w' ⟨rfl, hw⟩
        obtain rfl : w.drew = w' := hw.symm
        go_wp2_with fail
        refine Calls.mono (K3.out _) ?_
        rintro e w' ⟨rfl, hw⟩
        obtain rfl : w.drew = w' := hw.symm
        go_wp2_with fail
        refine Calls.mono K4.out ?_
        rintro e w' ⟨rfl, rfl⟩
        go_wp2_with fail
        go_ret2
        refine ⟨⟨X, ?_, fun _ => by rw [H2.out, H3.out]⟩, 2, rfl⟩
        rw [H1.out, ← beq_cast]
        rfl

set_option maxHeartbeats 2000000 in
theorem bscaled_walk (b k : Nat) (hb : b < 18446744073709551616) (hk : k < 19) (w : World) :
    Calls Ybad.prog 11 #[.float .f64 b, .int .i64 k] w fun e w' => (∃ m, e = .returned (.tuple #[.int .i64 m, .bool (scOK b k)]) ∧ (scOK b k = true → m = scV b k)) ∧ ∃ j, w' = w.drewN j := by
  have HB := @bits64
  by_cases hk0 : k = 0
  · subst hk0
    have K1 := (show Hid _ from bwhole_walk b hb w)
    have H1 := (show Hid _ from scOK_zero b)
    have H2 : Hid (okI b = true → whV b = scV b 0) := fun h => by rw [scV_zero, whV_ok h]
    go_enter Ybad.func11, Ybad.ntmps11
    go_wp2_with fail
    refine Calls.mono K1.out ?_
    rintro e w' ⟨rfl, hw⟩
    obtain rfl : w = w' := hw.symm
    go_wp2_with fail
    go_ret2
    exact ⟨⟨whV b, by rw [H1.out]; rfl, by rw [H1.out]; exact H2.out⟩, 0, rfl⟩
  · have hk1 : ¬ (k : Int) = 0 := by omega
    go_enter Ybad.func11, Ybad.ntmps11
    go_wp2_with fail
    go_loopw [6, 7] (fun p i wr => ∃ j : Nat, j ≤ k ∧ p = .float .f64 (p10 j) ∧ i = .int .i64 j ∧ wr = w) (fun _ i _ => k - (intOf i).toNat)
    case atStart => exact ⟨0, by omega, rfl, rfl, rfl⟩
    case round =>
      obtain ⟨j, hj, rfl, rfl, hwr⟩ := hrel
      obtain rfl : w = wr := hwr.symm
      clear hwr
      by_cases hjk : j < k
      · have hrun := run_mul (p10_step j (by omega))
        have hjk' : (j : Int) < k := by omega
        generalize hP : p10 (j + 1) = P at *
        have HP := (show Hid _ from hP)
        clear hP
        go_wp2_with fail
        go_roundw
        case rel => exact ⟨j + 1, by omega, by rw [HP.out], by go_num, by trivial⟩
        case measure => simp [intOf]; omega
      · obtain rfl : j = k := by omega
        have hjk' : ¬ (j : Int) < j := by omega
        cases hmul : double.mul b (p10 j) with
        | none =>
          obtain ⟨N, hN, hrun⟩ := run_mul_nan hmul w
          have K2 := (show Hid _ from round_walk N hN.2 w.drew)
          rw [nan_rnd hN] at K2
          have K3 := (show Hid _ from bwhole_walk N hN.2 w.drew)
          have hno := okI_out (nan_inR hN)
          rw [hno] at K3
          have H1 := (show Hid _ from scOK_none hk0 hmul)
          clear hmul hN hno
          generalize p10 j = p at *
          go_wp2_with fail
          refine Calls.mono K2.out ?_
          rintro e w' ⟨rfl, hw⟩
          obtain rfl : w.drew = w' := hw.symm
          go_wp2_with fail
          refine Calls.mono K3.out ?_
          rintro e w' ⟨rfl, hw⟩
          obtain rfl : w.drew = w' := hw.symm
          go_wp2_with fail
          go_ret2
          exact ⟨⟨0, by rw [H1.out]; rfl, fun h => by rw [H1.out] at h; cases h⟩, 1, rfl⟩
        | some r =>
          have hrun := run_mul hmul
          have hr := mul_lt64 hmul
          have K2 := (show Hid _ from round_walk r hr w)
          have K3 := (show Hid _ from bwhole_walk (rnd r) (rnd_lt hr) w)
          have H1 := (show Hid _ from scOK_some hk0 hmul)
          have H2 := (show Hid _ from scV_some hk0 hmul)
          have hex := exV_rng (rnd r)
          have hd := run_div (qv_some (exV (rnd r)) j hk)
          cases hok : okI (rnd r)
          · rw [hok] at K3 H1
            clear hmul hok hd
            generalize rnd r = R at *
            generalize p10 j = p at *
            generalize whV R = X at *
            go_wp2_with fail
            refine Calls.mono K2.out ?_
            rintro e w' ⟨rfl, hw⟩
            obtain rfl : w = w' := hw.symm
            go_wp2_with fail
            refine Calls.mono K3.out ?_
            rintro e w' ⟨rfl, hw⟩
            obtain rfl : w = w' := hw.symm
            go_wp2_with fail
            go_ret2
            exact ⟨⟨0, by rw [H1.out]; rfl, fun h => by rw [H1.out] at h; cases h⟩, 0, rfl⟩
          · have H3 := (show Hid _ from exV_ok hok)
            rw [whV_ex hok] at K3
            rw [hok] at K3 H1
            have hcv : ∀ w, (convert 2 25 (.int .i64 (exV (rnd r)))).run Ybad.prog w = .ok (.float .f64 (FloatKind.f64.nearest (exV (rnd r)))) w := by
              intro w
              simp [convert, go_sem, Conv.intToFloat]
            clear hmul hok
            generalize toI (rnd r) = TI at *
            generalize hRR : rnd r = R at *
            generalize p10 j = p at *
            generalize qv (exV R) j = Q at *
            generalize exV R = X at *
            generalize FloatKind.f64.nearest X = NX at *
            go_wp2_with fail
            refine Calls.mono K2.out ?_
            rintro e w' ⟨rfl, hw⟩
            obtain rfl : w = w' := hw.symm
            go_wp2_with fail
            refine Calls.mono K3.out ?_
            rintro e w' ⟨rfl, hw⟩
            obtain rfl : w = w' := hw.symm
            go_wp2_with fail
            go_ret2
            refine ⟨⟨X, ?_, fun _ => by rw [H2.out, H3.out]⟩, 0, rfl⟩
            rw [H1.out, ← beq_cast]
            rfl
end Go.Proofs.YbulkecgoDoor

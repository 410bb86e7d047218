/-
  The lengths: exceptions, a series at an order (the law's own reckoning).
-/
import Derived.Test.YbulkecgoDoorFrame
import Derived.Deep.CutRange
import Derived.Deep.CutBlock
namespace Go.Proofs.YbulkecgoDoor
open Go.RowKit Go.Shelf
set_option linter.unusedVariables false
set_option maxRecDepth 100000

/-- The first place that exception k may take. -/
def nxt (E : Nat → Nat) : Nat → Nat
  | 0 => 0
  | k + 1 => E k + 1
/-- The bytes of the first k exceptions. -/
def xs8 (E : Nat → Nat) : Nat → Nat
  | 0 => 0
  | k + 1 => xs8 E k + (uvl (E k - nxt E k) + 8)
/-- The bytes of k exceptions with their number. -/
def exL (E : Nat → Nat) (k : Nat) : Nat := uvl k + xs8 E k
/-- The places go upwards. -/
def Up (E : Nat → Nat) (k : Nat) : Prop := ∀ j, j < k → nxt E j ≤ E j ∧ E j < 65536
theorem xs8_le {E : Nat → Nat} : ∀ (k : Nat), Up E k → xs8 E k ≤ 18 * k
  | 0, _ => Nat.le_refl _
  | k + 1, h => by
    have h1 := xs8_le k fun j hj => h j (by omega)
    have h2 := h k (by omega)
    have h3 := uvl_10 (n := E k - nxt E k) (by omega)
    unfold xs8; omega

set_option maxHeartbeats 1000000 in
theorem exceptionsLen_walk (a0 : Option Addr) (b o k c : Nat) (E : Nat → Nat) (w : World) (hk : k ≤ 65536) (ha : 0 < k → a0 = some ⟨b, o, none⟩) (HR : Hid (Row w b o k (fun i => E i))) (HU : Hid (Up E k)) :
    Calls Ybad.prog 26 #[.slice a0 k c] w fun e w' => e = .returned (.int .i64 (exL E k)) ∧ w' = w := by
  have HA := (show Hid _ from ha)
  clear ha
  have hk2 : (k : Int) ≤ 65536 := by omega
  have K0 := (show Hid _ from uvarintLen_walk k w (by omega))
  have hu0 := uvl_10 (n := k) (by omega)
  have HEX : Hid (exL E k = uvl k + xs8 E k) := rfl
  generalize exL E k = X at *
  generalize uvl k = U at *
  go_enter Ybad.func26, Ybad.ntmps26
  go_wp2_with fail
  refine Calls.mono K0.out ?_
  rintro e w' ⟨rfl, hw⟩
  obtain rfl : w = w' := hw.symm
  go_wp2_with fail
  go_loopw [3, 4, 6, 13] (fun x3 x4 x6 i wr => ∃ j : Nat, j ≤ k ∧ x3 = .int .i64 (U + xs8 E j : Nat) ∧ x4 = .int .i64 (nxt E j) ∧ i = .int .i64 j ∧ wr = w) (fun _ _ _ i _ => k - (intOf i).toNat)
  case atStart => exact ⟨0, by omega, rfl, rfl, rfl, rfl⟩
  case round =>
    obtain ⟨j, hj, rfl, rfl, rfl, hwr⟩ := hrel
    obtain rfl : w = wr := hwr.symm
    have hx := xs8_le j fun i hi => HU.out i (by omega)
    have hx2 : (((U + xs8 E j : Nat) : Int)) ≤ 2000000 := by omega
    by_cases hjk : j < k
    · obtain rfl := HA.out (by omega)
      have hc := HR.out j hjk
      obtain ⟨u1, u2⟩ := HU.out j hjk
      have KJ := (show Hid _ from uvarintLen_walk (E j - nxt E j) w (by omega))
      have huj := uvl_10 (n := E j - nxt E j) (by omega)
      have huj2 : ((uvl (E j - nxt E j) : Nat) : Int) ≤ 10 := by omega
      have e1 : ((E j : Nat) : Int) - ((nxt E j : Nat) : Int) = ((E j - nxt E j : Nat) : Int) := by omega
      have HXS : Hid (xs8 E (j + 1) = xs8 E j + (uvl (E j - nxt E j) + 8)) := rfl
      have HNX : Hid (nxt E (j + 1) = E j + 1) := rfl
      have hjk' : (j : Int) < k := by omega
      have hE : ((E j : Nat) : Int) < 65536 := by omega
      generalize uvl (E j - nxt E j) = V at *
      clear hx
      go_wp2_with fail
      refine Calls.mono KJ.out ?_
      rintro e w' ⟨rfl, hw⟩
      obtain rfl : w = w' := hw.symm
      go_wp2_with fail
      go_roundw
      case rel =>
        refine ⟨j + 1, by omega, ?_, by rw [HNX.out]; go_num, by go_num, by trivial⟩
        rw [HXS.out]
        go_num
      case measure => simp [intOf]; omega
    · have hjk' : ¬ (j : Int) < k := by omega
      obtain rfl : j = k := by omega
      go_wp2_with fail
      go_ret
      exact ⟨by rw [HEX.out]; rfl, rfl⟩

/-- The bytes of the first i values. -/
def hdL (D : Nat → Int) : Nat → Nat
  | 0 => 0
  | i + 1 => hdL D i + uvl (zg (D i))
theorem hdL_le {n : Nat} {D : Nat → Int} (h : I64 n D) : ∀ i, i ≤ n → hdL D i ≤ 10 * i
  | 0, _ => Nat.le_refl _
  | i + 1, hi => by
    have h1 := hdL_le h i (by omega)
    have h2 := uvl_10 (zg_lt (h i (by omega)))
    unfold hdL; omega
/-- The series from s on. -/
def sh (D : Nat → Int) (s i : Nat) : Int := D (s + i)
theorem I64.sh {n : Nat} {D : Nat → Int} (h : I64 n D) {s m : Nat} (hm : s + m ≤ n) : I64 m (sh D s) := fun i hi => h (s + i) (by omega)
/-- The bytes of the frames from s on. -/
def frs (D : Nat → Int) (n s : Nat) : Nat := if h : s < n then frameL (sh D s) (min 128 (n - s)) + frs D n (s + 128) else 0
termination_by n - s
theorem frs_lt {D : Nat → Int} {n s : Nat} (h : s < n) : frs D n s = frameL (sh D s) (min 128 (n - s)) + frs D n (s + 128) := by rw [frs]; simp [h]
theorem frs_ge {D : Nat → Int} {n s : Nat} (h : ¬ s < n) : frs D n s = 0 := by rw [frs]; simp [h]
theorem frameL_le {n : Nat} {D : Nat → Int} (hn : 1 ≤ n ∧ n ≤ 128) (h : I64 n D) : frameL D n ≤ 1036 := by
  have h1 := frameW_le hn.1 h
  have h2 := uvl_10 (zg_lt (mnF_in h (n - 1) (by omega)))
  have h3 : frameW D n * n ≤ 64 * 128 := Nat.mul_le_mul h1 hn.2
  unfold frameL; omega
theorem frs_le {D : Nat → Int} {n : Nat} (h : I64 n D) : ∀ (m s : Nat), n - s ≤ m → frs D n s ≤ 1036 * (n - s)
  | 0, s, hm => by rw [frs_ge (by omega)]; omega
  | m + 1, s, hm => by
    by_cases hs : s < n
    · rw [frs_lt hs]
      have h1 := frameL_le (n := min 128 (n - s)) (D := sh D s) (by omega) (h.sh (by omega))
      have h2 := frs_le h m (s + 128) (by omega)
      omega
    · rw [frs_ge hs]; omega
/-- The bytes of the series at order q. -/
def dln (D : Nat → Int) (n q : Nat) : Nat := 1 + hdL D q + frs D n q
theorem dln_le {D : Nat → Int} {n q : Nat} (h : I64 n D) (hq : q ≤ n) (hn : n ≤ 65536) : dln D n q ≤ 80000000 := by
  have h1 := hdL_le h q hq
  have h2 := frs_le h n q (by omega)
  unfold dln; omega

theorem mnF_succ (D : Nat → Int) (j : Nat) : mnF D (j + 1) = min (mnF D j) (D (j + 1)) := rfl
theorem mxF_succ (D : Nat → Int) (j : Nat) : mxF D (j + 1) = max (mxF D j) (D (j + 1)) := rfl

theorem size_num (A U P : Nat) (hA : A ≤ 80000000) (hU : U ≤ 10) (hP : ((P : Nat) : Int) ≤ 8192) : wrap64 ((A : Int) + wrap64 ((U : Int) + 1 + wrap64 ((wrap64 (wrap64 ((P : Nat) : Int) + 7)).tdiv 8))) = ((A + (U + 1 + (P + 7) / 8) : Nat) : Int) := by
  have e1 : wrap64 (wrap64 ((P : Nat) : Int) + 7) = ((P + 7 : Nat) : Int) := by unfold wrap64; omega
  rw [e1, Int.tdiv_eq_ediv_of_nonneg (by omega)]
  have e2 : wrap64 (((P + 7 : Nat) : Int) / 8) = (((P + 7) / 8 : Nat) : Int) := by unfold wrap64; omega
  rw [e2]
  unfold wrap64; omega

set_option maxHeartbeats 4000000 in
theorem bsize_walk (a0 : Option Addr) (b o n c q : Nat) (D : Nat → Int) (w : World) (hn : n ≤ 65536) (hq : q ≤ 2) (hqn : q ≤ n) (ha : 0 < n → a0 = some ⟨b, o, none⟩) (HR : Hid (Row w b o n D)) (HI : Hid (I64 n D)) :
    Calls Ybad.prog 13 #[.slice a0 n c, .int .i64 q] w fun e w' => e = .returned (.int .i64 (dln D n q)) ∧ ∃ m, w' = w.drewN m := by
  have HA := (show Hid _ from ha)
  clear ha
  have hn2 : (n : Int) ≤ 65536 := by omega
  have HT : Hid (dln D n q = 1 + hdL D q + frs D n q) := rfl
  have HTL := (show Hid _ from dln_le (q := q) HI.out hqn hn)
  generalize dln D n q = T at *
  go_enter Ybad.func13, Ybad.ntmps13
  go_wp2_with fail
  go_loopw [5, 6] (fun x5 i wr => ∃ j : Nat, j ≤ q ∧ x5 = .int .i64 (1 + hdL D j : Nat) ∧ i = .int .i64 j ∧ wr = w) (fun _ i _ => q - (intOf i).toNat)
  case atStart => exact ⟨0, by omega, rfl, rfl, rfl⟩
  case round =>
    obtain ⟨j, hj, rfl, rfl, hwr⟩ := hrel
    obtain rfl : w = wr := hwr.symm
    have hh := hdL_le HI.out j (by omega)
    have hh2 : ((1 + hdL D j : Nat) : Int) ≤ 30 := by omega
    by_cases hjq : j < q
    · obtain rfl := HA.out (by omega)
      have hc := HR.out j (by omega)
      have hI := HI.out j (by omega)
      have K1 := (show Hid _ from bzz_walk (D j) w hI)
      have K2 := (show Hid _ from buvlen_walk (zg (D j)) w (zg_lt hI))
      have hu := uvl_10 (zg_lt hI)
      have hu2 : ((uvl (zg (D j)) : Nat) : Int) ≤ 10 := by omega
      have HH : Hid (hdL D (j + 1) = hdL D j + uvl (zg (D j))) := rfl
      generalize uvl (zg (D j)) = U at *
      have hjq' : (j : Int) < q := by omega
      have hjn : (j : Int) < n := by omega
      clear hI hh
      go_wp2_with fail
      refine Calls.mono K1.out ?_
      rintro e w' ⟨rfl, hw⟩
      obtain rfl : w = w' := hw.symm
      go_wp2_with fail
      refine Calls.mono K2.out ?_
      rintro e w' ⟨rfl, hw⟩
      obtain rfl : w = w' := hw.symm
      go_wp2_with fail
      go_roundw
      case rel =>
        refine ⟨j + 1, by omega, ?_, by go_num, by trivial⟩
        rw [HH.out]
        go_num
      case measure => simp [intOf]; omega
    · have hjq' : ¬ (j : Int) < q := by omega
      obtain rfl : j = q := by omega
      go_wp2_with fail
      go_loopw [5, 7, 8, 9, 10, 11, 12] (fun x5 x7 x8 x9 x10 x11 x12 wr => ∃ (s A m : Nat), s ≤ 65536 + 256 ∧ x5 = .int .i64 A ∧ x7 = .int .i64 s ∧ A + frs D n s = T ∧ wr = w.drewN m) (fun _ s _ _ _ _ _ _ => n - (intOf s).toNat)
      case atStart => exact ⟨j, _, 0, by omega, rfl, rfl, HT.out.symm, rfl⟩
      case round =>
        obtain ⟨s, A, m, hs, rfl, rfl, hT, hwr⟩ := hrel
        have HTT := (show Hid _ from hT)
        have hAb : A ≤ 80000000 := by have := HTL.out; omega
        have hA2 : (A : Int) ≤ 80000000 := by omega
        have HW := (show Hid _ from hwr)
        clear hT hwr hh
        by_cases hsn : s < n
        · obtain rfl := HA.out (by omega)
          have hc0 : wr.cell? ⟨b, o + s, none⟩ = some (.int .i64 (D s)) := by rw [HW.out]; exact HR.out s hsn
          have hsn' : (s : Int) < n := by omega
          obtain ⟨M, hM⟩ : ∃ M, M = min 128 (n - s) := ⟨_, rfl⟩
          have hM1 : 1 ≤ M := by omega
          have hM2 : s + M ≤ n := by omega
          have hM3 : M ≤ 128 := by omega
          have HMM := (show Hid _ from hM)
          clear hM
          go_upto_if 38 with fail
          go_cut [8] from 27 to 94 (fun x8 wx => x8 = .int .i64 (s + M : Nat) ∧ wx = wr)
          case first =>
            by_cases he : n < s + 128
            · have he' : (n : Int) < (s : Int) + 128 := by omega
              have HN : Hid (s + M = n) := by show _ = _; have := HMM.out; omega
              go_wp2_with fail
              go_meet
              case rel => exact ⟨by rw [HN.out], rfl⟩
            · have he' : ¬ (n : Int) < (s : Int) + 128 := by omega
              have HN : Hid (s + M = s + 128) := by show _ = _; have := HMM.out; omega
              go_wp2_with fail
              go_meet
              case rel => exact ⟨by rw [HN.out]; go_num, rfl⟩
          case rest =>
            obtain ⟨rfl, hwc⟩ := hcut
            obtain rfl : wr = wc := hwc.symm
            clear hwc
            go_wp2_with fail
            go_big_region
            go_wp2_with fail
            have HIs := (show Hid _ from HI.out.sh (s := s) (m := M) hM2)
            have HRs : Hid (∀ i, i < M → wr.drew.cell? ⟨b, o + (s + i), none⟩ = some (.int .i64 (sh D s i))) := fun i hi => by
              have := HR.out (s + i) (by omega)
              show wr.cell? _ = _
              rw [HW.out]; exact this
            have HWD : Hid (wr.drew = w.drewN (m + 1)) := by show _ = _; rw [HW.out]; rfl
            clear hc0
            generalize wr.drew = wd at *
            go_loopw [9, 10, 11] (fun x9 x10 x11 wr => ∃ k : Nat, k + 1 ≤ M ∧ x9 = .int .i64 (mnF (sh D s) k) ∧ x10 = .int .i64 (mxF (sh D s) k) ∧ x11 = .int .i64 (s + 1 + k : Nat) ∧ wr = wd) (fun _ _ j _ => s + M - (intOf j).toNat)
            case atStart => exact ⟨0, by omega, rfl, rfl, by go_num, rfl⟩
            case round =>
              obtain ⟨k, hk, rfl, rfl, rfl, hwq⟩ := hrel
              obtain rfl : wd = wr := hwq.symm
              clear hwq
              have hlo := mnF_in HIs.out k (by omega)
              have hhi := mxF_in HIs.out k (by omega)
              have hlh := mn_le_mx (sh D s) k
              by_cases hkM : k + 1 < M
              · have hck := HRs.out (k + 1) (by omega)
                rw [show o + (s + (k + 1)) = o + (s + 1 + k) by omega] at hck
                have HMN := (show Hid _ from mnF_succ (sh D s) k)
                have HMX := (show Hid _ from mxF_succ (sh D s) k)
                generalize sh D s (k + 1) = x at *
                generalize mnF (sh D s) k = lo at *
                generalize mxF (sh D s) k = hi at *
                have g1 : ((s + 1 + k : Nat) : Int) < (s : Int) + (M : Int) := by omega
                have g2 : ((s + 1 + k : Nat) : Int) < n := by omega
                by_cases h1 : x < lo
                · have h2 : ¬ hi < x := by omega
                  go_wp2_with fail
                  go_roundw
                  case rel => exact ⟨k + 1, by omega, by rw [HMN.out, Int.min_eq_right (by omega)], by rw [HMX.out, Int.max_eq_left (by omega)], by go_num, by trivial⟩
                  case measure => simp [intOf]; omega
                · by_cases h2 : hi < x
                  · go_wp2_with fail
                    go_roundw
                    case rel => exact ⟨k + 1, by omega, by rw [HMN.out, Int.min_eq_left (by omega)], by rw [HMX.out, Int.max_eq_right (by omega)], by go_num, by trivial⟩
                    case measure => simp [intOf]; omega
                  · go_wp2_with fail
                    go_roundw
                    case rel => exact ⟨k + 1, by omega, by rw [HMN.out, Int.min_eq_left (by omega)], by rw [HMX.out, Int.max_eq_left (by omega)], by go_num, by trivial⟩
                    case measure => simp [intOf]; omega
              · obtain rfl : M = k + 1 := by omega
                have g1 : ¬ ((s + 1 + k : Nat) : Int) < (s : Int) + ((k + 1 : Nat) : Int) := by omega
                have eW : IntKind.u64.wrap (wrap64 (mxF (sh D s) k - mnF (sh D s) k)) = (((mxF (sh D s) k - mnF (sh D s) k).toNat : Nat) : Int) := by rw [IntKind.wrap_u64]; unfold wrap64; omega
                have HEW := (show Hid _ from eW)
                have K1 := (show Hid _ from bbits_walk (mxF (sh D s) k - mnF (sh D s) k).toNat wd (by omega))
                have K2 := (show Hid _ from bzz_walk (mnF (sh D s) k) wd hlo)
                have K3 := (show Hid _ from buvlen_walk (zg (mnF (sh D s) k)) wd (zg_lt hlo))
                have hu := uvl_10 (zg_lt hlo)
                have hfw := frameW_le (by omega) HIs.out
                have HFW : Hid (frameW (sh D s) (k + 1) = bl (mxF (sh D s) k - mnF (sh D s) k).toNat) := rfl
                have HFL : Hid (frameL (sh D s) (k + 1) = uvl (zg (mnF (sh D s) k)) + 1 + (frameW (sh D s) (k + 1) * (k + 1) + 7) / 8) := rfl
                have HTF := (show Hid _ from frs_lt hsn (D := D))
                rw [← HMM.out] at HTF
                have hsz : wd.heap.size = wd.heap.size := rfl
                clear eW hsz
                have hbl2 := hfw
                rw [HFW.out] at hbl2
                rw [HFW.out] at HFL
                generalize bl (mxF (sh D s) k - mnF (sh D s) k).toNat = W at *
                generalize uvl (zg (mnF (sh D s) k)) = U at *
                have hmul : Hid ((W : Int) * ((s : Int) + ((k + 1 : Nat) : Int) - (s : Int)) = ((W * (k + 1) : Nat) : Int)) := by show _ = _; rw [show (s : Int) + ((k + 1 : Nat) : Int) - (s : Int) = ((k + 1 : Nat) : Int) by omega, Int.natCast_mul]
                clear hfw HFW
                have hp1 : 0 ≤ (W : Int) * ((k : Int) + 1) := Int.mul_nonneg (by omega) (by omega)
                have hp2 : (W : Int) * ((k : Int) + 1) ≤ 64 * 128 := Int.mul_le_mul (by omega) (by omega) (by omega) (by omega)
                have hu2 : (U : Int) ≤ 10 := by omega
                have HPN : Hid ((W : Int) * ((k : Int) + 1) = ((W * (k + 1) : Nat) : Int)) := by show _ = _; rw [Int.natCast_mul]; rfl
                clear hmul
                go_wp2_with fail
                rw [HEW.out]
                refine Calls.mono K1.out ?_
                rintro e w' ⟨rfl, hw⟩
                obtain rfl : wd = w' := hw.symm
                go_wp2_with fail
                refine Calls.mono K2.out ?_
                rintro e w' ⟨rfl, hw⟩
                obtain rfl : wd = w' := hw.symm
                go_wp2_with fail
                refine Calls.mono K3.out ?_
                rintro e w' ⟨rfl, hw⟩
                obtain rfl : wd = w' := hw.symm
                go_wp2_with fail
                have eP : (W : Int) * ((s : Int) + ((k : Int) + 1) - (s : Int)) = ((W * (k + 1) : Nat) : Int) := by rw [show (s : Int) + ((k : Int) + 1) - (s : Int) = (k : Int) + 1 by omega]; exact HPN.out
                refine ⟨⟨s + 128, A + frameL (sh D s) (k + 1), m + 1, by omega, ?_, by go_num, ?_, HWD.out⟩, by simp [intOf]; omega⟩
                · rw [eP, size_num A U (W * (k + 1)) hAb hu (by rw [← HPN.out] at *; omega), HFL.out]
                · have := HTT.out
                  rw [HTF.out] at this
                  omega
        · have hsn' : ¬ (s : Int) < n := by omega
          go_wp2_with fail
          go_ret
          have := HTT.out
          rw [frs_ge hsn] at this
          exact ⟨by rw [← this]; rfl, m, HW.out⟩
end Go.Proofs.YbulkecgoDoor

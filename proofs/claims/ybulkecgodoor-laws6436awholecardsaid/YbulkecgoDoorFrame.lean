/-
  Frames: their bounds and lengths; differencing.
-/
import Derived.Test.YbulkecgoDoorNum
import Derived.BigRegion
import Derived.WalkSmall
import Derived.Deep.QuietTactic
import Derived.BigQuiet
import Derived.RegionTactic
import Derived.LoopN
namespace Go.Proofs.YbulkecgoDoor
open Go.RowKit Go.Shelf
set_option linter.unusedVariables false
set_option maxRecDepth 100000

/-- n numbers lie at ⟨b, o⟩. -/
def Row (w : World) (b o n : Nat) (D : Nat → Int) : Prop := ∀ i, i < n → w.cell? ⟨b, o + i, none⟩ = some (.int .i64 (D i))
/-- Each is an int64. -/
def I64 (n : Nat) (D : Nat → Int) : Prop := ∀ i, i < n → -9223372036854775808 ≤ D i ∧ D i ≤ 9223372036854775807

def mnF (D : Nat → Int) : Nat → Int
  | 0 => D 0
  | j + 1 => min (mnF D j) (D (j + 1))
def mxF (D : Nat → Int) : Nat → Int
  | 0 => D 0
  | j + 1 => max (mxF D j) (D (j + 1))
theorem mnF_in {n : Nat} {D : Nat → Int} (h : I64 n D) : ∀ j, j < n → -9223372036854775808 ≤ mnF D j ∧ mnF D j ≤ 9223372036854775807
  | 0, hj => h 0 hj
  | j + 1, hj => by
    have h1 := mnF_in h j (by omega)
    have h2 := h (j + 1) hj
    unfold mnF; omega
theorem mxF_in {n : Nat} {D : Nat → Int} (h : I64 n D) : ∀ j, j < n → -9223372036854775808 ≤ mxF D j ∧ mxF D j ≤ 9223372036854775807
  | 0, hj => h 0 hj
  | j + 1, hj => by
    have h1 := mxF_in h j (by omega)
    have h2 := h (j + 1) hj
    unfold mxF; omega
theorem mn_le_mx (D : Nat → Int) : ∀ j, mnF D j ≤ mxF D j
  | 0 => Int.le_refl _
  | j + 1 => by have := mn_le_mx D j; unfold mnF mxF; omega
/-- The bits of a frame of n. -/
def frameW (D : Nat → Int) (n : Nat) : Nat := bl (mxF D (n - 1) - mnF D (n - 1)).toNat
/-- The bytes of a frame of n. -/
def frameL (D : Nat → Int) (n : Nat) : Nat := uvl (zg (mnF D (n - 1))) + 1 + (frameW D n * n + 7) / 8

theorem frameW_le {n : Nat} {D : Nat → Int} (hn : 1 ≤ n) (h : I64 n D) : frameW D n ≤ 64 := by
  have h1 := mnF_in h (n - 1) (by omega)
  have h2 := mxF_in h (n - 1) (by omega)
  have h3 := mn_le_mx D (n - 1)
  exact bl_lt 64 _ (by omega)

set_option maxHeartbeats 1000000 in
theorem frameBounds_walk (b o n c : Nat) (D : Nat → Int) (w : World) (hn : 1 ≤ n) (hnc : n ≤ c) (hcm : c ≤ 140737488355328) (HR : Hid (Row w b o n D)) (HI : Hid (I64 n D)) :
    Calls Ybad.prog 49 #[.slice (some ⟨b, o, none⟩) n c] w fun e w' => e = .returned (.tuple #[.int .i64 (mnF D (n - 1)), .int .u64 (frameW D n)]) ∧ w' = w.drew := by
  have hc0 := HR.out 0 (by omega)
  rw [Nat.add_zero] at hc0
  have hn1 : (0 : Int) < n := by omega
  have hn2 : (1 : Int) ≤ n := by omega
  have HW : Hid (∀ x y : Int, x = mnF D (n - 1) → y = mxF D (n - 1) → ∀ W : World, Calls Ybad.prog 47 #[.int .u64 (IntKind.u64.wrap (wrap64 (y - x)))] W fun e w' => e = .returned (.int .i64 (frameW D n)) ∧ w' = W) := by
    rintro x y rfl rfl W
    have h1 := mnF_in HI.out (n - 1) (by omega)
    have h2 := mxF_in HI.out (n - 1) (by omega)
    have h3 := mn_le_mx D (n - 1)
    have e : IntKind.u64.wrap (wrap64 (mxF D (n - 1) - mnF D (n - 1))) = mxF D (n - 1) - mnF D (n - 1) := by rw [IntKind.wrap_u64]; unfold wrap64; omega
    rw [e]
    have := len64 (mxF D (n - 1) - mnF D (n - 1)) W (by omega) (by omega)
    rw [bitLen_eq (by omega)] at this
    exact this
  have HF := (show Hid _ from frameW_le hn HI.out)
  by_cases hc1 : c = 1
  · obtain rfl : n = 1 := by omega
    subst hc1
    go_enter Ybad.func49, Ybad.ntmps49
    go_wp2_with fail
    go_big_region
    go_wp2_with fail
    refine wp_loop_rounds 1 ?_
    rw [rounds_succ]
    go_wp2_with fail
    refine Calls.mono (len64 0 _ (by omega) (by omega)) ?_
    rintro e w' ⟨rfl, rfl⟩
    have e0 : Lib.bitLen (Int.toNat 0) = 0 := by decide
    rw [e0]
    have HFW : Hid (frameW D 1 = 0) := by show _ = _; unfold frameW mxF mnF; simp [bl]
    clear e0
    go_wp2_with fail
    go_ret2
    exact ⟨by rw [HFW.out]; rfl, rfl⟩
  · have hc2 : ¬ ((c : Int) - 1 = 0) := by omega
    go_enter Ybad.func49, Ybad.ntmps49
    go_wp2_with fail
    go_big_region
    go_wp2_with fail
    go_loopw [2, 4, 6, 16] (fun x2 x4 x6 i wr => ∃ k : Nat, k ≤ n - 1 ∧ x2 = .int .i64 (mnF D k) ∧ x4 = .int .i64 (mxF D k) ∧ i = .int .i64 k ∧ wr = w.drew) (fun _ _ _ i _ => n - (intOf i).toNat)
    case atStart => exact ⟨0, by omega, rfl, rfl, rfl, rfl⟩
    case round =>
      obtain ⟨k, hk, rfl, rfl, rfl, hwr⟩ := hrel
      subst hwr
      by_cases hkl : k < n - 1
      · have hck : w.cell? ⟨b, o + 1 + k, none⟩ = some (.int .i64 (D (k + 1))) := by
          have := HR.out (k + 1) (by omega)
          rw [← this]
          congr 2
          omega
        have hkl' : (k : Int) < ((n - 1 : Nat) : Int) := by omega
        go_wp2_with fail
        go_roundw
        case rel => exact ⟨k + 1, by omega, rfl, rfl, by go_num, by trivial⟩
        case measure => simp [intOf]; omega
      · have hkl' : ¬ (k : Int) < ((n - 1 : Nat) : Int) := by omega
        obtain rfl : k = n - 1 := by omega
        go_wp2_with fail
        refine Calls.mono (HW.out _ _ rfl rfl _) ?_
        rintro e w' ⟨rfl, rfl⟩
        have hf := HF.out
        have hf2 : (frameW D n : Int) ≤ 64 := by omega
        go_wp2_with fail
        go_ret2
        exact ⟨rfl, rfl⟩

set_option maxHeartbeats 1000000 in
theorem frameLen_walk (b o n c : Nat) (D : Nat → Int) (w : World) (hn : 1 ≤ n) (hn128 : n ≤ 65536) (hnc : n ≤ c) (hcm : c ≤ 140737488355328) (HR : Hid (Row w b o n D)) (HI : Hid (I64 n D)) :
    Calls Ybad.prog 40 #[.slice (some ⟨b, o, none⟩) n c] w fun e w' => e = .returned (.int .i64 (frameL D n)) ∧ w' = w.drew := by
  have h1 := mnF_in HI.out (n - 1) (by omega)
  have hzl := zg_lt h1
  have K1 := (show Hid _ from frameBounds_walk b o n c D w hn hnc hcm HR HI)
  have K2 := (show Hid _ from zigzag_walk (mnF D (n - 1)) w.drew h1)
  have K3 := (show Hid _ from uvarintLen_walk (zg (mnF D (n - 1))) w.drew hzl)
  have hu := uvl_10 hzl
  have hf := frameW_le hn HI.out
  have hp : frameW D n * n ≤ 64 * 65536 := Nat.mul_le_mul hf hn128
  have HL : Hid (frameL D n = uvl (zg (mnF D (n - 1))) + 1 + (frameW D n * n + 7) / 8) := rfl
  have hp2 : 0 ≤ (frameW D n : Int) * (n : Int) ∧ (frameW D n : Int) * (n : Int) ≤ 4194304 := by
    rw [← Int.natCast_mul]; omega
  have hmul : Hid ((frameW D n : Int) * (n : Int) = ((frameW D n * n : Nat) : Int)) := by show _ = _; rw [Int.natCast_mul]
  generalize frameL D n = FL at *
  generalize frameW D n = FW at *
  generalize mnF D (n - 1) = lo at *
  generalize uvl (zg lo) = U at *
  obtain ⟨p1, p2⟩ := hp2
  have hf2 : (FW : Int) ≤ 64 := by omega
  have hu2 : (U : Int) ≤ 10 := by omega
  clear hp h1 hzl
  go_enter Ybad.func40, Ybad.ntmps40
  go_wp2_with fail
  refine Calls.mono K1.out ?_
  rintro e w' ⟨rfl, rfl⟩
  go_wp2_with fail
  refine Calls.mono K2.out ?_
  rintro e w' ⟨rfl, hw⟩
  obtain rfl : w.drew = w' := hw.symm
  go_wp2_with fail
  refine Calls.mono K3.out ?_
  rintro e w' ⟨rfl, hw⟩
  obtain rfl : w.drew = w' := hw.symm
  go_wp2_with fail
  go_ret
  refine ⟨?_, rfl⟩
  have e : ((FL : Nat) : Int) = (U : Int) + 1 + ((FW : Int) * (n : Int) + 7) / 8 := by rw [HL.out, hmul.out]; omega
  rw [e]
  rfl

theorem Row.set {w : World} {b o n : Nat} {D : Nat → Int} (h : Row w b o n D) (k : Nat) (x : Int) (hk : k < n) : Row (w.setCell ⟨b, o + k, none⟩ (.int .i64 x)) b o n (fun i => if i = k then x else D i) := by
  intro i hi
  by_cases e : i = k
  · subst e
    simp only [if_true]
    exact World.cell?_setCell_same w _ _ (h i hi)
  · simp only [e, if_false]
    rw [← h i hi]
    exact World.cell?_setCell_other _ _ _ _ (by intro h; injection h with _ h; omega)
theorem Row.below {w w' : World} {b o n : Nat} {D : Nat → Int} (h : Row w b o n D) {B : Nat} (hb : Below B w w') (hB : b < B) : Row w' b o n D := fun i hi => (hb.cell (p := ⟨b, o + i, none⟩) hB).trans (h i hi)
theorem Row.ext {w : World} {b o n : Nat} {D E : Nat → Int} (h : Row w b o n D) (he : ∀ i, i < n → D i = E i) : Row w b o n E := fun i hi => by rw [← he i hi]; exact h i hi

/-- Differenced once more: from index o on. -/
def dif (o : Nat) (D : Nat → Int) (i : Nat) : Int := if i < o then D i else wrap64 (D i - D (i - 1))
theorem wrap64_rng (x : Int) : -9223372036854775808 ≤ wrap64 x ∧ wrap64 x ≤ 9223372036854775807 := by unfold wrap64; omega
theorem dif_in {n o : Nat} {D : Nat → Int} (h : I64 n D) : I64 n (dif o D) := by
  intro i hi
  unfold dif
  split
  · exact h i hi
  · exact wrap64_rng _

/-- What is kept: the world but for one block, draws aside. -/
structure But (b : Nat) (w w' : World) : Prop where
  os : w'.os = w.os
  tape : w'.tape = w.tape
  output : w'.output = w.output
  size : w'.heap.size = w.heap.size
  block : ∀ k, k ≠ b → w'.heap[k]? = w.heap[k]?
  frozen : ∀ k, w'.frozen? ⟨b, k, none⟩ = w.frozen? ⟨b, k, none⟩
theorem But.refl (b : Nat) (w : World) : But b w w := ⟨rfl, rfl, rfl, rfl, fun _ _ => rfl, fun _ => rfl⟩
theorem But.trans {b : Nat} {u v w : World} (h : But b u v) (k : But b v w) : But b u w := ⟨k.os.trans h.os, k.tape.trans h.tape, k.output.trans h.output, k.size.trans h.size, fun i hi => (k.block i hi).trans (h.block i hi), fun i => (k.frozen i).trans (h.frozen i)⟩
theorem But.drew {b : Nat} {u v : World} (h : But b u v) : But b u v.drew := ⟨h.os, h.tape, h.output, h.size, h.block, h.frozen⟩
theorem But.set {b : Nat} {u v : World} (h : But b u v) (k : Nat) (x : Value) : But b u (v.setCell ⟨b, k, none⟩ x) :=
  ⟨h.os, h.tape, h.output, by simp [World.setCell, h.size], fun i hi => (heap_setCell_other v ⟨b, k, none⟩ i x hi).trans (h.block i hi), fun i => by rw [World.frozen?_setCell]; exact h.frozen i⟩
theorem But.below {b B : Nat} {u v : World} (h : But b u v) (hB : B ≤ b) : Below B u v := ⟨h.os, h.tape, h.output, Nat.le_of_eq h.size.symm, fun k hk => h.block k (by omega)⟩

def midD (q : Nat) (D : Nat → Int) (k : Int) (j : Nat) : Int := if k < j then dif q D j else D j
theorem midD_lo {q : Nat} {D : Nat → Int} {k : Int} {j : Nat} (h : ¬ k < j) : midD q D k j = D j := by unfold midD; rw [if_neg h]
theorem midD_hi {q : Nat} {D : Nat → Int} {k : Int} {j : Nat} (h : k < j) : midD q D k j = dif q D j := by unfold midD; rw [if_pos h]

theorem midD_end {q : Nat} {D : Nat → Int} {k : Int} {i : Nat} (hk : k < q) : midD q D k i = dif q D i := by
  by_cases h : k < i
  · rw [midD_hi h]
  · rw [midD_lo h]
    unfold dif
    rw [if_pos (by omega)]

set_option maxHeartbeats 1000000 in
theorem difference_walk (a0 : Option Addr) (b o n c q : Nat) (D : Nat → Int) (w : World) (hn : n ≤ 65536) (hq : 1 ≤ q ∧ q ≤ 2) (ha : 0 < n → a0 = some ⟨b, o, none⟩) (HR : Hid (Row w b o n D)) (HI : Hid (I64 n D)) (HF : Hid (∀ k, w.frozen? ⟨b, k, none⟩ = false)) :
    Calls Ybad.prog 24 #[.slice a0 n c, .int .i64 q] w fun e w' => e = .returned (.tuple #[]) ∧ Row w' b o n (dif q D) ∧ But b w w' := by
  have HA := (show Hid _ from ha)
  clear ha
  obtain ⟨q1, q2⟩ := hq
  go_enter Ybad.func24, Ybad.ntmps24
  go_wp2_with fail
  go_loopw [4] (fun i wr => ∃ k : Int, i = .int .i64 k ∧ -1 ≤ k ∧ k < n ∧ Row wr b o n (midD q D k) ∧ But b w wr) (fun i _ => (intOf i + 1).toNat)
  case atStart => 
    exact ⟨(n : Int) - 1, by go_num, by omega, by omega, HR.out.ext fun i hi => (midD_lo (by omega)).symm, But.refl _ _⟩
  case round =>
    obtain ⟨k, rfl, hk1, hk2, hR, hB⟩ := hrel
    by_cases hkq : (q : Int) ≤ k
    · obtain ⟨j, rfl⟩ := Int.eq_ofNat_of_zero_le (show 0 ≤ k by omega)
      obtain rfl := HA.out (by omega)
      have c1 := hR j (by omega)
      have c0 := hR (j - 1) (by omega)
      rw [midD_lo (by omega)] at c1 c0
      have HRr := (show Hid _ from hR)
      have HBr := (show Hid _ from hB)
      have hfz : wr.frozen? ⟨b, o + j, none⟩ = false := by rw [hB.frozen]; exact HF.out _
      clear hR hB
      have ej : ((j : Int) - 1) = ((j - 1 : Nat) : Int) := by omega
      have g1 : (j : Int) < n := by omega
      have g0 : (0 : Int) ≤ (j : Int) - 1 := by omega
      go_wp2_with fail
      go_big_region
      go_wp2_with fail
      go_roundw
      case rel =>
        refine ⟨(j : Int) - 1, by go_num, by omega, by omega, ?_, (HBr.out.drew).set _ _⟩
        refine Row.ext (Row.set (w := wr.drew) HRr.out j (wrap64 (D j - D (j - 1))) (by omega)) fun i hi => ?_
        by_cases e : i = j
        · subst e
          rw [if_pos rfl, midD_hi (by omega)]
          unfold dif
          rw [if_neg (by omega)]
        · rw [if_neg e]
          by_cases h : (j : Int) - 1 < i
          · rw [midD_hi h, midD_hi (by omega)]
          · rw [midD_lo h, midD_lo (by omega)]
      case measure => simp [intOf]; omega
    · have HRr := (show Hid _ from hR)
      have HBr := (show Hid _ from hB)
      clear hR hB
      go_wp2_with fail
      go_end0
      exact ⟨rfl, Row.ext HRr.out fun i hi => midD_end (by omega), HBr.out⟩

def undif (o : Nat) (D : Nat → Int) : Nat → Int
  | 0 => D 0
  | i + 1 => if i + 1 < o then D (i + 1) else wrap64 (D (i + 1) + undif o D i)
theorem undif_dif {n o : Nat} {D : Nat → Int} (h : I64 n D) (ho : 1 ≤ o) : ∀ i, i < n → undif o (dif o D) i = D i
  | 0, hi => by unfold undif dif; rw [if_pos (by omega)]
  | i + 1, hi => by
    unfold undif
    rw [undif_dif h ho i (by omega)]
    unfold dif
    by_cases h1 : i + 1 < o
    · rw [if_pos h1, if_pos h1]
    · rw [if_neg h1, if_neg h1]
      have := h (i + 1) hi
      have := h i (by omega)
      show wrap64 (wrap64 (D (i + 1) - D i) + D i) = D (i + 1)
      unfold wrap64; omega
theorem undif_in {n o : Nat} {D : Nat → Int} (h : I64 n D) : I64 n (undif o D) := by
  intro i hi
  cases i with
  | zero => exact h 0 hi
  | succ i =>
    unfold undif
    split
    · exact h (i + 1) hi
    · exact wrap64_rng _
def midU (q : Nat) (D : Nat → Int) (k : Nat) (j : Nat) : Int := if j < k then undif q D j else D j
theorem midU_lo {q : Nat} {D : Nat → Int} {k j : Nat} (h : j < k) : midU q D k j = undif q D j := by unfold midU; rw [if_pos h]
theorem midU_hi {q : Nat} {D : Nat → Int} {k j : Nat} (h : ¬ j < k) : midU q D k j = D j := by unfold midU; rw [if_neg h]

set_option maxHeartbeats 1000000 in
theorem undifference_walk (a0 : Option Addr) (b o n c q : Nat) (D : Nat → Int) (w : World) (hn : n ≤ 65536) (hq : 1 ≤ q ∧ q ≤ 2) (ha : 0 < n → a0 = some ⟨b, o, none⟩) (HR : Hid (Row w b o n D)) (HI : Hid (I64 n D)) (HF : Hid (∀ k, w.frozen? ⟨b, k, none⟩ = false)) :
    Calls Ybad.prog 25 #[.slice a0 n c, .int .i64 q] w fun e w' => e = .returned (.tuple #[]) ∧ Row w' b o n (undif q D) ∧ But b w w' := by
  have HA := (show Hid _ from ha)
  clear ha
  obtain ⟨q1, q2⟩ := hq
  go_enter Ybad.func25, Ybad.ntmps25
  go_wp2_with fail
  go_loopw [4] (fun i wr => ∃ k : Nat, i = .int .i64 k ∧ q ≤ k ∧ k ≤ n + 2 ∧ Row wr b o n (midU q D k) ∧ But b w wr) (fun i _ => n - (intOf i).toNat)
  case atStart =>
    refine ⟨q, rfl, by omega, by omega, Row.ext HR.out fun i hi => ?_, But.refl _ _⟩
    by_cases h : i < q
    · rw [midU_lo h]
      cases i with
      | zero => rfl
      | succ i => unfold undif; rw [if_pos h]
    · rw [midU_hi h]
  case round =>
    obtain ⟨k, rfl, hk1, hk2, hR, hB⟩ := hrel
    have HRr := (show Hid _ from hR)
    have HBr := (show Hid _ from hB)
    by_cases hkn : k < n
    · obtain rfl := HA.out (by omega)
      have c1 := hR k hkn
      have c0 := hR (k - 1) (by omega)
      rw [midU_hi (by omega)] at c1
      rw [midU_lo (by omega)] at c0
      have hfz : wr.frozen? ⟨b, o + k, none⟩ = false := by rw [hB.frozen]; exact HF.out _
      clear hR hB
      have ek : ((k : Int) - 1) = ((k - 1 : Nat) : Int) := by omega
      have g1 : (k : Int) < n := by omega
      have g0 : (0 : Int) ≤ (k : Int) - 1 := by omega
      go_wp2_with fail
      go_big_region
      go_wp2_with fail
      go_roundw
      case rel =>
        refine ⟨k + 1, by go_num, by omega, by omega, ?_, (HBr.out.drew).set _ _⟩
        refine Row.ext (Row.set (w := wr.drew) HRr.out k (wrap64 (D k + undif q D (k - 1))) (by omega)) fun i hi => ?_
        by_cases e : i = k
        · subst e
          rw [if_pos rfl, midU_lo (by omega)]
          cases i with
          | zero => omega
          | succ i => conv => rhs; unfold undif
                      rw [if_neg (by omega)]; simp
        · rw [if_neg e]
          by_cases h : i < k
          · rw [midU_lo h, midU_lo (by omega)]
          · rw [midU_hi h, midU_hi (by omega)]
      case measure => simp [intOf]; omega
    · clear hR hB
      have g1 : ¬ (k : Int) < n := by omega
      go_wp2_with fail
      go_end0
      exact ⟨rfl, Row.ext HRr.out fun i hi => (by rw [midU_lo (by omega)]), HBr.out⟩
end Go.Proofs.YbulkecgoDoor

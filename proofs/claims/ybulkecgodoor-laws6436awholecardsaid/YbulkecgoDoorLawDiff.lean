/-
  The law's bytes of a series at an order.
-/
import Derived.Test.YbulkecgoDoorEnc
import Derived.Test.YbulkecgoDoorLawFrame
import Derived.Test.YbulkecgoDoorLawKit
namespace Go.Proofs.YbulkecgoDoor
open Go.RowKit Go.Shelf _root_.Go.Proofs.YbulkecgoDoor.Own
set_option linter.unusedVariables false
set_option maxRecDepth 100000

def upF (F : Nat → Int) (i j : Nat) : Int := if j < i then F j else 0
theorem upF_step {F : Nat → Int} {i j : Nat} : (if j = i then F i else upF F i j) = upF F (i + 1) j := by
  unfold upF
  by_cases h : j = i
  · subst h; rw [if_pos rfl, if_pos (by omega)]
  · rw [if_neg h]
    by_cases h2 : j < i
    · rw [if_pos h2, if_pos (by omega)]
    · rw [if_neg h2, if_neg (by omega)]
theorem upF_all {F : Nat → Int} {n j : Nat} (h : j < n) : upF F n j = F j := by unfold upF; rw [if_pos h]
theorem wrap64_mul (x k : Int) : wrap64 (x + 18446744073709551616 * k) = wrap64 x := by
  unfold wrap64
  rw [show x + 18446744073709551616 * k + 9223372036854775808 = x + 9223372036854775808 + 18446744073709551616 * k by omega, Int.add_mul_emod_self_left]
theorem wrap64_ex (x : Int) : ∃ k, wrap64 x = x + 18446744073709551616 * k := by
  refine ⟨-((x + 9223372036854775808) / 18446744073709551616), ?_⟩
  unfold wrap64
  have := Int.mul_ediv_add_emod (x + 9223372036854775808) 18446744073709551616
  omega
theorem wrap2 (x y z : Int) : wrap64 (wrap64 (x - wrap64 (2 * y)) + z) = wrap64 (wrap64 (x - y) - wrap64 (y - z)) := by
  obtain ⟨a, ha⟩ := wrap64_ex (2 * y)
  obtain ⟨b, hb⟩ := wrap64_ex (x - wrap64 (2 * y))
  obtain ⟨c, hc⟩ := wrap64_ex (x - y)
  obtain ⟨d, hd⟩ := wrap64_ex (y - z)
  rw [hb, ha, hc, hd]
  have e1 : x - (2 * y + 18446744073709551616 * a) + 18446744073709551616 * b + z = (x - 2 * y + z) + 18446744073709551616 * (b - a) := by omega
  have e2 : x - y + 18446744073709551616 * c - (y - z + 18446744073709551616 * d) = (x - 2 * y + z) + 18446744073709551616 * (c - d) := by omega
  rw [e1, e2, wrap64_mul, wrap64_mul]
theorem dd1 {B : Nat → Int} {i : Nat} (h : 0 < i) : dd B 1 i = wrap64 (B i - B (i - 1)) := by
  show dif 1 B i = _
  unfold dif; rw [if_neg (by omega)]
theorem dd_zero (B : Nat → Int) (q : Nat) (hq : q ≤ 2) : dd B q 0 = B 0 := by
  have : q = 0 ∨ q = 1 ∨ q = 2 := by omega
  rcases this with rfl | rfl | rfl
  · rfl
  · show dif 1 B 0 = _; unfold dif; rw [if_pos (by omega)]
  · show dif 2 (dif 1 B) 0 = _; unfold dif; rw [if_pos (by omega), if_pos (by omega)]
theorem dd_one (B : Nat → Int) : dd B 2 1 = wrap64 (B 1 - B 0) := by
  show dif 2 (dif 1 B) 1 = _; unfold dif; rw [if_pos (by omega), if_neg (by omega)]
theorem dd2 {B : Nat → Int} {i : Nat} (h : 2 ≤ i) : dd B 2 i = wrap64 (wrap64 (B i - wrap64 (2 * B (i - 1))) + B (i - 2)) := by
  rw [wrap2]
  show dif 2 (dd B 1) i = _
  have : dif 2 (dd B 1) i = wrap64 (dd B 1 i - dd B 1 (i - 1)) := by unfold dif; rw [if_neg (by omega)]
  rw [this, dd1 (by omega), dd1 (by omega), show i - 1 - 1 = i - 2 by omega]

set_option maxHeartbeats 4000000 in
theorem adiff_walk (w : World) (a0 : Option Addr) (b o n c q : Nat) (B : Nat → Int) (hn : n ≤ 65536) (hq : q ≤ 2) (hqn : q ≤ n) (ha : 0 < n → a0 = some ⟨b, o, none⟩) (HR : Hid (Row w b o n B)) (HI : Hid (I64 n B)) :
    Calls Ybad.prog 7 #[.slice a0 n c, .int .i64 q] w fun e w' => ∃ v', e = .returned v' ∧ OwnV w' 5 v' (byts (encD (dd B q) n q)) ∧ Below w.heap.size w w' ∧ ∀ g, v'.ownBlock = some g → w.heap.size ≤ g := by
  obtain ⟨i2, a2, b2, c2, d2⟩ := info_parts info2
  have J2 := (show Hid _ from And.intro a2 (And.intro b2 (And.intro c2 d2)))
  clear a2 b2 c2 d2
  have HA := (show Hid _ from ha)
  have hn2 : (n : Int) ≤ 65536 := by omega
  have hq2 : (q : Int) ≤ 2 := by omega
  clear ha
  go_enter Ybad.func7, Ybad.ntmps7
  go_wp2_with (at_make; refine wpList_make_h _ rfl _ _ 24 rfl 2 i2 (.int .i64 0) Ybad.underlying24 J2.out.1 J2.out.2.1 J2.out.2.2.1 J2.out.2.2.2 rfl n rfl rfl hn ?_; intro w1 HR1 hB1 hs1)
  have HF1 : Hid (∀ k, w1.frozen? ⟨w.heap.size, k, none⟩ = false) := fun k => frozen_of_row _ _ k _ _ HR1.out
  have HR1r : Hid (Row w1 w.heap.size 0 n (upF (dd B q) 0)) := fun i hi => by rw [Nat.zero_add, cell_of_row _ _ i _ _ _ HR1.out]; simp [upF, hi]
  have HB1 : Hid (Below w.heap.size w w1) := hB1
  clear HR1 hB1
  go_loopw [6, 16, 39, 53] (fun x6 x16 x39 x53 wr => ∃ i : Nat, i ≤ n ∧ x16 = .int .i64 i ∧ Row wr w.heap.size 0 n (upF (dd B q) i) ∧ But w.heap.size w1 wr) (fun _ i _ _ _ => n - (intOf i).toNat)
  case atStart => exact ⟨0, by omega, rfl, HR1r.out, But.refl _ _⟩
  case round =>
    obtain ⟨i, hi, rfl, hrr, hbt⟩ := hrel
    have HRr : Hid (Row wr w.heap.size 0 n (upF (dd B q) i)) := hrr
    have HBt : Hid (But w.heap.size w1 wr) := hbt
    have hl : Below w.heap.size w wr := HB1.out.trans (hbt.below (Nat.le_refl _))
    clear hrr hbt
    by_cases hin : i < n
    · have hin' : (i : Int) < n := by omega
      obtain rfl := HA.out (by omega)
      have h1 := cell_later hl (HR.out i hin)
      have h2 := HRr.out i hin
      rw [Nat.zero_add] at h2
      have hf : wr.frozen? ⟨w.heap.size, i, none⟩ = false := (HBt.out.frozen i).trans (HF1.out i)
      have STEP : Hid (∀ (x : Int) (W : World), (∀ q, W.cell? ⟨w.heap.size, q, none⟩ = wr.cell? ⟨w.heap.size, q, none⟩) → x = dd B q i → Row (W.setCell ⟨w.heap.size, i, none⟩ (.int .i64 x)) w.heap.size 0 n (upF (dd B q) (i + 1))) := by
        intro x W hW hx
        have h9 := Row.set (w := W) (b := w.heap.size) (o := 0) (n := n) (D := upF (dd B q) i) (fun j hj => (hW (0 + j)).trans (HRr.out j hj)) i x hin
        rw [Nat.zero_add] at h9
        refine Row.ext h9 fun j _ => ?_
        rw [← upF_step, hx]
      by_cases hi0 : i = 0
      · subst hi0
        have HV : Hid (B 0 = dd B q 0) := (dd_zero B q hq).symm
        rw [Nat.add_zero] at h1
        clear hl
        go_wp2_with fail
        go_roundw
        case rel => exact ⟨1, by omega, by go_num, STEP.out _ _ (fun _ => rfl) HV.out, HBt.out.set 0 _⟩
        case measure => simp [intOf]; omega
      · have hi1 : ((i : Int) == 0) = false := beq_false_of_ne (by omega)
        obtain ⟨p, hp⟩ : ∃ p, i = p + 1 := ⟨i - 1, by omega⟩
        have ej : (i : Int) - 1 = (p : Int) := by omega
        have h3 := cell_later hl (HR.out p (by omega))
        have hpn : (p : Int) < n := by omega
        have hip : i - 1 = p := by omega
        by_cases hq0 : q = 0
        · subst hq0
          have HV : Hid (B i = dd B 0 i) := rfl
          clear hl hp ej h3 hpn hip
          go_wp2_with fail
          go_roundw
          case rel => exact ⟨i + 1, by omega, by go_num, STEP.out _ _ (fun _ => rfl) HV.out, HBt.out.set i _⟩
          case measure => simp [intOf]; omega
        · have hq1 : ((q : Int) == 0) = false := beq_false_of_ne (by omega)
          by_cases hk : q = 1 ∨ i = 1
          · have HV : Hid (wrap64 (B i - B p) = dd B q i) := by
              show _ = _
              rcases hk with rfl | rfl
              · rw [dd1 (by omega), hip]
              · obtain rfl : p = 0 := by omega
                have : q = 1 ∨ q = 2 := by omega
                rcases this with rfl | rfl
                · rw [dd1 (by omega)]
                · rw [dd_one]
            by_cases hqq : q = 1
            · have hq3 : ((q : Int) == 1) = true := by rw [hqq]; rfl
              clear hl hp hip hk hqq hq0 hi0
              go_wp2_with fail
              go_big_region
              go_wp2_with fail
              go_roundw
              case rel => exact ⟨i + 1, by omega, by go_num, STEP.out _ wr.drew (fun _ => rfl) HV.out, HBt.out.drew.set i _⟩
              case measure => simp [intOf]; omega
            · have hq3 : ((q : Int) == 1) = false := beq_false_of_ne (by omega)
              have h91 : i = 1 := by omega
              have hi3 : ((i : Int) == 1) = true := by rw [h91]; rfl
              clear h91
              clear hl hp hip hk hqq hq0 hi0
              go_wp2_with fail
              go_big_region
              go_wp2_with fail
              go_roundw
              case rel => exact ⟨i + 1, by omega, by go_num, STEP.out _ wr.drew (fun _ => rfl) HV.out, HBt.out.drew.set i _⟩
              case measure => simp [intOf]; omega
          · have hq3 : ((q : Int) == 1) = false := beq_false_of_ne (by omega)
            have hi3 : ((i : Int) == 1) = false := beq_false_of_ne (by omega)
            obtain ⟨p2, hp2⟩ : ∃ p2, i = p2 + 2 := ⟨i - 2, by omega⟩
            have ej2 : (i : Int) - 2 = (p2 : Int) := by omega
            have h4 := cell_later hl (HR.out p2 (by omega))
            have hp2n : (p2 : Int) < n := by omega
            have HV : Hid (wrap64 (wrap64 (B i - wrap64 (2 * B p)) + B p2) = dd B q i) := by
              show _ = _
              obtain rfl : q = 2 := by omega
              rw [dd2 (by omega), hip, show i - 2 = p2 by omega]
            clear hl hp hip hk hq0 hi0 hp2
            go_wp2_with fail
            go_big_region
            go_wp2_with fail
            go_roundw
            case rel => exact ⟨i + 1, by omega, by go_num, STEP.out _ wr.drew (fun _ => rfl) HV.out, HBt.out.drew.set i _⟩
            case measure => simp [intOf]; omega
    · obtain rfl : n = i := by omega
      have hin' : ¬ (n : Int) < n := by omega
      have HRD : Hid (Row wr w.heap.size 0 n (dd B q)) := HRr.out.ext fun j hj => upF_all hj
      have HL : Hid (Below w.heap.size w wr) := hl
      have hws : w.heap.size < wr.heap.size := by have := HBt.out.size; omega
      have HID : Hid (I64 n (dd B q)) := dd_rng HI.out q
      clear hl HRr HBt HF1 HR1r HB1 hin HR HI HA
      obtain ⟨D, hD⟩ : ∃ D, dd B q = D := ⟨_, rfl⟩
      rw [hD] at HRD HID
      have HDQ := (show Hid _ from hD)
      clear hD
      generalize hwcx : wr = w2 at *
      clear hwcx
      go_wp2_with fail
      have hO : OwnV (w2.alloc (Obj.cells #[Value.int IntKind.u8 ↑q] 5)) 5 (.slice (some ⟨w2.heap.size, 0, none⟩) 1 1) (byts [q]) := OwnV.made w2 5 (byts [q]) (by simp [byts, maxLen])
      have HO := (show Hid _ from hO)
      have hr3 : Row (w2.alloc (Obj.cells #[Value.int IntKind.u8 ↑q] 5)) w.heap.size 0 n D := HRD.out.later ((Below.refl _ w2).alloc (Nat.le_refl _) _)
      have HR3 : Hid (Row (w2.alloc (Obj.cells #[Value.int IntKind.u8 ↑q] 5)) w.heap.size 0 n D) := hr3
      have HL3 : Hid (Below w.heap.size w (w2.alloc (Obj.cells #[Value.int IntKind.u8 ↑q] 5))) := HL.out.alloc (Nat.le_of_lt hws) _
      have HNE : Hid ((Value.slice (some ⟨w2.heap.size, 0, none⟩) 1 1).ownBlock ≠ some w.heap.size) := by
        intro e
        have : w2.heap.size = w.heap.size := by simpa [Value.ownBlock] using e
        omega
      have HGE : Hid (∀ g, (Value.slice (some ⟨w2.heap.size, 0, none⟩) 1 1).ownBlock = some g → w.heap.size ≤ g) := by
        intro g e
        have : w2.heap.size = g := by simpa [Value.ownBlock] using e
        omega
      have HSZ3 : Hid (w.heap.size < (w2.alloc (Obj.cells #[Value.int IntKind.u8 ↑q] 5)).heap.size) := by show _ < _; simp; omega
      generalize (w2.alloc (Obj.cells #[Value.int IntKind.u8 ↑q] 5)) = w3 at *
      generalize hvv : (Value.slice (some { block := w2.heap.size, off := 0 }) 1 1) = v0 at *
      clear hO hr3 hvv HL HRD
      go_loopw [7, 8] (fun x7 x8 wr => ∃ j : Nat, j ≤ q ∧ x8 = .int .i64 j ∧ Bf w3 wr v0 x7 ([q] ++ hdB D j)) (fun _ i _ => q - (intOf i).toNat)
      case atStart => exact ⟨0, Nat.zero_le _, rfl, by rw [hdB, List.append_nil]; exact Bf.refl HO.out⟩
      case round =>
        obtain ⟨j, hj, rfl, hB⟩ := hrel
        have HB := (show Hid _ from hB)
        have hhl : ([q] ++ hdB D j).length ≤ 100 := by
          have := hdL_le HID.out j (by omega)
          rw [List.length_append, hdB_len]; simp; omega
        clear HO
        by_cases hjq : j < q
        · have hjq' : (j : Int) < q := by omega
          have hjn : (j : Int) < n := by omega
          have hc : wr.cell? ⟨w.heap.size, j, none⟩ = some (.int .i64 (D j)) := by
            have h9 := hB.row HR3.out HNE.out j (by omega)
            rw [Nat.zero_add] at h9; exact h9
          have K1 := (show Hid _ from azig_walk (D j) wr (HID.out j (by omega)))
          have K2 := (show Hid _ from auv_walk w3 wr v0 _ ([q] ++ hdB D j) (zg (D j)) (zg_lt (HID.out j (by omega))) HB (by omega))
          have HH : Hid ([q] ++ hdB D j ++ uvB (zg (D j)) = [q] ++ hdB D (j + 1)) := by show _ = _; rw [hdB]; simp only [List.append_assoc]
          rw [HH.out] at K2
          generalize zg (D j) = Z at *
          clear hB hhl
          go_wp2_with fail
          refine Calls.mono K1.out ?_
          rintro e w4 ⟨rfl, hw4⟩
          obtain rfl : wr = w4 := hw4.symm
          clear hw4 K1
          go_wp2_with fail
          refine Calls.mono K2.out ?_
          rintro e w4 ⟨v4, rfl, hB4⟩
          have HB4 := (show Hid _ from hB4)
          clear hB4 K2
          go_wp2_with fail
          go_roundw
          case rel => exact ⟨j + 1, by omega, by go_num, HB4.out⟩
          case measure => simp [intOf]; omega
        · obtain rfl : q = j := by omega
          have hjq' : ¬ (q : Int) < q := by omega
          clear hB
          go_wp2_with fail
          go_loopw [7, 9, 10] (fun x7 x9 x10 wr => ∃ (st : Nat) (pre : List Nat), x9 = .int .i64 st ∧ q ≤ st ∧ st ≤ n + 128 ∧ Bf w3 wr v0 x7 ([q] ++ hdB D q ++ pre) ∧ pre ++ fsB D n st = fsB D n q) (fun _ i _ _ => n - (intOf i).toNat)
          case atStart => exact ⟨q, [], rfl, Nat.le_refl _, by omega, by rw [List.append_nil]; exact HB.out, rfl⟩
          case round =>
            obtain ⟨st, pre, rfl, hqs, hsn, hB, hp⟩ := hrel
            have HB' := (show Hid _ from hB)
            have HP := (show Hid _ from hp)
            have hfl := fsB_len (D := D) (n := n) n q (by omega)
            have hfq := frs_le HID.out n q (by omega)
            have hdl := hdL_le HID.out q (by omega)
            have hll : ([q] ++ hdB D q ++ pre).length ≤ 100000000 := by
              have := congrArg List.length hp
              rw [List.length_append, hfl] at this
              rw [List.length_append, List.length_append, hdB_len]; simp; omega
            clear hfl hfq hdl hp HB
            by_cases hst : st < n
            · have hst' : (st : Int) < n := by omega
              obtain ⟨m, hm⟩ : ∃ m, m = min 128 (n - st) := ⟨_, rfl⟩
              have hFS := fsB_lt (D := D) hst
              rw [← hm] at hFS
              have hRow : Row wr w.heap.size st m (sh D st) := fun i hi => by
                have h9 := hB.row HR3.out HNE.out (st + i) (by omega)
                rw [Nat.zero_add] at h9; exact h9
              have hne : ∀ v', Bf w3 wr v0 v' ([q] ++ hdB D q ++ pre) → v'.ownBlock ≠ some w.heap.size := fun v' h e => by
                rcases h.blk _ e with e' | e'
                · exact HNE.out e'
                · have := HSZ3.out; omega
              have KF := (show Hid _ from aframe_walk wr _ ([q] ++ hdB D q ++ pre) w.heap.size st m (n - st) (sh D st) (by omega) (by omega) (by omega) (by omega) hRow (HID.out.sh (by omega)) hB.own (hne _ hB) (by omega))
              have HE : Hid (pre ++ frB (sh D st) m ++ fsB D n (st + 128) = fsB D n q) := by show _ = _; rw [← HP.out, hFS]; simp only [List.append_assoc]
              have hs2 : (st : Int) ≤ 65536 := by omega
              clear hB hRow hFS hll hne
              by_cases hen : st + 128 > n
              · have hen' : (n : Int) < (st : Int) + 128 := by omega
                obtain rfl : m = n - st := by omega
                clear hm hen
                go_wp2_with fail
                refine Calls.mono KF.out ?_
                rintro e w5 ⟨v5, rfl, hB5⟩
                have HB5 := (show Hid _ from hB5)
                clear hB5 KF
                go_wp2_with fail
                go_roundw
                case rel => exact ⟨st + 128, pre ++ frB (sh D st) (n - st), by go_num, by omega, by omega, by rw [← List.append_assoc]; exact HB'.out.trans HB5.out, HE.out⟩
                case measure => simp [intOf]; omega
              · have hen' : ¬ (n : Int) < (st : Int) + 128 := by omega
                obtain rfl : m = 128 := by omega
                have hen2 : (st : Int) + 128 ≤ n := by omega
                clear hm hen
                go_wp2_with fail
                refine Calls.mono KF.out ?_
                rintro e w5 ⟨v5, rfl, hB5⟩
                have HB5 := (show Hid _ from hB5)
                clear hB5 KF
                go_wp2_with fail
                go_roundw
                case rel => exact ⟨st + 128, pre ++ frB (sh D st) 128, by go_num, by omega, by omega, by rw [← List.append_assoc]; exact HB'.out.trans HB5.out, HE.out⟩
                case measure => simp [intOf]; omega
            · have hst' : ¬ (st : Int) < n := by omega
              obtain rfl : pre = fsB D n q := by have := HP.out; rw [fsB_ge hst, List.append_nil] at this; exact this
              clear hB
              go_wp2_with fail
              go_ret
              exact ⟨_, rfl, by rw [HDQ.out]; exact HB'.out.own, HL3.out.trans (HB'.out.onl.below (Nat.le_of_lt HSZ3.out) HGE.out), fun g hg => by
                rcases HB'.out.blk g hg with e' | e'
                · exact HGE.out g e'
                · have := HSZ3.out; omega⟩
end Go.Proofs.YbulkecgoDoor

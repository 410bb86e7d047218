/-
  A frame of the law's.
-/
import Derived.Test.YbulkecgoDoorFrB
import Derived.Deep.CutRange
import Derived.Deep.CutBlock
import Derived.BigRegion
namespace Go.Proofs.YbulkecgoDoor
open Go.RowKit Go.Shelf _root_.Go.Proofs.YbulkecgoDoor.Own
set_option linter.unusedVariables false
set_option maxRecDepth 100000

theorem mnF_step (D : Nat → Int) (i : Nat) : mnF D i = if D i < mnF D (i - 1) then D i else mnF D (i - 1) := by
  cases i with
  | zero => show D 0 = if D 0 < D 0 then D 0 else D 0; simp
  | succ i => rw [mnF_succ]; show _ = if D (i + 1) < mnF D i then _ else mnF D i; split <;> omega
theorem mxF_step (D : Nat → Int) (i : Nat) : mxF D i = if mxF D (i - 1) < D i then D i else mxF D (i - 1) := by
  cases i with
  | zero => show D 0 = if D 0 < D 0 then D 0 else D 0; simp
  | succ i => rw [mxF_succ]; show _ = if mxF D i < D (i + 1) then _ else mxF D i; split <;> omega
theorem or_bit {y c : Nat} (hy : y < 128) (hc : c < 2) : bits .or .u8 ((y : Int) * 2) (c : Int) = ((y * 2 + c : Nat) : Int) := by
  have h1 := u8_or_nat (y * 2) c (by omega) (by omega)
  rw [nat_join 1 (y * 2) c (by omega) (by omega)] at h1
  have e : ((y * 2 : Nat) : Int) = (y : Int) * 2 := by omega
  rw [e] at h1
  exact h1

theorem Bf.form3 {w w' : World} {v v' : Value} {bs : List Nat} (h : Bf w w' v v' bs) : ∃ ao l cap, v' = .slice ao l cap := by
  obtain ⟨ao, cap, e⟩ := h.form
  exact ⟨ao, _, cap, e⟩
/-- The law's packing: the bytes out, the byte in hand, its bits. -/
def Lb (w wr : World) (v x0 x12 x13 : Value) (es : List Nat) (X T : Nat) : Prop :=
  ∃ cur nb : Nat, x12 = .int .u8 (cur : Int) ∧ x13 = .int .i64 (nb : Int) ∧ Bf w wr v x0 (es ++ byt X T (T / 8)) ∧ cur = X % 2 ^ (T % 8) ∧ nb = T % 8
theorem bit_next (X0 u k p : Nat) (hp : p + 1 ≤ k) : (X0 * 2 ^ (k - (p + 1)) + u / 2 ^ (p + 1)) * 2 + u / 2 ^ p % 2 = X0 * 2 ^ (k - p) + u / 2 ^ p := by
  have h1 : k - p = (k - (p + 1)) + 1 := by omega
  rw [h1, Nat.pow_succ, Nat.pow_succ, ← Nat.div_div_eq_div_mul, ← Nat.mul_assoc]
  generalize X0 * 2 ^ (k - (p + 1)) = A
  generalize u / 2 ^ p = B
  omega

set_option maxHeartbeats 4000000 in
theorem aframe_walk (w : World) (v : Value) (bs : List Nat) (b o n c : Nat) (D : Nat → Int) (hn : 1 ≤ n) (hn128 : n ≤ 128) (hnc : n ≤ c) (hcm : c ≤ 140737488355328) (HR : Hid (Row w b o n D)) (HI : Hid (I64 n D)) (HB : Hid (OwnV w 5 v (byts bs))) (hbv : v.ownBlock ≠ some b) (hl : bs.length ≤ 800000000) :
    Calls Ybad.prog 18 #[v, .slice (some ⟨b, o, none⟩) n c] w fun e w' => ∃ v', e = .returned v' ∧ Bf w w' v v' (bs ++ frB D n) := by
  have hc0 := HR.out 0 (by omega)
  rw [Nat.add_zero] at hc0
  have hn1 : (0 : Int) < n := by omega
  have HBV := (show Hid _ from hbv)
  clear hbv
  go_enter Ybad.func18, Ybad.ntmps18
  go_wp2_with fail
  go_big_region
  go_wp2_with fail
  clear hc0
  go_loopw [5, 6, 8, 26] (fun x5 x6 x8 x26 wr => ∃ i : Nat, i ≤ n ∧ x26 = .int .i64 i ∧ x5 = .int .i64 (mnF D (i - 1)) ∧ x6 = .int .i64 (mxF D (i - 1)) ∧ wr = w.drew) (fun _ _ _ i _ => n - (intOf i).toNat)
  case atStart => exact ⟨0, by omega, rfl, rfl, rfl, rfl⟩
  case round =>
    obtain ⟨i, hi, rfl, rfl, rfl, hwr⟩ := hrel
    obtain rfl : w.drew = wr := hwr.symm
    clear hwr
    by_cases hin : i < n
    · have hin' : (i : Int) < n := by omega
      have h1 : w.drew.cell? ⟨b, o + i, none⟩ = some (.int .i64 (D i)) := HR.out i hin
      have S1 := mnF_step D i
      have S2 := mxF_step D i
      have HM : Hid (∀ i, mnF D (i + 1 - 1) = mnF D i ∧ mxF D (i + 1 - 1) = mxF D i) := fun i => ⟨rfl, rfl⟩
      generalize mnF D (i - 1) = lo at *
      generalize mxF D (i - 1) = hi' at *
      by_cases a1 : D i < lo
      · rw [if_pos a1] at S1
        by_cases a2 : hi' < D i
        · rw [if_pos a2] at S2
          have HS := (show Hid _ from And.intro S1 S2)
          clear S1 S2
          go_wp2_with fail
          go_roundw
          case rel => exact ⟨i + 1, by omega, by go_num, by rw [(HM.out i).1, HS.out.1], by rw [(HM.out i).2, HS.out.2], by trivial⟩
          case measure => simp [intOf]; omega
        · rw [if_neg a2] at S2
          have HS := (show Hid _ from And.intro S1 S2)
          clear S1 S2
          go_wp2_with fail
          go_roundw
          case rel => exact ⟨i + 1, by omega, by go_num, by rw [(HM.out i).1, HS.out.1], by rw [(HM.out i).2, HS.out.2], by trivial⟩
          case measure => simp [intOf]; omega
      · rw [if_neg a1] at S1
        by_cases a2 : hi' < D i
        · rw [if_pos a2] at S2
          have HS := (show Hid _ from And.intro S1 S2)
          clear S1 S2
          go_wp2_with fail
          go_roundw
          case rel => exact ⟨i + 1, by omega, by go_num, by rw [(HM.out i).1, HS.out.1], by rw [(HM.out i).2, HS.out.2], by trivial⟩
          case measure => simp [intOf]; omega
        · rw [if_neg a2] at S2
          have HS := (show Hid _ from And.intro S1 S2)
          clear S1 S2
          go_wp2_with fail
          go_roundw
          case rel => exact ⟨i + 1, by omega, by go_num, by rw [(HM.out i).1, HS.out.1], by rw [(HM.out i).2, HS.out.2], by trivial⟩
          case measure => simp [intOf]; omega
    · obtain rfl : n = i := by omega
      have hin' : ¬ (n : Int) < n := by omega
      have h1 := mnF_in HI.out (n - 1) (by omega)
      have h2 := mxF_in HI.out (n - 1) (by omega)
      have h3 := mn_le_mx D (n - 1)
      have hzl := zg_lt h1
      have hf := frameW_le hn HI.out
      have HFV : Hid (∀ i, i < n → (D i - mnF D (n - 1)).toNat < 2 ^ frameW D n ∧ 0 ≤ D i - mnF D (n - 1) ∧ D i - mnF D (n - 1) < 18446744073709551616) := fun i hi => frame_val HI.out hi
      have hul : (uvB (zg (mnF D (n - 1)))).length ≤ 10 := by rw [uvB_len _ _ (Nat.le_refl _)]; exact uvl_10 hzl
      have HFB : Hid (frB D n = uvB (zg (mnF D (n - 1))) ++ [frameW D n] ++ pk (pX D (mnF D (n - 1)) (frameW D n) n) (frameW D n * n)) := rfl
      have HFW : Hid (frameW D n = bl (mxF D (n - 1) - mnF D (n - 1)).toNat) := rfl
      have hB0 : Bf w w v v bs := Bf.refl HB.out
      have K1 := (show Hid _ from azig_walk (mnF D (n - 1)) w.drew h1)
      have K2 := (show Hid _ from auv_walk w w.drew v v bs (zg (mnF D (n - 1))) hzl (show Hid _ from hB0.drew) (by omega))
      obtain ⟨FB, hFB⟩ : ∃ FB, frB D n = FB := ⟨_, rfl⟩
      rw [hFB] at HFB
      have HFQ := (show Hid _ from hFB)
      clear hFB
      generalize frameW D n = FW at *
      generalize mnF D (n - 1) = lo at *
      generalize mxF D (n - 1) = hi' at *
      obtain ⟨ds, hds⟩ : ∃ ds, bs ++ uvB (zg lo) = ds := ⟨_, rfl⟩
      rw [hds] at K2
      have hdl : ds.length ≤ 800000010 := by rw [← hds, List.length_append]; omega
      have HDS := (show Hid _ from hds)
      obtain ⟨dd, hdd⟩ : ∃ dd : Nat, hi' - lo = (dd : Int) := ⟨(hi' - lo).toNat, by omega⟩
      have HDD : Hid (FW = bl dd) := by show _ = _; rw [HFW.out, hdd, Int.toNat_natCast]
      have NC : IntKind.u64.wrap (wrap64 (hi' - lo)) = (dd : Int) := by rw [hdd]; exact u64_wrap64 (by omega)
      have hdd2 : dd < 18446744073709551616 := by omega
      clear hdd h1 h2 h3 hzl hul hB0 hds HFW hi
      go_wp2_with fail
      go_loopw [10, 11] (fun x10 x11 wr => ∃ x k : Nat, x11 = .int .u64 x ∧ x10 = .int .i64 k ∧ k + bl x = FW ∧ x ≤ dd ∧ wr = w.drew) (fun _ x _ => (intOf x).toNat)
      case atStart => exact ⟨dd, 0, rfl, rfl, by rw [HDD.out]; omega, Nat.le_refl _, rfl⟩
      case round =>
        obtain ⟨x, k, rfl, rfl, hk, hxd, hwr⟩ := hrel
        obtain rfl : w.drew = wr := hwr.symm
        clear hwr
        have hk64 : (k : Int) ≤ 64 := by omega
        have HKK := (show Hid _ from hk)
        clear hk
        by_cases hx0 : x = 0
        · subst hx0
          obtain rfl : k = FW := by have := HKK.out; rw [bl_zero] at this; exact this
          clear HKK
          go_wp2_with fail
          refine Calls.mono K1.out ?_
          rintro e w1 ⟨rfl, hw1⟩
          obtain rfl : w.drew = w1 := hw1.symm
          clear hw1 K1
          go_wp2_with fail
          refine Calls.mono K2.out ?_
          rintro e w1 ⟨v1, rfl, hB1⟩
          have HB1 := (show Hid _ from hB1)
          clear hB1 K2
          go_wp2_with (at_builtin; refine wpList_pushL (w := w1) rfl (.tmp 54) (.tmp 57) rfl v1 ds [k] 1 rfl (by decide) rfl HB1.out.own ((Below.refl _ w1).alloc (Nat.le_refl _) _) w1.heap.size rfl (one_cell' (by go_num)) (by omega) ?_; intro g2 cap2 w2 HB2)
          have HB3 := (show Hid _ from HB1.out.trans HB2.out)
          obtain ⟨es, hes⟩ : ∃ es, ds ++ [k] = es := ⟨_, rfl⟩
          rw [hes] at HB3
          have hel : es.length ≤ 800000011 := by rw [← hes, List.length_append]; simp; omega
          have HES : Hid (ds ++ [k] = es) := hes
          clear hes HB2 HB1
          go_loopw [0, 12, 13, 15, 16, 17, 61] (fun x0 x12 x13 x15 x16 x17 x61 wr => ∃ i : Nat, i ≤ n ∧ x61 = .int .i64 i ∧ Lb w wr v x0 x12 x13 es (pX D lo k i) (k * i)) (fun _ _ _ _ _ _ i _ => n - (intOf i).toNat)
          case atStart => exact ⟨0, by omega, rfl, by rw [Nat.mul_zero]; exact ⟨0, 0, rfl, rfl, by simpa [byt] using HB3.out, rfl, rfl⟩⟩
          case round =>
            obtain ⟨i, hi, rfl, hL⟩ := hrel
            obtain ⟨cur, nb, rfl, rfl, hLb, hcur, hnb⟩ := hL
            have HLB := (show Hid _ from hLb)
            have HCU := (show Hid _ from hcur)
            have HNB := (show Hid _ from hnb)
            have hcur8 : (cur : Int) < 128 := by
              have h1 : 2 ^ (k * i % 8) ≤ 2 ^ 7 := Nat.pow_le_pow_right (by omega) (by omega)
              have h2 := Nat.mod_lt (pX D lo k i) (Nat.two_pow_pos (k * i % 8))
              omega
            have hnb8 : (nb : Int) < 8 := by omega
            clear hcur hnb
            have hTi : k * i ≤ 8192 := Nat.le_trans (Nat.mul_le_mul hf hi) (by omega)
            by_cases hin : i < n
            · have hin' : (i : Int) < n := by omega
              have hc1 := (hLb.row HR.out HBV.out) i hin
              obtain ⟨u1, u2, u3⟩ := HFV.out i hin
              obtain ⟨u, hu⟩ : ∃ u : Nat, D i - lo = (u : Int) := ⟨(D i - lo).toNat, by omega⟩
              have NC : IntKind.u64.wrap (wrap64 (D i - lo)) = (u : Int) := by rw [hu]; exact u64_wrap64 (by omega)
              have hu1 : u < 2 ^ k := by rw [hu, Int.toNat_natCast] at u1; exact u1
              have HPX : Hid (pX D lo k (i + 1) = pX D lo k i * 2 ^ k + u) := by show _ = _; rw [pX, hu, Int.toNat_natCast]
              have HTX : Hid (k * (i + 1) = k * i + k) := by show _ = _; rw [Nat.mul_add, Nat.mul_one]
              have HU1 := (show Hid _ from hu1)
              have hu64 : u < 18446744073709551616 := by omega
              obtain ⟨X0, hX0⟩ : ∃ X0, pX D lo k i = X0 := ⟨_, rfl⟩
              obtain ⟨T0, hT0⟩ : ∃ T0, k * i = T0 := ⟨_, rfl⟩
              rw [hX0, hT0] at HLB HCU
              rw [hT0] at HNB
              rw [hX0] at HPX
              rw [hT0] at HTX hTi
              clear hu u1 u2 u3 hu1 hLb hX0 hT0 HB3
              go_wp2_with fail
              clear hc1
              go_loopw [0, 12, 13, 17] (fun x0 x12 x13 x17 wr => ∃ q : Nat, q ≤ k ∧ x17 = .int .i64 ((q : Int) - 1) ∧ Lb w wr v x0 x12 x13 es (X0 * 2 ^ (k - q) + u / 2 ^ q) (T0 + (k - q))) (fun _ _ _ q _ => (intOf q + 1).toNat)
              case atStart =>
                refine ⟨k, Nat.le_refl _, rfl, ?_⟩
                rw [Nat.sub_self, Nat.pow_zero, Nat.mul_one, Nat.div_eq_of_lt HU1.out]
                exact ⟨cur, nb, rfl, rfl, HLB.out, HCU.out, HNB.out⟩
              case round =>
                obtain ⟨q, hq, rfl, hL⟩ := hrel
                clear HLB HCU HNB hcur8 hnb8
                by_cases hq0 : q = 0
                · subst hq0
                  rw [Nat.sub_zero, Nat.pow_zero, Nat.div_one, ← HPX.out, ← HTX.out] at hL
                  have HL := (show Hid _ from hL)
                  clear hL
                  go_wp2_with fail
                  go_roundw
                  case rel => exact ⟨i + 1, by omega, by go_num, HL.out⟩
                  case measure => simp [intOf]; omega
                · obtain ⟨p, hqp⟩ : ∃ p, q = p + 1 := ⟨q - 1, by omega⟩
                  have hNX := bit_next X0 u k p (by omega)
                  rw [hqp] at hL
                  have hTT : T0 + (k - (p + 1)) + 1 = T0 + (k - p) := by omega
                  obtain ⟨X1, hX1⟩ : ∃ X1, X0 * 2 ^ (k - (p + 1)) + u / 2 ^ (p + 1) = X1 := ⟨_, rfl⟩
                  obtain ⟨T1, hT1⟩ : ∃ T1, T0 + (k - (p + 1)) = T1 := ⟨_, rfl⟩
                  rw [hX1] at hNX hL
                  rw [hT1] at hTT hL
                  obtain ⟨cur, nb, rfl, rfl, hLb, hcur, hnb⟩ := hL
                  obtain ⟨ao, l, cap, rfl⟩ := hLb.form3
                  have hcur8 : cur < 128 := by
                    have h1 : 2 ^ (T1 % 8) ≤ 2 ^ 7 := Nat.pow_le_pow_right (by omega) (by omega)
                    have h2 := Nat.mod_lt X1 (Nat.two_pow_pos (T1 % 8))
                    omega
                  have hcur8' : (cur : Int) < 128 := by omega
                  have hnb8 : (nb : Int) < 8 := by omega
                  obtain ⟨cb, hcb⟩ : ∃ cb, u / 2 ^ p % 2 = cb := ⟨_, rfl⟩
                  have hcb2 : cb < 2 := by omega
                  have hcb2' : (cb : Int) < 2 := by omega
                  have NA : bits .and .u64 ((u : Int) / 2 ^ p) 1 = (cb : Int) := by
                    have h1 := u64_and_nat (u / 2 ^ p) 1 (Nat.lt_of_le_of_lt (Nat.div_le_self _ _) hu64) (by omega)
                    rw [nat_mask1, hcb] at h1
                    rw [← h1]; simp
                  have NO := or_bit hcur8 hcb2
                  rw [hcb] at hNX
                  have hpq : ((q : Int) - 1) = (p : Int) := by omega
                  have hp0 : (0 : Int) ≤ (p : Int) := by omega
                  have hp64 : (p : Int) < 64 := by omega
                  have hpk : p ≤ k := by omega
                  rw [hpq]
                  have HNX := (show Hid _ from And.intro hNX hTT)
                  have HLB := (show Hid _ from hLb)
                  have HCU := (show Hid _ from hcur)
                  have HNB := (show Hid _ from hnb)
                  have hbl := byt_len X1 T1 (T1 / 8)
                  have hT1l : T1 ≤ 9000 := by omega
                  obtain ⟨fs, hfs⟩ : ∃ fs, es ++ byt X1 T1 (T1 / 8) = fs := ⟨_, rfl⟩
                  have hfl : fs.length ≤ 1000000000 := by rw [← hfs, List.length_append, hbl]; omega
                  rw [hfs] at HLB
                  have HFS := (show Hid _ from hfs)
                  by_cases h7 : nb = 7
                  · have e8 : ((nb : Int) + 1 == 8) = true := by rw [h7]; rfl
                    have hfull := bit_full (X := X1) (T := T1) hcb2 (by omega)
                    rw [hNX, hTT, ← hcur] at hfull
                    have HFU := (show Hid _ from hfull)
                    have HT8 : Hid ((T0 + (k - p)) % 8 = 0) := by show _ = _; omega
                    clear hNX hTT hLb hcur hnb hbl hfs hfull hX1 hT1 hqp hcb hq0 h7 hcur8 hcb2 hq
                    go_wp2_with (at_builtin; refine wpList_pushL (w := wr) rfl (.tmp 88) (.tmp 90) rfl (.slice ao l cap) fs [cur * 2 + cb] 1 rfl (by decide) rfl HLB.out.own ((Below.refl _ wr).alloc (Nat.le_refl _) _) wr.heap.size rfl (one_cell' (by first | rfl | (go_num) | omega)) (by omega) ?_; intro g4 cap4 w4 HB4)
                    refine ⟨⟨p, hpk, rfl, 0, 0, rfl, rfl, ?_, ?_, HT8.out.symm⟩, by first | (simp [intOf]; done) | (simp [intOf]; omega)⟩
                    · rw [HFU.out, ← List.append_assoc, HFS.out]; exact HLB.out.trans HB4.out
                    · rw [HT8.out]; omega
                  · have e8 : ((nb : Int) + 1 == 8) = false := beq_false_of_ne (by omega)
                    have hgo := bit_go (X := X1) (T := T1) hcb2 (by omega)
                    rw [hNX, hTT, ← hcur] at hgo
                    have HGO := (show Hid _ from hgo)
                    have HT8 : Hid ((T0 + (k - p)) % 8 = nb + 1) := by show _ = _; omega
                    clear hNX hTT hLb hcur hnb hbl hfs hgo hX1 hT1 hqp hcb hq0 h7 hcur8 hcb2 hq
                    go_wp2_with fail
                    refine ⟨⟨p, hpk, rfl, cur * 2 + cb, nb + 1, by go_num, by go_num, ?_, HGO.out.2, HT8.out.symm⟩, by first | (simp [intOf]; done) | (simp [intOf]; omega)⟩
                    rw [HGO.out.1, HFS.out]; exact HLB.out
            · obtain rfl : n = i := by omega
              have hin' : ¬ (n : Int) < n := by omega
              have HE : Hid (bs ++ FB = es ++ pk (pX D lo k n) (k * n)) := by
                show _ = _
                rw [HFB.out, ← HES.out, ← HDS.out]
                simp only [List.append_assoc]
              obtain ⟨X, hX⟩ : ∃ X, pX D lo k n = X := ⟨_, rfl⟩
              obtain ⟨T, hT⟩ : ∃ T, k * n = T := ⟨_, rfl⟩
              rw [hX, hT] at HLB HCU HE
              rw [hT] at HNB hTi
              have hbl := byt_len X T (T / 8)
              obtain ⟨fs, hfs⟩ : ∃ fs, es ++ byt X T (T / 8) = fs := ⟨_, rfl⟩
              have hfl : fs.length ≤ 1000000000 := by rw [← hfs, List.length_append, hbl]; omega
              obtain ⟨ao, l, cap, rfl⟩ := hLb.form3
              rw [hfs] at HLB
              have hcu := HCU.out
              have hnb := HNB.out
              by_cases h0 : nb = 0
              · have hz : ¬ (0 : Int) < nb := by omega
                have HPK : Hid (es ++ pk X T = fs) := by show _ = _; rw [← hfs]; unfold pk; rw [if_pos (by omega), List.append_nil]
                clear hcu hnb h0 hfs hbl hLb hX hT HB3
                go_wp2_with fail
                go_ret
                exact ⟨_, rfl, by rw [HFQ.out, HE.out, HPK.out]; exact HLB.out⟩
              · have hz : (0 : Int) < nb := by omega
                obtain ⟨m, hm⟩ : ∃ m, 8 - nb = m := ⟨_, rfl⟩
                have e1 : (8 : Int) - (nb : Int) = (m : Int) := by omega
                have hm' : (m : Int) < 64 := by omega
                have hfe := flush_end (X := X) (T := T) (acc := cur) (by omega) (by rw [hcu, Nat.mod_mod])
                rw [← hnb, hm] at hfe
                have HPK : Hid (es ++ pk X T = fs ++ [cur * 2 ^ m % 256]) := by
                  show _ = _
                  rw [← hfs]; unfold pk; rw [if_neg (by omega), ← hnb, hm, hfe, List.append_assoc]
                have NW : Hid (IntKind.u8.wrap ((cur : Int) * 2 ^ m) = ((cur * 2 ^ m % 256 : Nat) : Int)) := by
                  show _ = _
                  rw [IntKind.wrap_u8']
                  have e0 : (cur : Int) * 2 ^ m = ((cur * 2 ^ m : Nat) : Int) := by simp
                  rw [e0]; omega
                clear hcu hnb h0 hfs hbl hLb hX hT HB3 hfe hm
                go_wp2_with (at_builtin; go_loud (refine wpList_pushL (w := wr) rfl (.tmp 95) (.tmp 101) rfl (.slice ao l cap) fs [cur * 2 ^ m % 256] 1 rfl (by decide) rfl HLB.out.own ((Below.refl _ wr).alloc (Nat.le_refl _) _) wr.heap.size rfl (one_cell' NW.out) (by omega) ?_); intro g4 cap4 w4 HB4)
                go_ret
                exact ⟨_, rfl, by rw [HFQ.out, HE.out, HPK.out]; exact HLB.out.trans HB4.out⟩
        · have hx1 : ((x : Int) == 0) = false := beq_false_of_ne (by omega)
          have HBL : Hid (bl x = 1 + bl (x / 2)) := bl_pos hx0
          have hx2 : x < 18446744073709551616 := by omega
          go_wp2_with fail
          go_roundw
          case rel => exact ⟨x / 2, k + 1, by go_num, by go_num, by have := HBL.out; have := HKK.out; omega, by omega, by trivial⟩
          case measure => simp [intOf]; omega
end Go.Proofs.YbulkecgoDoor

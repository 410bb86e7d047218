/-
  A frame of the program's.
-/
import Derived.Test.YbulkecgoDoorFlush
import Derived.Test.YbulkecgoDoorFrB
namespace Go.Proofs.YbulkecgoDoor
open Go.RowKit Go.Shelf _root_.Go.Proofs.YbulkecgoDoor.Own
set_option linter.unusedVariables false
set_option maxRecDepth 100000

theorem Wr.start {w w1 : World} {v v1 : Value} {bs : List Nat} (h : Bf w w1 v v1 bs) : Wr w (w1.alloc (.cells #[v1, .int .u64 0, .int .u64 0] 80)) v w1.heap.size bs 0 0 v1 0 := by
  have hnew := heap_alloc_new w1 (.cells #[v1, .int .u64 0, .int .u64 0] 80)
  refine ⟨?_, ?_, ?_, ?_, fun q => frozen_of_row _ _ q _ _ hnew, by omega, rfl, fun e => ?_, h.onl.size, by simp⟩
  · have := h.later ((Below.refl _ w1).alloc (Nat.le_refl _) (.cells #[v1, .int .u64 0, .int .u64 0] 80))
    simpa [byt] using this
  · rw [cell_of_row _ _ 0 _ _ _ hnew]; rfl
  · rw [cell_of_row _ _ 1 _ _ _ hnew]; rfl
  · rw [cell_of_row _ _ 2 _ _ _ hnew]; rfl
  · have := h.own.lt e; omega

set_option maxHeartbeats 4000000 in
theorem appendFrame_walk (w : World) (v : Value) (bs : List Nat) (b o n c : Nat) (D : Nat → Int) (hn : 1 ≤ n) (hn128 : n ≤ 128) (hnc : n ≤ c) (hcm : c ≤ 140737488355328) (HR : Hid (Row w b o n D)) (HI : Hid (I64 n D)) (HB : Hid (OwnV w 5 v (byts bs))) (hbv : v.ownBlock ≠ some b) (hl : bs.length ≤ 800000000) :
    Calls Ybad.prog 51 #[v, .slice (some ⟨b, o, none⟩) n c] w fun e w' => ∃ v', e = .returned v' ∧ Bf w w' v v' (bs ++ frB D n) := by
  have h1 := mnF_in HI.out (n - 1) (by omega)
  have hzl := zg_lt h1
  have K1 := (show Hid _ from frameBounds_walk b o n c D w hn hnc hcm HR HI)
  have hB0 : Bf w w v v bs := Bf.refl HB.out
  have K2 := (show Hid _ from AppendVarint_walk w w.drew v v bs (mnF D (n - 1)) h1 (show Hid _ from hB0.drew) (by omega))
  have hf := frameW_le hn HI.out
  have HFV : Hid (∀ i, i < n → (D i - mnF D (n - 1)).toNat < 2 ^ frameW D n ∧ 0 ≤ D i - mnF D (n - 1) ∧ D i - mnF D (n - 1) < 18446744073709551616) := fun i hi => frame_val HI.out hi
  have hul : (uvB (zg (mnF D (n - 1)))).length ≤ 10 := by rw [uvB_len _ _ (Nat.le_refl _)]; exact uvl_10 hzl
  have HFB : Hid (frB D n = uvB (zg (mnF D (n - 1))) ++ [frameW D n] ++ pk (pX D (mnF D (n - 1)) (frameW D n) n) (frameW D n * n)) := rfl
  have HBV := (show Hid _ from hbv)
  generalize frB D n = FB at *
  generalize frameW D n = FW at *
  generalize mnF D (n - 1) = lo at *
  obtain ⟨ds, hds⟩ : ∃ ds, bs ++ uvB (zg lo) = ds := ⟨_, rfl⟩
  rw [hds] at K2
  have hdl : ds.length ≤ 800000010 := by rw [← hds, List.length_append]; omega
  have HDS := (show Hid _ from hds)
  obtain ⟨h1a, h1b⟩ := h1
  have hf2 : (FW : Int) ≤ 64 := by omega
  clear hzl hul hB0 hbv hds
  go_enter Ybad.func51, Ybad.ntmps51
  go_wp2_with fail
  refine Calls.mono K1.out ?_
  rintro e w1 ⟨rfl, hw1⟩
  obtain rfl : w.drew = w1 := hw1.symm
  clear hw1 K1
  go_wp2_with fail
  refine Calls.mono K2.out ?_
  rintro e w1 ⟨v1, rfl, hB1⟩
  have HB1 := (show Hid _ from hB1)
  clear hB1 K2
  go_wp2_with (at_builtin; refine wpList_pushL (w := w1) rfl (.tmp 17) (.tmp 20) rfl v1 ds [FW] 1 rfl (by decide) rfl HB1.out.own ((Below.refl _ w1).alloc (Nat.le_refl _) _) w1.heap.size rfl (one_cell (by go_num)) (by omega) ?_; intro g2 cap2 w2 HB2)
  have hS := Wr.start (HB1.out.trans HB2.out)
  have HST := (show Hid _ from hS)
  generalize (w2.alloc (Obj.cells #[Value.slice (some { block := g2, off := 0 }) (ds.length + 1) cap2, Value.int IntKind.u64 0, Value.int IntKind.u64 0] 80)) = w3 at *
  generalize w2.heap.size = wb at *
  obtain ⟨es, hes⟩ : ∃ es, ds ++ [FW] = es := ⟨_, rfl⟩
  rw [hes] at HST
  have hel : es.length ≤ 800000011 := by rw [← hes, List.length_append]; simp; omega
  have HES : Hid (ds ++ [FW] = es) := hes
  clear hS hes HB2 HB1
  go_loopw [9, 25] (fun x9 x25 wr => ∃ i : Nat, i ≤ n ∧ x25 = .int .i64 i ∧ ∃ v' acc, Wr w wr v wb es (pX D lo FW i) (FW * i) v' acc) (fun _ i _ => n - (intOf i).toNat)
  case atStart => exact ⟨0, by omega, rfl, _, _, HST.out⟩
  case round =>
    obtain ⟨i, hi, rfl, v', acc, hW⟩ := hrel
    have HW := (show Hid _ from hW)
    clear hW HST
    have hTi : FW * i ≤ 8192 := Nat.le_trans (Nat.mul_le_mul hf hi) (by omega)
    by_cases hin : i < n
    · have hin' : (i : Int) < n := by omega
      have hc1 := (HW.out.buf.row HR.out HBV.out) i hin
      obtain ⟨u1, u2, u3⟩ := HFV.out i hin
      obtain ⟨u, hu⟩ : ∃ u : Nat, D i - lo = (u : Int) := ⟨(D i - lo).toNat, by omega⟩
      have NC : IntKind.u64.wrap (wrap64 (D i - lo)) = (u : Int) := by rw [hu]; exact u64_wrap64 (by omega)
      have hu1 : u < 2 ^ FW := by rw [hu, Int.toNat_natCast] at u1; exact u1
      have KW := (show Hid _ from write_walk w wr v wb es (pX D lo FW i) (FW * i) v' acc u FW HW hu1 (by omega) (by omega))
      have HPX : Hid (pX D lo FW i * 2 ^ FW + u = pX D lo FW (i + 1)) := by show _ = _; rw [pX, hu, Int.toNat_natCast]
      have HTX : Hid (FW * i + FW = FW * (i + 1)) := by show _ = _; rw [Nat.mul_add, Nat.mul_one]
      clear hu u1 u2 u3 hu1 hTi
      go_wp2_with fail
      refine Calls.mono KW.out ?_
      rintro e w4 ⟨rfl, v4, acc4, hW4⟩
      have HW4 := (show Hid _ from hW4)
      rw [HPX.out, HTX.out] at HW4
      clear hW4 KW
      go_wp2_with fail
      go_roundw
      case rel => exact ⟨i + 1, by omega, by go_num, _, _, HW4.out⟩
      case measure => simp [intOf]; omega
    · obtain rfl : n = i := by omega
      have hin' : ¬ (n : Int) < n := by omega
      have KF := (show Hid _ from flush_walk w wr v wb es (pX D lo FW n) (FW * n) v' acc HW (by omega))
      have HE : Hid (bs ++ FB = es ++ pk (pX D lo FW n) (FW * n)) := by
        show _ = _
        rw [HFB.out, ← HES.out, ← HDS.out]
        simp only [List.append_assoc]
      go_wp2_with fail
      refine Calls.mono KF.out ?_
      rintro e w4 ⟨v4, rfl, hB4⟩
      have HB4 := (show Hid _ from hB4)
      clear hB4 KF
      go_wp2_with fail
      go_ret
      exact ⟨_, rfl, by rw [HE.out]; exact HB4.out⟩
end Go.Proofs.YbulkecgoDoor

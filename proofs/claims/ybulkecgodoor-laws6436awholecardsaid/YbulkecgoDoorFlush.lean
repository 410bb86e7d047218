/-
  The bit writer's flush; a frame of the program's.
-/
import Derived.Test.YbulkecgoDoorBits
import Derived.Deep.RegionLaw
namespace Go.Proofs.YbulkecgoDoor
open Go.RowKit Go.Shelf _root_.Go.Proofs.YbulkecgoDoor.Own
set_option linter.unusedVariables false
set_option maxRecDepth 100000

theorem buf_keep {w w1 : World} {v v1 : Value} {bs : List Nat} {wb : Nat} (h : Bf w w1 v v1 bs) (hne : v.ownBlock ≠ some wb) (hlt : wb < w.heap.size) : (∀ q x, w.cell? ⟨wb, q, none⟩ = some x → w1.cell? ⟨wb, q, none⟩ = some x) ∧ ∀ q, w1.frozen? ⟨wb, q, none⟩ = w.frozen? ⟨wb, q, none⟩ := by
  have hb : w1.heap[wb]? = w.heap[wb]? := h.onl.block wb hlt hne
  refine ⟨fun q x hx => ?_, fun q => World.frozen?_of_block hb⟩
  rw [← hx]
  simp only [World.cell?]
  rw [hb]

theorem one_cell {w : World} {z : Int} {b : Nat} (hz : z = (b : Int)) : ∀ j, j < 1 → (w.alloc (.cells #[.int .u8 z] 5)).cell? ⟨w.heap.size, j, none⟩ = some (.int .u8 (([b].getD j 0 : Nat) : Int)) := by
  intro j hj
  obtain rfl : j = 0 := by omega
  subst hz
  simp
/-- The writer in its flush: k bytes out. -/
structure Fl (w0 w : World) (v0 : Value) (wb : Nat) (bs : List Nat) (X T k : Nat) (v : Value) (acc : Nat) : Prop where
  buf : Bf w0 w v0 v (bs ++ byt X T k)
  c0 : w.cell? ⟨wb, 0, none⟩ = some v
  c1 : w.cell? ⟨wb, 1, none⟩ = some (.int .u64 acc)
  c2 : w.cell? ⟨wb, 2, none⟩ = some (.int .u64 ((T - 8 * k : Nat) : Int))
  free : ∀ q, w.frozen? ⟨wb, q, none⟩ = false
  kT : 8 * k ≤ T
  n64 : T - 8 * k < 64
  acl : acc < 18446744073709551616
  ace : acc % 2 ^ (T - 8 * k) = X % 2 ^ (T - 8 * k)
  ne : v.ownBlock ≠ some wb
  new : w0.heap.size ≤ wb
  lt : wb < w.heap.size
theorem Wr.fl {w0 w : World} {v0 : Value} {wb : Nat} {bs : List Nat} {X T : Nat} {v : Value} {acc : Nat} (h : Wr w0 w v0 wb bs X T v acc) : Fl w0 w v0 wb bs X T (8 * (T / 64)) v acc := by
  have e : T - 8 * (8 * (T / 64)) = T % 64 := by omega
  exact ⟨h.buf, h.c0, h.c1, by rw [e]; exact h.c2, h.free, by omega, by omega, h.acl, by rw [e]; exact h.ace, h.ne, h.new, h.lt⟩

theorem Fl.step {w0 wr w2 w3 : World} {v0 v v1 : Value} {wb : Nat} {bs ds : List Nat} {X T k acc m : Nat} (h : Fl w0 wr v0 wb bs X T k v acc) (dB : Bf w0 w2 v0 v ds) (hds : bs ++ byt X T k = ds) (df : ∀ q, w2.frozen? ⟨wb, q, none⟩ = false) (dl : wb < w2.heap.size)
    (d0 : w2.cell? ⟨wb, 0, none⟩ = some v) (d1 : w2.cell? ⟨wb, 1, none⟩ = some (.int .u64 acc)) (d2 : w2.cell? ⟨wb, 2, none⟩ = some (.int .u64 m)) (hB : Bf w2 w3 v v1 (ds ++ [acc / 2 ^ m % 256]))
    (hq : byt X T (k + 1) = byt X T k ++ [acc / 2 ^ m % 256] ∧ acc % 2 ^ m = X % 2 ^ m) (hm : T - 8 * (k + 1) = m) (hk : 8 * k + 8 ≤ T) : Fl w0 (w3.setCell ⟨wb, 0, none⟩ v1) v0 wb bs X T (k + 1) v1 acc := by
  have dk := buf_keep hB h.ne dl
  have hne : v1.ownBlock ≠ some wb := fun e => by
    rcases hB.blk wb e with e' | e'
    · exact h.ne e'
    · omega
  have hb : Bf w0 w3 v0 v1 (bs ++ byt X T (k + 1)) := by
    rw [hq.1, ← List.append_assoc, hds]
    exact dB.trans hB
  have h64 := h.n64
  refine ⟨hb.setOther hne h.new 0 _, cell_set (dk.1 0 _ d0) 0 _, cell_set (dk.1 1 _ d1) 0 _, by rw [hm]; exact cell_set (dk.1 2 _ d2) 0 _, fun q => ?_, by omega, by omega, h.acl, by rw [hm]; exact hq.2, hne, h.new, ?_⟩
  · simp [(dk.2 q).trans (df q)]
  · have : wb < w3.heap.size := Nat.lt_of_lt_of_le dl hB.onl.size
    simpa [World.setCell] using this

set_option maxHeartbeats 4000000 in
theorem flush_walk (w0 w : World) (v0 : Value) (wb : Nat) (bs : List Nat) (X T : Nat) (v : Value) (acc : Nat) (HW : Hid (Wr w0 w v0 wb bs X T v acc)) (hl : bs.length + T ≤ 900000000) :
    Calls Ybad.prog 55 #[.pointer (some ⟨wb, 0, none⟩)] w fun e w' => ∃ v', e = .returned v' ∧ Bf w0 w' v0 v' (bs ++ pk X T) := by
  go_enter Ybad.func55, Ybad.ntmps55
  go_wp2_with fail
  go_loopw [3] (fun x3 wr => ∃ k v1, Fl w0 wr v0 wb bs X T k v1 acc) (fun _ wr => (intOf ((wr.cell? ⟨wb, 2, none⟩).getD (.int .u64 0))).toNat)
  case atStart => exact ⟨_, v, HW.out.fl⟩
  case round =>
    obtain ⟨k, v1, hF⟩ := hrel
    have HF := (show Hid _ from hF)
    have c0 := hF.c0
    have c1 := hF.c1
    have c2 := hF.c2
    have f0 := hF.free 0
    have f1 := hF.free 1
    have f2 := hF.free 2
    have hkT := hF.kT
    have hn64 := hF.n64
    obtain ⟨n, hn⟩ : ∃ n, T - 8 * k = n := ⟨_, rfl⟩
    rw [hn] at c2 hn64
    have hn' : (n : Int) < 64 := by omega
    obtain ⟨ao, l, cap, rfl⟩ := hF.buf.form2
    have hbl := byt_len X T k
    have hacl := hF.acl
    clear hF
    by_cases h8 : 8 ≤ n
    · have h8' : (8 : Int) ≤ n := by omega
      obtain ⟨m, hm⟩ : ∃ m, n = m + 8 := ⟨n - 8, by omega⟩
      have e1 : (n : Int) - 8 = (m : Int) := by omega
      have hm' : (m : Int) < 64 := by omega
      go_upto_region 3 with fail
      generalize hw2 : wr.setCell ⟨wb, 2, none⟩ (.int .u64 (m : Int)) = w2
      have d0 : w2.cell? ⟨wb, 0, none⟩ = some (.slice ao l cap) := by rw [← hw2]; exact cell_set c0 2 _
      have d1 : w2.cell? ⟨wb, 1, none⟩ = some (.int .u64 acc) := by rw [← hw2]; exact cell_set c1 2 _
      have d2 : w2.cell? ⟨wb, 2, none⟩ = some (.int .u64 m) := by rw [← hw2]; exact cell_set c2 2 _
      have dB : Bf w0 w2 v0 (.slice ao l cap) (bs ++ byt X T k) := by rw [← hw2]; exact HF.out.buf.setOther HF.out.ne HF.out.new 2 _
      have df : ∀ q, w2.frozen? ⟨wb, q, none⟩ = false := fun q => by rw [← hw2]; simp [HF.out.free q]
      have dl : wb < w2.heap.size := by rw [← hw2]; simpa [World.setCell] using HF.out.lt
      have HD := (show Hid _ from And.intro dB (And.intro df dl))
      clear hw2 c0 c1 c2 f0 f1 f2 dB df
      have hq := flush_go (X := X) (T := T) (k := k) (acc := acc) (by omega) (by rw [hn]; have := HF.out.ace; rwa [hn] at this)
      rw [show T - 8 * (k + 1) = m by omega] at hq
      have HQ := (show Hid _ from hq)
      have HM : Hid (T - 8 * (k + 1) = m) := by show _ = _; omega
      have NW : Hid (IntKind.u8.wrap ((acc : Int) / 2 ^ m) = ((acc / 2 ^ m % 256 : Nat) : Int)) := by
        show _ = _
        rw [IntKind.wrap_u8']
        have e0 : (acc : Int) / 2 ^ m = ((acc / 2 ^ m : Nat) : Int) := by simp
        rw [e0]; omega
      obtain ⟨ds, hds⟩ : ∃ ds, bs ++ byt X T k = ds := ⟨_, rfl⟩
      have hdl : ds.length ≤ 1000000000 := by rw [← hds, List.length_append, hbl]; omega
      rw [hds] at HD
      have HDS := (show Hid _ from hds)
      have hk8 : 8 * k + 8 ≤ T := by omega
      clear hq hm hn hds hbl
      go_region_law (refine step_pushL (w := w2) rfl (.tmp 19) (.tmp 30) rfl (.slice ao l cap) ds [acc / 2 ^ m % 256] 1 rfl (by decide) rfl HD.out.1.own (by first | exact ((Below.refl _ w2).alloc (Nat.le_refl _) _).drew | exact ((Below.refl _ w2).drew).alloc (Nat.le_refl _) _) w2.heap.size rfl (one_cell NW.out) (by omega) ?_; intro g1 cap1 w3 HB1; have dk := buf_keep HB1.out HF.out.ne HD.out.2.2; have e0 := dk.1 0 _ d0; have g0 := (dk.2 0).trans (HD.out.2.1 0); clear dk)
      all_goals go_wp2_with fail
      all_goals
        have hS := Fl.step HF.out HD.out.1 HDS.out HD.out.2.1 HD.out.2.2 d0 d1 d2 HB1.out HQ.out HM.out hk8
        refine ⟨⟨k + 1, _, hS⟩, ?_⟩
        rw [hS.c2, HF.out.c2, HM.out]
        have hMM := HM.out
        simp [intOf]
        omega
    · have h8' : ¬ (8 : Int) ≤ n := by omega
      have hk : k = T / 8 := by omega
      have hn8 : n = T % 8 := by omega
      have HA : Hid (acc % 2 ^ (T % 8) = X % 2 ^ (T % 8)) := by show _ = _; have := HF.out.ace; rwa [hn, hn8] at this
      obtain ⟨ds, hds⟩ : ∃ ds, bs ++ byt X T k = ds := ⟨_, rfl⟩
      have hdl : ds.length ≤ 1000000000 := by rw [← hds, List.length_append, hbl]; omega
      have HB0 := (show Hid _ from HF.out.buf)
      rw [hds] at HB0
      have HDS : Hid (bs ++ byt X T (T / 8) = ds) := by show _ = _; rw [← hk]; exact hds
      by_cases h0 : n = 0
      · have hn0 : ((n : Int) == 0) = true := by simp [h0]
        have hz : ¬ (0 : Int) < n := by omega
        have HPK : Hid (bs ++ pk X T = ds) := by show _ = _; rw [← HDS.out]; unfold pk; rw [if_pos (by omega), List.append_nil]
        clear hk hn hn8 hds hbl h0
        go_wp2_with fail
        go_ret
        exact ⟨_, rfl, by rw [HPK.out]; exact HB0.out⟩
      · have hz : (0 : Int) < n := by omega
        have HPK : Hid (bs ++ pk X T = ds ++ [acc * 2 ^ (8 - n) % 256]) := by
          show _ = _
          rw [← HDS.out]; unfold pk; rw [if_neg (by omega), List.append_assoc, hn8, flush_end (by omega) HA.out]
        obtain ⟨m, hm⟩ : ∃ m, 8 - n = m := ⟨_, rfl⟩
        rw [hm] at HPK
        have e1 : (8 : Int) - (n : Int) = (m : Int) := by omega
        have hm' : (m : Int) < 64 := by omega
        have NW : Hid (IntKind.u8.wrap (IntKind.u64.wrap ((acc : Int) * 2 ^ min (IntKind.u64.wrap (m : Int)).toNat 64)) = ((acc * 2 ^ m % 256 : Nat) : Int)) := by
          show _ = _
          have em : min (IntKind.u64.wrap (m : Int)).toNat 64 = m := by rw [IntKind.wrap_u64]; omega
          rw [em, IntKind.wrap_u8', IntKind.wrap_u64]
          have e0 : (acc : Int) * 2 ^ m = ((acc * 2 ^ m : Nat) : Int) := by simp
          rw [e0]; omega
        have dl := HF.out.lt
        clear hk hn hn8 hds hbl h0 hm
        go_upto_region 5 with fail
        go_region_law (refine step_pushL (w := wr) rfl (.tmp 43) (.tmp 55) rfl (.slice ao l cap) ds [acc * 2 ^ m % 256] 1 rfl (by decide) rfl HB0.out.own (by first | exact ((Below.refl _ wr).alloc (Nat.le_refl _) _).drew | exact ((Below.refl _ wr).drew).alloc (Nat.le_refl _) _) wr.heap.size rfl (one_cell NW.out) (by omega) ?_; intro g1 cap1 w3 HB1; have dk := buf_keep HB1.out HF.out.ne HF.out.lt; have e0 := dk.1 0 _ c0; have g0 := (dk.2 0).trans f0; have e2 := dk.1 2 _ c2; have g2 := (dk.2 2).trans f2; clear dk)
        all_goals go_wp2_with fail
        all_goals go_ret
        all_goals refine ⟨_, rfl, ?_⟩
        all_goals
          rw [HPK.out]
          have hne : ∀ v', Bf wr w3 (.slice ao l cap) v' (ds ++ [acc * 2 ^ m % 256]) → v'.ownBlock ≠ some wb := fun v' hb e => by
            rcases hb.blk wb e with e' | e'
            · exact HF.out.ne e'
            · have := HF.out.lt; omega
          exact ((HB0.out.trans HB1.out).setOther (hne _ HB1.out) HF.out.new _ _).setOther (hne _ HB1.out) HF.out.new _ _
end Go.Proofs.YbulkecgoDoor

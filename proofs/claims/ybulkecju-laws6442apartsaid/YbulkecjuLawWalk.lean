/-
  The law's own walk.
-/
import Derived.Test.YbulkecjuLaid
import Derived.Deep.RegionHeld3
import Derived.Deep.CutRange
namespace Go.Proofs.Ybulkecju
open Go.RowKit Go.MuLone Own
set_option linter.unusedVariables false
attribute [local go_sem] eq26 neq26 eq22

theorem bel_step {B : Nat} {a b c : World} (h : Below B a b) (hB : B ≤ b.heap.size) (hb : Below b.heap.size b c) : Below B a c := h.trans (hb.mono hB)

theorem wrap_two (a b : Int) : wrap64 (wrap64 (a - b) + 2) = wrap64 (a - (b - 2)) := by unfold wrap64; omega
theorem Byt.lock {w1 W : World} {ob : Nat} {ov pv ow pr mv xv : Value} {wt : Int} {rel cl : Bool} {rd td : Int} {tl tm : Bool} {st tk : Int} {ak wa : Bool} {v : Value} {s : List Int} (hb : Byt W v s) (h : Aft w1 W ob ov pv ow pr mv xv wt rel cl rd td tl tm st tk ak wa) : Byt ((W.setCell ⟨ob, 0, none⟩ (.int .i32 1)).setCell ⟨ob, 0, none⟩ (.int .i32 0)) v s :=
  (hb.store (.int .i32 1) h.c0 (n8i _ _ (by decide))).store _ (World.cell?_setCell_same W ⟨ob, 0, none⟩ (.int .i32 1) h.c0) (n8i _ _ (by decide))
theorem Laid.l1eq {w1 W : World} {ob : Nat} {z1 z2 : Option Addr} {l1 l2 : Nat} {ys1 ys2 : List Value} {sO sP : Value} {hO hP : List Value} {ssO ssP : List (List Int)} {wt : Int} {rel cl : Bool} {rd td : Int} {tl tm : Bool} {st tk : Int} {ak wa : Bool} (L : Laid w1 W ob z1 z2 l1 l2 ys1 ys2 sO sP hO hP ssO ssP wt rel cl rd td tl tm st tk ak wa) : l1 = hO.length := by
  have hl := L.co.len
  rcases L.co.hdr with ⟨h, h'⟩ | ⟨g, _, h, _⟩
  · cases h; rw [h'] at hl; exact hl
  · cases h; exact hl

set_option maxHeartbeats 16000000 in
set_option maxRecDepth 100000 in
theorem law_walk (w : World) (sO sP : Value) (hO hP : List Value) (ssO ssP : List (List Int)) (wt : Int) (rel cl : Bool) (rd td : Int) (tl tm : Bool) (st tk : Int) (ak wa : Bool)
    (HG : Hid (Given w sO sP hO hP ssO ssP)) (a1 a2 : Option Addr) (n m c1 c2 : Nat) (hsO : sO = .slice a1 n c1) (hsP : sP = .slice a2 m c2) (HN : Hid (n = hO.length)) (HM : Hid (m = hP.length)) (hnm : n + m ≤ 1048576) (hrd : 0 ≤ rd ∧ rd < 18446744073709551616)
    (b1 o1 b2 o2 : Nat) (HA1 : Hid (0 < n → a1 = some ⟨b1, o1, none⟩)) (HA2 : Hid (0 < m → a2 = some ⟨b2, o2, none⟩)) :
    Calls Yba.prog 3 #[.agg #[sO, sP, .int .i64 wt, .bool rel, .bool cl, .int .u64 rd, .int .u64 td, .bool tl, .bool tm, .int .u64 st, .int .u64 tk, .bool ak, .bool wa]] w
      fun e w' => e = .returned (.bool true) ∧ Below w.heap.size w w' := by
  subst hsO hsP
  have q1 : ¬ (1048576 : Int) < (n : Int) + (m : Int) := by omega
  go_enter Yba.func3, Yba.ntmps3
  go_wp2_with fail
  have hb1 : Below w.heap.size w (w.alloc (Obj.cells #[Value.slice a1 n c1, Value.slice a2 m c2, Value.int IntKind.i64 wt, Value.bool rel, Value.bool cl, Value.int IntKind.u64 rd, Value.int IntKind.u64 td, Value.bool tl, Value.bool tm, Value.int IntKind.u64 st, Value.int IntKind.u64 tk, Value.bool ak, Value.bool wa] 25)) := (Below.refl _ w).alloc (Nat.le_refl _) _
  have hrow := heap_alloc_new w (Obj.cells #[Value.slice a1 n c1, Value.slice a2 m c2, Value.int IntKind.i64 wt, Value.bool rel, Value.bool cl, Value.int IntKind.u64 rd, Value.int IntKind.u64 td, Value.bool tl, Value.bool tm, Value.int IntKind.u64 st, Value.int IntKind.u64 tk, Value.bool ak, Value.bool wa] 25)
  have HG1 := (show Hid _ from HG.out.below hb1)
  generalize (w.alloc (Obj.cells #[Value.slice a1 n c1, Value.slice a2 m c2, Value.int IntKind.i64 wt, Value.bool rel, Value.bool cl, Value.int IntKind.u64 rd, Value.int IntKind.u64 td, Value.bool tl, Value.bool tm, Value.int IntKind.u64 st, Value.int IntKind.u64 tk, Value.bool ak, Value.bool wa] 25)) = w1 at *
  have HB1 := (show Hid _ from hb1)
  have HLT := (show Hid _ from lt_of_block hrow)
  have er := fun k => cell_of_row w1 w.heap.size k _ _ _ hrow
  have r0 := er 0
  have r1 := er 1
  have HER := (show Hid _ from er)
  clear er hrow hb1 HG
  have HB0 : Hid (w.heap.size = w.heap.size) := rfl
  generalize hb0 : w.heap.size = b0 at HB1 HLT HER r0 r1 HB0 ⊢
  replace HB0 := (show Hid _ from hb0)
  clear hb0
  go_loopw [3, 4, 25] (fun x3 x4 x25 wr => ∃ (k : Nat) (t : Int), k ≤ n ∧ x3 = .int .i64 t ∧ x25 = .int .i64 k ∧ wr = w1) (fun _ _ i _ => n - (intOf i).toNat)
  case atStart => exact ⟨0, 0, by omega, rfl, rfl, rfl⟩
  case round =>
    obtain ⟨k, t, hk, rfl, rfl, hwr⟩ := hrel
    obtain rfl : w1 = wr := hwr.symm
    by_cases hkl : k < n
    · obtain rfl := HA1.out (by omega)
      obtain ⟨ao, l, c, hf⟩ : ∃ ao l c, hO.getD k (.slice none 0 0) = .slice ao l c := by
        obtain ⟨ao, c, h, _⟩ := (HG1.out.e1 k (by rw [← HN.out]; exact hkl)).1.form
        exact ⟨_, _, _, h⟩
      have hc : w1.cell? ⟨b1, o1 + k, none⟩ = some (.slice ao l c) := by
        rw [← hf, ← Go.WideShapes.add_plain]
        obtain ⟨_, _, _, hv, hl, _, _, _, hcell⟩ := HG1.out.h1
        cases hv
        exact hcell _ rfl k hkl
      clear hf
      go_wp2_with fail
      go_roundw
      case rel => exact ⟨k + 1, _, by omega, rfl, by go_num, trivial⟩
      case measure => simp [intOf]; omega
    · have hge : ¬ (k : Int) < n := by omega
      go_wp2_with fail
      go_loopw [3, 5, 40] (fun x3 x5 x40 wr => ∃ (j : Nat) (t : Int), j ≤ m ∧ x3 = .int .i64 t ∧ x40 = .int .i64 j ∧ wr = w1) (fun _ _ i _ => m - (intOf i).toNat)
      case atStart => exact ⟨0, _, by omega, rfl, rfl, rfl⟩
      case round =>
        obtain ⟨j, t2, hj, rfl, rfl, hwq⟩ := hrel
        obtain rfl : w1 = wr := hwq.symm
        by_cases hjl : j < m
        · obtain rfl := HA2.out (by omega)
          obtain ⟨ao, l, c, hf⟩ : ∃ ao l c, hP.getD j (.slice none 0 0) = .slice ao l c := by
            obtain ⟨ao, c, h, _⟩ := (HG1.out.e2 j (by rw [← HM.out]; exact hjl)).1.form
            exact ⟨_, _, _, h⟩
          have hc : w1.cell? ⟨b2, o2 + j, none⟩ = some (.slice ao l c) := by
            rw [← hf, ← Go.WideShapes.add_plain]
            obtain ⟨_, _, _, hv, hl, _, _, _, hcell⟩ := HG1.out.h2
            cases hv
            exact hcell _ rfl j hjl
          clear hf
          have hjl' : (j : Int) < m := by omega
          go_wp2_with fail
          go_roundw
          case rel => exact ⟨j + 1, _, by omega, rfl, by go_num, trivial⟩
          case measure => simp [intOf]; omega
        · have hge2 : ¬ (j : Int) < m := by omega
          by_cases ht : (1048576 : Int) < t2
          · go_wp2_with fail
            go_ret
            exact ⟨rfl, HB0.out ▸ HB1.out⟩
          · have r3 := HER.out 3
            have r4 := HER.out 4
            have r7 := HER.out 7
            by_cases hrdy : cl = true ∨ 0 < n ∨ (rel = true ∧ (tl = true ∨ 0 < m))
            · go_upto_region 16 with fail
              go_cut [6] from 14 to 75 (fun x6 wx => x6 = .bool true ∧ wx = w1)
              case first =>
                rcases hrdy with rfl | hn0 | ⟨rfl, rfl | hm0⟩
                · go_wp2_with fail
                  go_meet
                  case rel => exact ⟨rfl, rfl⟩
                · have hn1 : (0 : Int) < n := by omega
                  rcases cl <;> (go_wp2_with fail) <;> (go_meet; case rel => exact ⟨rfl, rfl⟩)
                · rcases Nat.eq_zero_or_pos n with rfl | hn1 <;> rcases cl <;> (go_wp2_with fail) <;> (go_meet; case rel => exact ⟨rfl, rfl⟩)
                · have hm1 : (0 : Int) < m := by omega
                  rcases Nat.eq_zero_or_pos n with rfl | hn1 <;> rcases cl <;> rcases tl <;> (go_wp2_with fail) <;> (go_meet; case rel => exact ⟨rfl, rfl⟩)
              case rest =>
                obtain ⟨rfl, hwc⟩ := hcut
                obtain rfl : w1 = wc := hwc.symm
                clear hwr hwq r3 r4 r7
                go_upto_region 19 with fail
                have KEEP : Hid (∀ w' : World, Below w1.heap.size w1 w' → w'.cell? ⟨b0, 0, none⟩ = some (Value.slice a1 n c1) ∧ w'.cell? ⟨b0, 1, none⟩ = some (Value.slice a2 m c2) ∧ w'.cell? ⟨b0, 2, none⟩ = some (.int .i64 wt) ∧ w'.cell? ⟨b0, 3, none⟩ = some (.bool rel) ∧ w'.cell? ⟨b0, 4, none⟩ = some (.bool cl) ∧ w'.cell? ⟨b0, 5, none⟩ = some (.int .u64 rd) ∧ w'.cell? ⟨b0, 6, none⟩ = some (.int .u64 td) ∧ w'.cell? ⟨b0, 7, none⟩ = some (.bool tl) ∧ w'.cell? ⟨b0, 8, none⟩ = some (.bool tm) ∧ w'.cell? ⟨b0, 9, none⟩ = some (.int .u64 st) ∧ w'.cell? ⟨b0, 10, none⟩ = some (.int .u64 tk) ∧ w'.cell? ⟨b0, 11, none⟩ = some (.bool ak) ∧ w'.cell? ⟨b0, 12, none⟩ = some (.bool wa)) := by
                  intro w' hb
                  have e := fun k => (hb.cell (p := ⟨b0, k, none⟩) HLT.out).trans (HER.out k)
                  exact ⟨e 0, e 1, e 2, e 3, e 4, e 5, e 6, e 7, e 8, e 9, e 10, e 11, e 12⟩
                have CO : Hid (∀ w' : World, Below w1.heap.size w1 w' → Calls Yba.prog 5 #[Value.slice a1 n c1] w' fun e w'' => ∃ y ys, e = .returned y ∧ Cpy w'.heap.size w'' y ys hO ssO ∧ Below w'.heap.size w' w'') := fun w' hb => copy_any _ hO ssO w' (HG1.out.below hb).h1 (by rw [← HN.out]; omega) (HG1.out.below hb).e1
                have CP : Hid (∀ w' : World, Below w1.heap.size w1 w' → Calls Yba.prog 5 #[Value.slice a2 m c2] w' fun e w'' => ∃ y ys, e = .returned y ∧ Cpy w'.heap.size w'' y ys hP ssP ∧ Below w'.heap.size w' w'') := fun w' hb => copy_any _ hP ssP w' (HG1.out.below hb).h2 (by rw [← HM.out]; omega) (HG1.out.below hb).e2
                clear r0 r1
                go_region_held3 (fun w' => Below w1.heap.size w1 w' ∧ w'.cell? ⟨b0, 0, none⟩ = some (Value.slice a1 n c1) ∧ w'.cell? ⟨b0, 1, none⟩ = some (Value.slice a2 m c2) ∧ w'.cell? ⟨b0, 2, none⟩ = some (.int .i64 wt) ∧ w'.cell? ⟨b0, 3, none⟩ = some (.bool rel) ∧ w'.cell? ⟨b0, 4, none⟩ = some (.bool cl) ∧ w'.cell? ⟨b0, 5, none⟩ = some (.int .u64 rd) ∧ w'.cell? ⟨b0, 6, none⟩ = some (.int .u64 td) ∧ w'.cell? ⟨b0, 7, none⟩ = some (.bool tl) ∧ w'.cell? ⟨b0, 8, none⟩ = some (.bool tm) ∧ w'.cell? ⟨b0, 9, none⟩ = some (.int .u64 st) ∧ w'.cell? ⟨b0, 10, none⟩ = some (.int .u64 tk) ∧ w'.cell? ⟨b0, 11, none⟩ = some (.bool ak) ∧ w'.cell? ⟨b0, 12, none⟩ = some (.bool wa))
                  (first | exact (fun h => ⟨h, KEEP.out _ h⟩) (Below.refl _ w1).drew | exact ⟨HF2.out.2, KEEP.out _ HF2.out.2⟩ | exact ⟨HF1.out.2, KEEP.out _ HF1.out.2⟩ | exact (fun h => ⟨h, KEEP.out _ h⟩) (HF2.out.2.alloc HF2.out.2.size _))
                  (first | (go_at_call_of 5 (Value.slice a1 n c1); refine (CO.out _ (‹Below _ w1 _ ∧ _›).1).mono ?_; rintro e w2 ⟨y1, ys1, rfl, hC, hB⟩; obtain ⟨z1, l1, rfl⟩ := hC.form; have HF1 := (show Hid ((Cpy w1.heap.size w2 (.slice z1 l1 l1) ys1 hO ssO ∧ True) ∧ Below w1.heap.size w1 w2) from ⟨⟨hC, trivial⟩, ((Below.refl _ w1).drew).trans (hB.mono (Nat.le_refl _))⟩); clear hC hB)
                                  | (go_at_call_of 5 (Value.slice a2 m c2); refine (CP.out _ (‹Below _ w1 _ ∧ _›).1).mono ?_; rintro e w3 ⟨y2, ys2, rfl, hC, hB⟩; obtain ⟨z2, l2, rfl⟩ := hC.form; have HF2 := (show Hid ((Cpy w2.heap.size w3 (.slice z2 l2 l2) ys2 hP ssP ∧ Below w2.heap.size w2 w3) ∧ Below w1.heap.size w1 w3) from ⟨⟨hC, hB⟩, HF1.out.2.trans (hB.mono HF1.out.2.size)⟩); clear hC hB))
                go_upto_region 20 with fail
                rename (Below w1.heap.size w1 _ ∧ _) => hHX
                clear hHX
                go_wp2_with fail
                have hL := laid_of wt rel cl rd td tl tm st tk ak wa HG1.out (by rw [← HN.out]; omega) (by rw [← HM.out]; omega) HF1.out.1.1 HF1.out.2 HF2.out.1.1 HF2.out.1.2 (Value.iface 49 (Value.pointer (some { block := w3.heap.size, off := 0 })))
                generalize (w3.alloc (Obj.cells #[Value.int IntKind.i32 0, Value.int IntKind.u32 0, Value.iface 49 (Value.pointer (some { block := w3.heap.size, off := 0 })), Value.int IntKind.u32 0, Value.int IntKind.u32 0, Value.int IntKind.u64 0, Value.pointer none, Value.pointer none, Value.int IntKind.u64 0, Value.slice z1 l1 l1, Value.slice z2 l2 l2, Value.int IntKind.i64 wt, Value.bool rel, Value.bool cl, Value.int IntKind.u64 rd, Value.int IntKind.u64 td, Value.bool tl, Value.bool tm, Value.int IntKind.u64 st, Value.int IntKind.u64 tk, Value.int IntKind.u64 0, Value.int IntKind.i64 0, Value.pointer none, Value.bool ak, Value.bool wa] 48)) = w5 at *
                have HL := (show Hid _ from hL)
                clear hL HF1 HF2 CO CP HER hwc hge hge2 ht hk hkl hj hjl
                generalize w3.heap.size = ob at *
                have BW : Hid (∀ W : World, Below w1.heap.size w1 W → Below w.heap.size w W) := fun W hW => by rw [HB0.out]; exact HB1.out.trans (hW.mono (Nat.le_of_lt HLT.out))
                have TRY : Hid (∀ W : World, W.cell? ⟨ob, 0, none⟩ = some (.int .i32 0) → W.frozen? ⟨ob, 0, none⟩ = false → Calls Yba.prog 7 #[.pointer (some ⟨ob, 0, none⟩)] W fun e w' => e = .returned (.bool true) ∧ w' = W.setCell ⟨ob, 0, none⟩ (.int .i32 1)) := fun W h1 h2 => trylock_free ⟨ob, 0, none⟩ W h1 h2
                have UNL : Hid (∀ W : World, W.cell? ⟨ob, 0, none⟩ = some (.int .i32 0) → W.frozen? ⟨ob, 0, none⟩ = false → Calls Yba.prog 8 #[.pointer (some ⟨ob, 0, none⟩)] (W.setCell ⟨ob, 0, none⟩ (.int .i32 1)) fun e w' => e = .returned (.tuple #[]) ∧ w' = (W.setCell ⟨ob, 0, none⟩ (.int .i32 1)).setCell ⟨ob, 0, none⟩ (.int .i32 0)) := fun W h1 h2 => unlock_held Yba.muLib ⟨ob, 0, none⟩ _ (World.cell?_setCell_same W _ _ h1) (by simp [h2])
                rcases hcl : cl with _ | _
                · subst hcl
                  obtain ⟨hnc, hcm, hs1⟩ : n ≤ c1 ∧ c1 ≤ maxLen ∧ ∀ i, i < n → ∀ a, a1 = some a → w1.cell? (a.add i) = some (hO.getD i (.slice none 0 0)) := by
                    obtain ⟨_, _, _, hv, hl, h1, h2, _, hcell⟩ := HG1.out.h1
                    cases hv
                    exact ⟨h1, h2, fun i hi a ha => hcell a ha i hi⟩
                  have HS1 := (show Hid _ from hs1)
                  clear hs1
                  unfold maxLen at hcm
                  by_cases hn0 : 0 < n
                  · obtain rfl := HA1.out hn0
                    obtain ⟨h0, hs, rfl⟩ : ∃ h0 hs, hO = h0 :: hs := by
                      have := HN.out
                      cases hO with
                      | nil => simp at this; omega
                      | cons h0 hs => exact ⟨h0, hs, rfl⟩
                    obtain ⟨sa, hsa⟩ : ∃ sa, sa = (if c1 = 1 then some (⟨b1, o1, none⟩ : Addr) else some ⟨b1, o1 + 1, none⟩) := ⟨_, rfl⟩
                    have hso : Hdr w1 (.slice sa (n - 1) (c1 - 1)) hs := by
                      have hnl : n = hs.length + 1 := by simpa using HN.out
                      refine ⟨_, _, _, rfl, by omega, by omega, by unfold maxLen; omega, fun e => ?_, fun a ha i hi => ?_⟩
                      · rw [e] at hsa
                        split at hsa <;> cases hsa
                      · rw [hsa, if_neg (by omega)] at ha
                        cases ha
                        have := HS1.out (i + 1) (by omega) _ rfl
                        rw [Go.WideShapes.add_plain] at this ⊢
                        rw [show o1 + 1 + i = o1 + (i + 1) by omega, this]
                        simp
                    obtain ⟨g, x, xs, hys, hgo, rfl, rfl, hxs, ⟨xa, xl, xc, hx⟩, cg, fg, hA⟩ := HL.out.own rfl hso
                    have hf0 : w1.cell? ⟨b1, o1, none⟩ = some h0 := by
                      have := HS1.out 0 hn0 _ rfl
                      rw [Go.WideShapes.add_plain] at this
                      simpa using this
                    obtain ⟨ha0, hl0, hc0, hh0⟩ : ∃ a l c, h0 = .slice a l c := by
                      obtain ⟨a, c, h, _⟩ := (HG1.out.e1 0 (by simp)).1.form
                      exact ⟨_, _, _, h⟩
                    subst hh0 hx
                    have HA := (show Hid _ from hA)
                    have HF0 := (show Hid _ from hf0)
                    clear hA hf0
                    refine Calls.mono (take_own w5 ob g (xs.length + 1) _ xa xl xc rfl (by omega) (by rw [hxs]; have := HL.out.nO; simp at this; omega) (fun e => hgo e.symm) HL.out.c0 HL.out.fz fg HL.out.box.c13 HL.out.box.c9 cg HL.out.c3 HL.out.c4 HL.out.c8) ?_
                    clear cg fg
                    rintro e w' ⟨rfl, rfl⟩
                    generalize (Value.slice (if xs.length + 1 = 1 then some { block := g, off := 0 } else some { block := g, off := 1 }) (xs.length + 1 - 1) (xs.length + 1 - 1)) = tv at *
                    generalize ownWorld w5 ob g (xs.length + 1) = w6 at *
                    go_wp2_with fail
                    refine Calls.mono (TRY.out w6 HA.out.c0 HA.out.f0) ?_
                    rintro e w' ⟨rfl, rfl⟩
                    go_wp2_with fail
                    refine Calls.mono (UNL.out w6 HA.out.c0 HA.out.f0) ?_
                    rintro e w' ⟨rfl, rfl⟩
                    replace HA := (show Hid _ from HA.out.lock)
                    generalize ((w6.setCell ⟨ob, 0, none⟩ (.int .i32 1)).setCell ⟨ob, 0, none⟩ (.int .i32 0)) = w8 at *
                    have hb0l : b0 < w8.heap.size := Nat.lt_of_lt_of_le HLT.out HA.out.bel.size
                    have hb1l : b1 < w8.heap.size := Nat.lt_of_lt_of_le (World.block_lt_of_cell? w1 _ HF0.out) HA.out.bel.size
                    obtain ⟨k0, k1, k2, k3, k4, k5, k6, k7, k8, k9, k10, k11, k12⟩ := KEEP.out w8 HA.out.bel
                    have hn1 : (0 : Int) < n := by omega
                    have hn2 : (1 : Int) ≤ n := by omega
                    go_upto_region 31 with fail
                    have r0 : ∀ y : Later w8, y.W.cell? ⟨b0, 0, none⟩ = some (Value.slice (some ⟨b1, o1, none⟩) n c1) := fun y => (y.bel.cell (p := ⟨b0, 0, none⟩) hb0l).trans k0
                    have r1 : ∀ y : Later w8, y.W.cell? ⟨b0, 1, none⟩ = some (Value.slice a2 m c2) := fun y => (y.bel.cell (p := ⟨b0, 1, none⟩) hb0l).trans k1
                    have r2 : ∀ y : Later w8, y.W.cell? ⟨b0, 2, none⟩ = some (.int .i64 wt) := fun y => (y.bel.cell (p := ⟨b0, 2, none⟩) hb0l).trans k2
                    have r3 : ∀ y : Later w8, y.W.cell? ⟨b0, 3, none⟩ = some (.bool rel) := fun y => (y.bel.cell (p := ⟨b0, 3, none⟩) hb0l).trans k3
                    have r4 : ∀ y : Later w8, y.W.cell? ⟨b0, 4, none⟩ = some (.bool false) := fun y => (y.bel.cell (p := ⟨b0, 4, none⟩) hb0l).trans k4
                    have r5 : ∀ y : Later w8, y.W.cell? ⟨b0, 5, none⟩ = some (.int .u64 rd) := fun y => (y.bel.cell (p := ⟨b0, 5, none⟩) hb0l).trans k5
                    have r6 : ∀ y : Later w8, y.W.cell? ⟨b0, 6, none⟩ = some (.int .u64 td) := fun y => (y.bel.cell (p := ⟨b0, 6, none⟩) hb0l).trans k6
                    have r7 : ∀ y : Later w8, y.W.cell? ⟨b0, 7, none⟩ = some (.bool tl) := fun y => (y.bel.cell (p := ⟨b0, 7, none⟩) hb0l).trans k7
                    have r8 : ∀ y : Later w8, y.W.cell? ⟨b0, 8, none⟩ = some (.bool tm) := fun y => (y.bel.cell (p := ⟨b0, 8, none⟩) hb0l).trans k8
                    have r9 : ∀ y : Later w8, y.W.cell? ⟨b0, 9, none⟩ = some (.int .u64 st) := fun y => (y.bel.cell (p := ⟨b0, 9, none⟩) hb0l).trans k9
                    have r10 : ∀ y : Later w8, y.W.cell? ⟨b0, 10, none⟩ = some (.int .u64 tk) := fun y => (y.bel.cell (p := ⟨b0, 10, none⟩) hb0l).trans k10
                    have r11 : ∀ y : Later w8, y.W.cell? ⟨b0, 11, none⟩ = some (.bool ak) := fun y => (y.bel.cell (p := ⟨b0, 11, none⟩) hb0l).trans k11
                    have r12 : ∀ y : Later w8, y.W.cell? ⟨b0, 12, none⟩ = some (.bool wa) := fun y => (y.bel.cell (p := ⟨b0, 12, none⟩) hb0l).trans k12
                    have rf : ∀ y : Later w8, y.W.cell? ⟨b1, o1, none⟩ = some (Value.slice ha0 hl0 hc0) := fun y => (y.bel.cell (p := ⟨b1, o1, none⟩) hb1l).trans ((HA.out.bel.cell (p := ⟨b1, o1, none⟩) (World.block_lt_of_cell? w1 _ HF0.out)).trans HF0.out)
                    have K1 : Hid (∀ y : Later w8, Calls Yba.prog 10 #[Value.slice xa xl xc, Value.slice ha0 hl0 hc0] y.W fun e w' => e = .returned (.bool true) ∧ ∃ z : Later w8, w' = z.W) := fun y => Calls.later ((same_alike _ _ y.W (HA.out.q.below y.bel)).mono fun e w' ⟨he, hw⟩ => ⟨he, hw ▸ Below.refl _ _⟩)
                    have K2 : Hid (∀ y : Later w8, Calls Yba.prog 9 #[.pointer (some ⟨ob, 0, none⟩), .agg #[Value.slice (some ⟨b1, o1, none⟩) n c1, Value.slice a2 m c2, .int .i64 wt, .bool rel, .bool false, .int .u64 rd, .int .u64 td, .bool tl, .bool tm, .int .u64 st, .int .u64 tk, .bool ak, .bool wa], .slice sa (n - 1) (c1 - 1), Value.slice a2 m c2, .int .i64 wt, .bool tl, .int .u64 td] y.W fun e w' => e = .returned (.bool true) ∧ ∃ z : Later w8, w' = z.W) := fun y =>
                      Calls.later (rest_true y.W ob _ _ _ _ _ _ wt wt rel false rd td td tl tl tm st tk ak wa (HA.out.box.below y.bel) (HA.out.p1.below y.bel).ok (HA.out.p2.below y.bel).ok)
                    have HZ : Hid (∀ y : Later w8, Below w.heap.size w y.W) := fun y => BW.out _ (HA.out.bel.trans (y.bel.mono HA.out.bel.size))
                    have hne : Nonempty (Later w8) := ⟨⟨w8, Below.refl _ _⟩⟩
                    clear k0 k1 k2 k3 k4 k5 k6 k7 k8 k9 k10 k11 k12 HA hso HL KEEP HG1 TRY UNL HF0 HS1
                    by_cases hc1 : c1 = 1
                    · obtain rfl : n = 1 := by omega
                      subst hc1
                      rw [if_pos rfl] at hsa
                      subst hsa
                      simp only [Nat.sub_self] at K2
                      refine wp_region_later (by kernel_rfl) (lexB_of (by kernel_rfl) (by kernel_rfl)) ?_
                      repeat (go_big_quiet_step (first | (go_at_call 10; exact K1.out _) | (go_at_call 9; exact K2.out _)))
                      refine wpQuiet_nil ?_
                      rintro _ ⟨y, rfl⟩
                      go_wp2_with fail
                      go_ret
                      exact ⟨rfl, HZ.out y⟩
                    · rw [if_neg hc1] at hsa
                      subst hsa
                      have hc2 : ¬ ((c1 : Int) - 1 = 0) := by omega
                      refine wp_region_later (by kernel_rfl) (lexB_of (by kernel_rfl) (by kernel_rfl)) ?_
                      repeat (go_big_quiet_step (first | (go_at_call 10; exact K1.out _) | (go_at_call 9; exact K2.out _)))
                      refine wpQuiet_nil ?_
                      rintro _ ⟨y, rfl⟩
                      go_wp2_with fail
                      go_ret
                      exact ⟨rfl, HZ.out y⟩
                  · obtain rfl : n = 0 := by omega
                    obtain ⟨rfl, hrest⟩ : rel = true ∧ (tl = true ∨ (tl = false ∧ 0 < m)) := by
                      rcases hrdy with h | h | ⟨h1, h2⟩
                      · cases h
                      · omega
                      · refine ⟨h1, ?_⟩
                        cases tl
                        · exact .inr ⟨rfl, h2.resolve_left (by simp)⟩
                        · exact .inl rfl
                    clear hrdy
                    obtain rfl : l1 = 0 := by
                      have := HL.out.l1eq
                      rw [this]; exact HN.out.symm
                    rcases hrest with rfl | ⟨rfl, hm0⟩
                    · refine Calls.mono (take_tell w5 ob rd z1 0 HL.out.c0 HL.out.fz hrd td HL.out.box.c13 HL.out.box.c9 HL.out.box.c12 HL.out.box.c16 HL.out.box.c14 HL.out.box.c15) ?_
                      rintro e w' ⟨g1, c3, w6', rfl, hm6, hb6, rfl⟩
                      obtain ⟨hA, hm7⟩ := HL.out.tell hm6 hb6
                      clear hm6 hb6
                      have hm8 := hm7.lock hA
                      have HA := (show Hid _ from hA)
                      have HM8 := (show Hid _ from hm8)
                      clear hm7 hA hm8
                      generalize (w6'.setCell ⟨ob, 0, none⟩ (.int .i32 0)) = w6 at *
                      go_wp2_with fail
                      refine Calls.mono (TRY.out w6 HA.out.c0 HA.out.f0) ?_
                      rintro e w' ⟨rfl, rfl⟩
                      go_wp2_with fail
                      refine Calls.mono (UNL.out w6 HA.out.c0 HA.out.f0) ?_
                      rintro e w' ⟨rfl, rfl⟩
                      replace HA := (show Hid _ from HA.out.lock)
                      generalize ((w6.setCell ⟨ob, 0, none⟩ (.int .i32 1)).setCell ⟨ob, 0, none⟩ (.int .i32 0)) = w8 at *
                      obtain ⟨k0, k1, k2, k3, k4, k5, k6, k7, k8, k9, k10, k11, k12⟩ := KEEP.out w8 HA.out.bel
                      have hb0l : b0 < w8.heap.size := Nat.lt_of_lt_of_le HLT.out HA.out.bel.size
                      have hb0n : ¬ b0 = w8.heap.size := by omega
                      have hr1 := hrd.1
                      have hr2 := hrd.2
                      obtain ⟨j0, hj, hy0, hy1, hy2⟩ := info_parts info5
                      have HJ := (show Hid _ from And.intro hj (And.intro hy0 (And.intro hy1 hy2)))
                      clear hj hy0 hy1 hy2
                      go_wp2_with (at_make; refine wpList_make_v _ rfl _ _ 26 rfl 5 j0 (.int .u8 0) Yba.underlying26 HJ.out.1 HJ.out.2.1 HJ.out.2.2.1 rfl _ _ _ _ 9 9 rfl rfl rfl rfl (Nat.le_refl _) (by rw [HJ.out.2.2.2]; omega) (by omega) ?_)
                      clear HJ
                      refine wp_loop_rounds 9 ?_
                      iterate 9 (rw [rounds_succ]; go_wp2_with fail)
                      have hwant : Byt (w8.alloc (Obj.cells #[Value.int IntKind.u8 5, Value.int IntKind.u8 (rd / 72057594037927936), Value.int IntKind.u8 (rd / 281474976710656 % 256), Value.int IntKind.u8 (rd / 1099511627776 % 256), Value.int IntKind.u8 (rd / 4294967296 % 256), Value.int IntKind.u8 (rd / 16777216 % 256), Value.int IntKind.u8 (rd / 65536 % 256), Value.int IntKind.u8 (rd / 256 % 256), Value.int IntKind.u8 (rd % 256)] 5)) (Value.slice (some { block := w8.heap.size, off := 0 }) 9 9) (takenB rd) := own_byt (OwnV.made w8 5 ((takenB rd).map (Value.int .u8)) (by simp [maxLen, takenB]))
                      have hb9 : Below w8.heap.size w8 (w8.alloc (Obj.cells #[Value.int IntKind.u8 5, Value.int IntKind.u8 (rd / 72057594037927936), Value.int IntKind.u8 (rd / 281474976710656 % 256), Value.int IntKind.u8 (rd / 1099511627776 % 256), Value.int IntKind.u8 (rd / 4294967296 % 256), Value.int IntKind.u8 (rd / 16777216 % 256), Value.int IntKind.u8 (rd / 65536 % 256), Value.int IntKind.u8 (rd / 256 % 256), Value.int IntKind.u8 (rd % 256)] 5)) := (Below.refl _ w8).alloc (Nat.le_refl _) _
                      generalize (w8.alloc (Obj.cells #[Value.int IntKind.u8 5, Value.int IntKind.u8 (rd / 72057594037927936), Value.int IntKind.u8 (rd / 281474976710656 % 256), Value.int IntKind.u8 (rd / 1099511627776 % 256), Value.int IntKind.u8 (rd / 4294967296 % 256), Value.int IntKind.u8 (rd / 16777216 % 256), Value.int IntKind.u8 (rd / 65536 % 256), Value.int IntKind.u8 (rd / 256 % 256), Value.int IntKind.u8 (rd % 256)] 5)) = w9 at *
                      have HB9 := (show Hid _ from hb9)
                      refine Calls.mono (bytesEqual_same _ _ (takenB rd) w9 (Byt.below HM8.out hb9) hwant) ?_
                      rintro e w' ⟨rfl, hw9⟩
                      obtain rfl : w9 = w' := hw9.symm
                      clear hwant hb9 k0 k1 k2 k3 k4 k5 k6 k7 k8 k9 k10 k11 k12
                      obtain ⟨k0, k1, k2, k3, k4, k5, k6, k7, k8, k9, k10, k11, k12⟩ := KEEP.out w9 (HA.out.bel.trans (HB9.out.mono HA.out.bel.size))
                      go_wp2_with fail
                      refine Calls.mono (rest_true w9 ob _ _ _ _ _ _ wt wt true false rd rd td false true tm st tk ak wa (HA.out.box.below HB9.out) (HA.out.p1.below HB9.out).ok (HA.out.p2.below HB9.out).ok) ?_
                      rintro e w' ⟨rfl, hb⟩
                      have HZ := (show Hid _ from BW.out _ ((HA.out.bel.trans (HB9.out.mono HA.out.bel.size)).trans (hb.mono (Nat.le_trans HA.out.bel.size HB9.out.size))))
                      clear hb
                      go_wp2_with fail
                      go_ret
                      exact ⟨rfl, HZ.out⟩
                    · obtain ⟨hmc, hcm2, hs2⟩ : m ≤ c2 ∧ c2 ≤ maxLen ∧ ∀ i, i < m → ∀ a, a2 = some a → w1.cell? (a.add i) = some (hP.getD i (.slice none 0 0)) := by
                        obtain ⟨_, _, _, hv, hl, h1, h2, _, hcell⟩ := HG1.out.h2
                        cases hv
                        exact ⟨h1, h2, fun i hi a ha => hcell a ha i hi⟩
                      have HS2 := (show Hid _ from hs2)
                      clear hs2
                      unfold maxLen at hcm2
                      obtain rfl := HA2.out hm0
                      obtain ⟨h0, hs, rfl⟩ : ∃ h0 hs, hP = h0 :: hs := by
                        have := HM.out
                        cases hP with
                        | nil => simp at this; omega
                        | cons h0 hs => exact ⟨h0, hs, rfl⟩
                      obtain ⟨sa, hsa⟩ : ∃ sa, sa = (if c2 = 1 then some (⟨b2, o2, none⟩ : Addr) else some ⟨b2, o2 + 1, none⟩) := ⟨_, rfl⟩
                      have hso : Hdr w1 (.slice sa (m - 1) (c2 - 1)) hs := by
                        have hnl : m = hs.length + 1 := by simpa using HM.out
                        refine ⟨_, _, _, rfl, by omega, by omega, by unfold maxLen; omega, fun e => ?_, fun a ha i hi => ?_⟩
                        · rw [e] at hsa
                          split at hsa <;> cases hsa
                        · rw [hsa, if_neg (by omega)] at ha
                          cases ha
                          have := HS2.out (i + 1) (by omega) _ rfl
                          rw [Go.WideShapes.add_plain] at this ⊢
                          rw [show o2 + 1 + i = o2 + (i + 1) by omega, this]
                          simp
                      have hl0 : (ssP.getD 0 []).length ≤ 140737488351232 := (HG1.out.e2 0 (by simp)).2
                      obtain ⟨g, x, xs, hys, hgo, rfl, rfl, hxs, ⟨xa, xc, hx⟩, ⟨ha0, hc0, hh0⟩, cg, fg, hA⟩ := HL.out.prog rfl hso
                      have hf0 : w1.cell? ⟨b2, o2, none⟩ = some h0 := by
                        have := HS2.out 0 hm0 _ rfl
                        rw [Go.WideShapes.add_plain] at this
                        simpa using this
                      subst hh0 hx
                      generalize hlg : (ssP.getD 0 []).length = ll at hl0 hA hf0 cg ⊢
                      have HLL := (show Hid _ from hlg)
                      clear hlg
                      have HA := (show Hid _ from hA (wrap64 (wt - ((ll : Int) - 2))))
                      have HF0 := (show Hid _ from hf0)
                      clear hA hf0
                      have htk := take_prog w5 ob g (xs.length + 1) _ xa ll xc wt z1 0 rfl hl0 (by omega) (by rw [hxs]; have := HL.out.nP; simp at this; omega) (fun e => hgo e.symm) HL.out.c0 HL.out.fz fg HL.out.box.c13 HL.out.box.c9 HL.out.box.c12 HL.out.box.c16 HL.out.box.c10 cg HL.out.box.c11
                      refine Calls.mono htk ?_
                      clear htk cg fg
                      rintro e w' ⟨rfl, rfl⟩
                      generalize (Value.slice (if xs.length + 1 = 1 then some { block := g, off := 0 } else some { block := g, off := 1 }) (xs.length + 1 - 1) (xs.length + 1 - 1)) = tv at *
                      generalize hgw : wrap64 (wt - ((ll : Int) - 2)) = wt2 at *
                      have HW2 := (show Hid _ from hgw)
                      clear hgw
                      generalize progWorld w5 ob g (xs.length + 1) wt2 = w6 at *
                      go_wp2_with fail
                      refine Calls.mono (TRY.out w6 HA.out.c0 HA.out.f0) ?_
                      rintro e w' ⟨rfl, rfl⟩
                      go_wp2_with fail
                      refine Calls.mono (UNL.out w6 HA.out.c0 HA.out.f0) ?_
                      rintro e w' ⟨rfl, rfl⟩
                      replace HA := (show Hid _ from HA.out.lock)
                      generalize ((w6.setCell ⟨ob, 0, none⟩ (.int .i32 1)).setCell ⟨ob, 0, none⟩ (.int .i32 0)) = w8 at *
                      have hb0l : b0 < w8.heap.size := Nat.lt_of_lt_of_le HLT.out HA.out.bel.size
                      have hb1l : b2 < w8.heap.size := Nat.lt_of_lt_of_le (World.block_lt_of_cell? w1 _ HF0.out) HA.out.bel.size
                      obtain ⟨k0, k1, k2, k3, k4, k5, k6, k7, k8, k9, k10, k11, k12⟩ := KEEP.out w8 HA.out.bel
                      have kf : w8.cell? ⟨b2, o2, none⟩ = some (Value.slice ha0 ll hc0) := (HA.out.bel.cell (p := ⟨b2, o2, none⟩) (World.block_lt_of_cell? w1 _ HF0.out)).trans HF0.out
                      have hn1 : (0 : Int) < m := by omega
                      have hn2 : (1 : Int) ≤ m := by omega
                      have hll2 : (ll : Int) ≤ 140737488351232 := by omega
                      go_upto_region 27 with fail
                      have r0 : ∀ y : Later w8, y.W.cell? ⟨b0, 0, none⟩ = some (Value.slice a1 0 c1) := fun y => (y.bel.cell (p := ⟨b0, 0, none⟩) hb0l).trans k0
                      have r1 : ∀ y : Later w8, y.W.cell? ⟨b0, 1, none⟩ = some (Value.slice (some ⟨b2, o2, none⟩) m c2) := fun y => (y.bel.cell (p := ⟨b0, 1, none⟩) hb0l).trans k1
                      have r2 : ∀ y : Later w8, y.W.cell? ⟨b0, 2, none⟩ = some (.int .i64 wt) := fun y => (y.bel.cell (p := ⟨b0, 2, none⟩) hb0l).trans k2
                      have r3 : ∀ y : Later w8, y.W.cell? ⟨b0, 3, none⟩ = some (.bool true) := fun y => (y.bel.cell (p := ⟨b0, 3, none⟩) hb0l).trans k3
                      have r4 : ∀ y : Later w8, y.W.cell? ⟨b0, 4, none⟩ = some (.bool false) := fun y => (y.bel.cell (p := ⟨b0, 4, none⟩) hb0l).trans k4
                      have r5 : ∀ y : Later w8, y.W.cell? ⟨b0, 5, none⟩ = some (.int .u64 rd) := fun y => (y.bel.cell (p := ⟨b0, 5, none⟩) hb0l).trans k5
                      have r6 : ∀ y : Later w8, y.W.cell? ⟨b0, 6, none⟩ = some (.int .u64 td) := fun y => (y.bel.cell (p := ⟨b0, 6, none⟩) hb0l).trans k6
                      have r7 : ∀ y : Later w8, y.W.cell? ⟨b0, 7, none⟩ = some (.bool false) := fun y => (y.bel.cell (p := ⟨b0, 7, none⟩) hb0l).trans k7
                      have r8 : ∀ y : Later w8, y.W.cell? ⟨b0, 8, none⟩ = some (.bool tm) := fun y => (y.bel.cell (p := ⟨b0, 8, none⟩) hb0l).trans k8
                      have r9 : ∀ y : Later w8, y.W.cell? ⟨b0, 9, none⟩ = some (.int .u64 st) := fun y => (y.bel.cell (p := ⟨b0, 9, none⟩) hb0l).trans k9
                      have r10 : ∀ y : Later w8, y.W.cell? ⟨b0, 10, none⟩ = some (.int .u64 tk) := fun y => (y.bel.cell (p := ⟨b0, 10, none⟩) hb0l).trans k10
                      have r11 : ∀ y : Later w8, y.W.cell? ⟨b0, 11, none⟩ = some (.bool ak) := fun y => (y.bel.cell (p := ⟨b0, 11, none⟩) hb0l).trans k11
                      have r12 : ∀ y : Later w8, y.W.cell? ⟨b0, 12, none⟩ = some (.bool wa) := fun y => (y.bel.cell (p := ⟨b0, 12, none⟩) hb0l).trans k12
                      have hww := wrap_two wt ll
                      rw [HW2.out] at hww
                      rw [hww]
                      clear hww
                      have K1 : Hid (∀ y : Later w8, Calls Yba.prog 10 #[Value.slice xa ll xc, Value.slice ha0 ll hc0] y.W fun e w' => e = .returned (.bool true) ∧ ∃ z : Later w8, w' = z.W) := fun y => Calls.later ((same_alike _ _ y.W (HA.out.q.below y.bel)).mono fun e w' ⟨he, hw⟩ => ⟨he, hw ▸ Below.refl _ _⟩)
                      have K2 : Hid (∀ y : Later w8, Calls Yba.prog 9 #[.pointer (some ⟨ob, 0, none⟩), .agg #[Value.slice a1 0 c1, Value.slice (some ⟨b2, o2, none⟩) m c2, .int .i64 wt, .bool true, .bool false, .int .u64 rd, .int .u64 td, .bool false, .bool tm, .int .u64 st, .int .u64 tk, .bool ak, .bool wa], Value.slice a1 0 c1, .slice sa (m - 1) (c2 - 1), .int .i64 wt2, .bool false, .int .u64 td] y.W fun e w' => e = .returned (.bool true) ∧ ∃ z : Later w8, w' = z.W) := fun y =>
                        Calls.later (rest_true y.W ob _ _ _ _ _ _ wt2 wt true false rd td td false false tm st tk ak wa (HA.out.box.below y.bel) (HA.out.p1.below y.bel).ok (HA.out.p2.below y.bel).ok)
                      have HZ : Hid (∀ y : Later w8, Below w.heap.size w y.W) := fun y => BW.out _ (HA.out.bel.trans (y.bel.mono HA.out.bel.size))
                      have hne : Nonempty (Later w8) := ⟨⟨w8, Below.refl _ _⟩⟩
                      clear k0 k1 k2 k3 k4 k5 k6 k7 k8 k9 k10 k11 k12 kf HA hso HL KEEP HG1 TRY UNL HF0 HS2 HS1 HW2
                      by_cases hc1 : c2 = 1
                      · obtain rfl : m = 1 := by omega
                        subst hc1
                        rw [if_pos rfl] at hsa
                        subst hsa
                        simp only [Nat.sub_self] at K2
                        refine wp_region_later (by kernel_rfl) (lexB_of (by kernel_rfl) (by kernel_rfl)) ?_
                        repeat (go_big_quiet_step (first | (go_at_call 10; exact K1.out _) | (go_at_call 9; exact K2.out _)))
                        refine wpQuiet_nil ?_
                        rintro _ ⟨y, rfl⟩
                        go_wp2_with fail
                        go_ret
                        exact ⟨rfl, HZ.out y⟩
                      · rw [if_neg hc1] at hsa
                        subst hsa
                        have hc2 : ¬ ((c2 : Int) - 1 = 0) := by omega
                        refine wp_region_later (by kernel_rfl) (lexB_of (by kernel_rfl) (by kernel_rfl)) ?_
                        repeat (go_big_quiet_step (first | (go_at_call 10; exact K1.out _) | (go_at_call 9; exact K2.out _)))
                        refine wpQuiet_nil ?_
                        rintro _ ⟨y, rfl⟩
                        go_wp2_with fail
                        go_ret
                        exact ⟨rfl, HZ.out y⟩
                · subst hcl
                  refine Calls.mono (take_closed w5 ob HL.out.c0 HL.out.fz HL.out.box.c13) ?_
                  rintro e w' ⟨rfl, rfl⟩
                  have HA := (show Hid _ from HL.out.aft.lock)
                  generalize ((w5.setCell ⟨ob, 0, none⟩ (.int .i32 1)).setCell ⟨ob, 0, none⟩ (.int .i32 0)) = w6 at *
                  go_wp2_with fail
                  refine Calls.mono (TRY.out w6 HA.out.c0 HA.out.f0) ?_
                  rintro e w' ⟨rfl, rfl⟩
                  go_wp2_with fail
                  refine Calls.mono (UNL.out w6 HA.out.c0 HA.out.f0) ?_
                  rintro e w' ⟨rfl, rfl⟩
                  replace HA := (show Hid _ from HA.out.lock)
                  generalize ((w6.setCell ⟨ob, 0, none⟩ (.int .i32 1)).setCell ⟨ob, 0, none⟩ (.int .i32 0)) = w8 at *
                  obtain ⟨k0, k1, k2, k3, k4, k5, k6, k7, k8, k9, k10, k11, k12⟩ := KEEP.out w8 HA.out.bel
                  go_wp2_with fail
                  refine Calls.mono (rest_true w8 ob _ _ _ _ _ _ wt wt rel true rd td td tl tl tm st tk ak wa HA.out.box HA.out.p1.ok HA.out.p2.ok) ?_
                  rintro e w' ⟨rfl, hb⟩
                  have HZ := (show Hid _ from BW.out _ (HA.out.bel.trans (hb.mono HA.out.bel.size)))
                  clear hb
                  go_wp2_with fail
                  go_ret
                  exact ⟨rfl, HZ.out⟩
            · obtain rfl : cl = false := by cases cl <;> simp_all
              obtain rfl : n = 0 := by omega
              have hrest : rel = false ∨ (tl = false ∧ m = 0) := by
                cases rel
                · exact .inl rfl
                · refine .inr ⟨by cases tl <;> simp_all, Nat.eq_zero_of_not_pos fun h => hrdy (.inr (.inr ⟨rfl, .inr h⟩))⟩
              clear hrdy
              rcases hrest with rfl | ⟨rfl, rfl⟩
              · go_wp2_with fail
                go_ret
                exact ⟨rfl, HB0.out ▸ HB1.out⟩
              · rcases rel <;> (go_wp2_with fail) <;> (go_ret; exact ⟨rfl, HB0.out ▸ HB1.out⟩)

set_option maxHeartbeats 1000000 in
set_option maxRecDepth 100000 in
theorem law_big (w : World) (wt : Int) (rel cl : Bool) (rd td : Int) (tl tm : Bool) (st tk : Int) (ak wa : Bool)
    (a1 a2 : Option Addr) (n m c1 c2 : Nat) (hn : n ≤ 140737488351232) (hm : m ≤ 140737488351232) (hnm : 1048576 < n + m) :
    Calls Yba.prog 3 #[.agg #[.slice a1 n c1, .slice a2 m c2, .int .i64 wt, .bool rel, .bool cl, .int .u64 rd, .int .u64 td, .bool tl, .bool tm, .int .u64 st, .int .u64 tk, .bool ak, .bool wa]] w
      fun e w' => e = .returned (.bool true) ∧ Below w.heap.size w w' := by
  have q1 : (1048576 : Int) < (n : Int) + (m : Int) := by omega
  have q2 : (n : Int) ≤ 140737488351232 := by omega
  have q3 : (m : Int) ≤ 140737488351232 := by omega
  go_enter Yba.func3, Yba.ntmps3
  go_wp2_with fail
  go_ret
  exact ⟨rfl, (Below.refl _ w).alloc (Nat.le_refl _) _⟩

/-- The law holds of every argument that is well laid. -/
theorem law_true (w : World) (sO sP : Value) (hO hP : List Value) (ssO ssP : List (List Int)) (wt : Int) (rel cl : Bool) (rd td : Int) (tl tm : Bool) (st tk : Int) (ak wa : Bool)
    (G : Given w sO sP hO hP ssO ssP) (hn : hO.length ≤ 140737488351232) (hm : hP.length ≤ 140737488351232) (hrd : 0 ≤ rd ∧ rd < 18446744073709551616) :
    Calls Yba.prog 3 #[.agg #[sO, sP, .int .i64 wt, .bool rel, .bool cl, .int .u64 rd, .int .u64 td, .bool tl, .bool tm, .int .u64 st, .int .u64 tk, .bool ak, .bool wa]] w
      fun e w' => e = .returned (.bool true) ∧ Below w.heap.size w w' := by
  obtain ⟨a1, c1, h1, _, _, f1⟩ := G.h1.form
  obtain ⟨a2, c2, h2, _, _, f2⟩ := G.h2.form
  by_cases hnm : hO.length + hP.length ≤ 1048576
  · have g1 : ∃ b o, 0 < hO.length → a1 = some ⟨b, o, none⟩ := by
      by_cases h0 : 0 < hO.length
      · obtain ⟨b, o, h, _⟩ := f1 h0
        exact ⟨b, o, fun _ => h⟩
      · exact ⟨0, 0, fun h => absurd h h0⟩
    have g2 : ∃ b o, 0 < hP.length → a2 = some ⟨b, o, none⟩ := by
      by_cases h0 : 0 < hP.length
      · obtain ⟨b, o, h, _⟩ := f2 h0
        exact ⟨b, o, fun _ => h⟩
      · exact ⟨0, 0, fun h => absurd h h0⟩
    obtain ⟨b1, o1, g1⟩ := g1
    obtain ⟨b2, o2, g2⟩ := g2
    exact law_walk w sO sP hO hP ssO ssP wt rel cl rd td tl tm st tk ak wa G a1 a2 hO.length hP.length c1 c2 h1 h2 rfl rfl hnm hrd b1 o1 b2 o2 g1 g2
  · subst h1 h2
    exact law_big w wt rel cl rd td tl tm st tk ak wa a1 a2 _ _ c1 c2 hn hm (by omega)
end Go.Proofs.Ybulkecju

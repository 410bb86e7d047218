/-
  differencedLen.
-/
import Derived.Test.YbulkecgoDoorChunk
import Derived.Deep.RegionHeld3
namespace Go.Proofs.YbulkecgoDoor
open Go.RowKit Go.Shelf
set_option linter.unusedVariables false
set_option maxRecDepth 100000
attribute [local go_sem] Oper.semAt_some

theorem i64wrap (n : Int) : IntKind.i64.wrap n = wrap64 n := IntWalk.i64_left n

set_option maxHeartbeats 4000000 in
theorem differencedLen_some (b o n c q : Nat) (D : Nat → Int) (w : World) (hn : n ≤ 65536) (hq : q ≤ 2) (hqn : q ≤ n) (hn0 : 0 < n) (hnc : n ≤ c) (hcm : c ≤ 9223372036854775807) (HR : Hid (Row w b o n D)) (HI : Hid (I64 n D)) :
    Calls Ybad.prog 23 #[.slice (some ⟨b, o, none⟩) n c, .int .i64 q] w fun e w' => e = .returned (.int .i64 (dln D n q)) ∧ Below w.heap.size w w' := by
  have hn2 : (n : Int) ≤ 65536 := by omega
  have hbl : b < w.heap.size := World.block_lt_of_cell? w _ (HR.out 0 hn0)
  have hmx : Ybad.prog.follows .mixedOrders = true := by kernel_rfl
  have g1 : (q : Int) ≤ n := by omega
  have g2 : (q : Int) ≤ c := by omega
  have g3 : (n : Int) ≤ c := by omega
  refine (callsIn_wide (n := 6)).1 ?_
  refine callsIn_of_wp_marks Ybad.func23 rfl trivial ?_ rfl
  simp only [Ybad.ntmps23, List.size_toArray, List.length_cons, List.length_nil, Nat.reduceAdd, Nat.reduceSub, Array.replicate_succ, Array.replicate_zero, List.push_toArray, List.append_toArray, List.nil_append, List.cons_append]
  gi_wp2
  have hst : (w.alloc (Obj.cells #[Value.int IntKind.i64 1] 3)).heap[w.heap.size]? = some (.cells #[.int .i64 (1 + hdL D 0 : Nat)] 3 (0, 0)) ∧ Below w.heap.size w (w.alloc (Obj.cells #[Value.int IntKind.i64 1] 3)) ∧ (w.alloc (Obj.cells #[Value.int IntKind.i64 1] 3)).heap.size = w.heap.size + 1 := ⟨heap_alloc_new w _, (Below.refl _ w).alloc (Nat.le_refl _) _, by simp⟩
  have HST := (show Hid _ from hst)
  clear hst
  generalize (w.alloc (Obj.cells #[Value.int IntKind.i64 1] 3)) = w1 at *
  have HB0 : Hid (∃ B, w.heap.size = B) := ⟨_, rfl⟩
  obtain ⟨B, hB⟩ := HB0.out
  have HBB := (show Hid _ from hB)
  rw [hB] at HST ⊢
  clear HB0 hB
  gi_loopw [7, 13] (fun x7 i wr => ∃ j : Nat, j ≤ q ∧ i = .int .i64 j ∧ wr.heap[B]? = some (.cells #[.int .i64 (1 + hdL D j : Nat)] 3 (0, 0)) ∧ Below B w wr ∧ wr.heap.size = B + 1) (fun _ i _ => q - (intOf i).toNat)
  case atStart => exact ⟨0, Nat.zero_le _, rfl, HST.out⟩
  case round =>
    obtain ⟨j, hj, rfl, hrow, hbel, hsz⟩ := hrel
    have hh := hdL_le HI.out j (by omega)
    have hh2 : ((1 + hdL D j : Nat) : Int) ≤ 30 := by omega
    have hcell : wr.cell? ⟨B, 0, none⟩ = some (.int .i64 (1 + hdL D j : Nat)) := cell_of_row wr B 0 _ _ _ hrow
    have hfz : wr.frozen? ⟨B, 0, none⟩ = false := frozen_of_row wr B 0 _ _ hrow
    have HROW := (show Hid _ from hrow)
    have HBEL := (show Hid _ from hbel)
    have HSZ := (show Hid _ from hsz)
    clear hrow hbel hsz HST
    by_cases hjq : j < q
    · have hc : wr.cell? ⟨b, o + j, none⟩ = some (.int .i64 (D j)) := (HBEL.out.cell (p := ⟨b, o + j, none⟩) (by rw [← HBB.out]; exact hbl)).trans (HR.out j (by omega))
      have hI := HI.out j (by omega)
      have K1 : Hid (∀ W : World, CallsIn Fence.wide (6 - 1) Ybad.prog 38 #[.int .i64 (D j)] W fun e w' => e = .returned (.int .u64 (zg (D j))) ∧ w' = W) := fun W => callsIn_wide.2 (zigzag_walk (D j) W hI)
      have K2 : Hid (∀ W : World, CallsIn Fence.wide (6 - 1) Ybad.prog 37 #[.int .u64 (zg (D j))] W fun e w' => e = .returned (.int .i64 (uvl (zg (D j)))) ∧ w' = W) := fun W => callsIn_wide.2 (uvarintLen_walk (zg (D j)) W (zg_lt hI))
      have hu := uvl_10 (zg_lt hI)
      have hu2 : ((uvl (zg (D j)) : Nat) : Int) ≤ 10 := by omega
      have HH : Hid (hdL D (j + 1) = hdL D j + uvl (zg (D j))) := rfl
      generalize uvl (zg (D j)) = U at *
      have hjq' : (j : Int) < q := by omega
      have hjn : (j : Int) < n := by omega
      clear hI hh
      gi_wp2
      refine Code.wpIn_mono NoPanic.imp ?_
      gi_region_with_o (first | (refine ⟨trivial, ?_⟩; gi_at_call 38; refine CallsIn.mono (K1.out _) ?_; rintro e w' ⟨rfl, rfl⟩) | (refine ⟨trivial, ?_⟩; gi_at_call 37; refine CallsIn.mono (K2.out _) ?_; rintro e w' ⟨rfl, rfl⟩))
      all_goals (refine NoPanic.normal ?_)
      all_goals gi_wp2
      all_goals go_roundw
      all_goals first
        | (simp [intOf]; omega)
        | (refine ⟨j + 1, by omega, by go_num, ?_, ?_, ?_⟩
           · rw [HH.out]
             have h3 := heap_setCell_same wr B 0 _ 3 (.int .i64 (1 + (hdL D j + U) : Nat)) HROW.out
             have e : ((1 + (hdL D j + U) : Nat) : Int) = 1 + (hdL D j : Int) + (U : Int) := by omega
             rw [e] at h3 ⊢
             exact h3
           · exact (HBEL.out.setCell (p := ⟨B, 0, none⟩) (Nat.le_refl _) _).drew
           · simpa [World.setCell] using HSZ.out)
    · have hjq' : ¬ (j : Int) < q := by omega
      obtain rfl : j = q := by omega
      by_cases hcq : c = j
      · obtain rfl : j = n := by omega
        obtain rfl : j = c := hcq.symm
        gi_wp2
        refine ⟨trivial, ?_⟩
        refine CallsIn.mono (chunk_in _ _ _ _ _) ?_
        rintro e w' ⟨rfl, rfl⟩
        have hsz := HSZ.out
        gi_wp2
        have W0B : Hid (Boxed ((wr.alloc (Obj.cells #[Value.slice (some ⟨b, o, none⟩) (0) (0)] 24)).alloc (Obj.cells #[Value.int IntKind.i64 128] 3)) B 3 (.int .i64 (1 + hdL D j + frSum D j j [] : Nat))) := by
          have : Boxed wr B 3 (.int .i64 (1 + hdL D j + frSum D j j [] : Nat)) := HROW.out
          exact (this.alloc _).alloc _
        have W0L : Hid (Below B w ((wr.alloc (Obj.cells #[Value.slice (some ⟨b, o, none⟩) (0) (0)] 24)).alloc (Obj.cells #[Value.int IntKind.i64 128] 3))) := (HBEL.out.alloc (by rw [hsz]; omega) _).alloc (by simp [hsz]; omega) _
        have W0s : Hid (((wr.alloc (Obj.cells #[Value.slice (some ⟨b, o, none⟩) (0) (0)] 24)).alloc (Obj.cells #[Value.int IntKind.i64 128] 3)).heap.size = B + 3) := by show _ = _; simp [hsz]
        have W0c : Hid (((wr.alloc (Obj.cells #[Value.slice (some ⟨b, o, none⟩) (0) (0)] 24)).alloc (Obj.cells #[Value.int IntKind.i64 128] 3)).cell? ⟨B + 1, 0, none⟩ = some (Value.slice (some ⟨b, o, none⟩) (0) (0))) := by
          have h1 : Boxed ((wr.alloc (Obj.cells #[Value.slice (some ⟨b, o, none⟩) (0) (0)] 24)).alloc (Obj.cells #[Value.int IntKind.i64 128] 3)) (B + 1) 24 (Value.slice (some ⟨b, o, none⟩) (0) (0)) := by
            have := (Boxed.new wr 24 (Value.slice (some ⟨b, o, none⟩) (0) (0))).alloc (Obj.cells #[Value.int IntKind.i64 128] 3)
            rw [hsz] at this; exact this
          exact h1.cell
        have W0d : Hid (((wr.alloc (Obj.cells #[Value.slice (some ⟨b, o, none⟩) (0) (0)] 24)).alloc (Obj.cells #[Value.int IntKind.i64 128] 3)).cell? ⟨B + 1 + 1, 0, none⟩ = some (Value.int IntKind.i64 128)) := by
          have h1 : Boxed ((wr.alloc (Obj.cells #[Value.slice (some ⟨b, o, none⟩) (0) (0)] 24)).alloc (Obj.cells #[Value.int IntKind.i64 128] 3)) (B + 1 + 1) 3 (Value.int IntKind.i64 128) := by
            have := Boxed.new (wr.alloc (Obj.cells #[Value.slice (some ⟨b, o, none⟩) (0) (0)] 24)) 3 (Value.int IntKind.i64 128)
            rw [World.size_alloc, hsz] at this; exact this
          exact h1.cell
        generalize ((wr.alloc (Obj.cells #[Value.slice (some ⟨b, o, none⟩) (0) (0)] 24)).alloc (Obj.cells #[Value.int IntKind.i64 128] 3)) = W0 at *
        have HX := (show Hid _ from frSum_all (D := D) (n := j) (q := j))
        have HT : Hid (dln D j j = 1 + hdL D j + frs D j j) := rfl
        refine wpIn_rangeFunc_ownF (n := 6) rfl (by omega) (gf := 48) (lb := #[.pointer (some ⟨B + 1, 0, none⟩), .pointer (some ⟨B + 1 + 1, 0, none⟩)]) rfl trivial (enters_of Ybad.func48 (by kernel_rfl) rfl)
          (chunk_stops (6 - 1) (by omega) (B + 1) (B + 1 + 1) b (o + j) (0) (0) (some ⟨b, o, none⟩) (by omega) (by intro h; first | rfl | omega) (by omega) (by omega) W0 W0c.out W0d.out) (fun h k => ⟨k.1.trans h.1, k.2.trans h.2⟩) ?kb (Below.refl _ _) (fun _ => rfl)
          (fun pre W => Boxed W B 3 (.int .i64 (1 + hdL D j + frSum D j j pre : Nat)) ∧ Below B w W) (fun _ _ _ => False)
          (OwnFrom.and (Own.from (boxed_own B 3 (fun pre => .int .i64 (1 + hdL D j + frSum D j j pre : Nat))) _) (ownFrom_below (by rw [HBB.out]; exact Nat.le_refl _) (by rw [W0s.out]; omega)))
          (fun _ _ _ _ _ hs _ _ => hs) ⟨W0B.out, W0L.out⟩
          (fun x => { tmps := #[Value.slice (some { block := b, off := o }) j j, Value.int IntKind.i64 ↑j, undef, undef, Value.int IntKind.i64 0, Value.pointer (some { block := B, off := 0 }), undef, u7, frV b (o + j) (0) x, Value.slice (some { block := b, off := o }) j j, Value.int IntKind.i64 ↑j, Value.slice (some { block := b, off := o }) j j, Value.int IntKind.i64 ↑j, Value.int IntKind.i64 ↑j, Value.bool false, u15, u16, u17, u18, u19, u20, u21, u22, Value.slice (some { block := b, off := o }) j j, Value.int IntKind.i64 ↑j, Value.slice (some ⟨b, o, none⟩) (0) (0), Value.func (Fn.func 48) #[] #[Value.pointer (some { block := B + 1, off := 0 }), Value.pointer (some { block := B + 1 + 1, off := 0 })], frV b (o + j) (0) x, undef, undef, undef, undef, undef], defers := [] }) ?assign ?body ?done ?stop
        case kb =>
          intro W l ob ob' hl _ _ _
          rw [W0s.out] at hl
          exact ⟨World.cell?_of_block (World.putObj_heap_other (by show B + 1 ≠ l; omega)), World.cell?_of_block (World.putObj_heap_other (by show B + 1 + 1 ≠ l; omega))⟩
        case assign =>
          intro l x W K hK
          gi_wp2
          exact hK
        case body =>
          rintro l pre x W ⟨hbox, hbel⟩ hlen
          exact absurd hlen (by simp [nfr])
        case done =>
          rintro D0 xs W hD rfl ⟨hbox, hbel⟩ hK
          have hcl := hbox.cell
          have HBX := (show Hid _ from hbox)
          have HBL := (show Hid _ from hbel)
          have HKK := (show Hid _ from hK)
          have HDD := (show Hid _ from hD)
          clear hbox hbel hK hD
          gi_wp2
          refine ⟨by simp, .inl ⟨_, _, rfl, run_takeDeferred HKK.out, ?_⟩⟩
          have eT : ((dln D j j : Nat) : Int) = 1 + (hdL D j : Int) + (frSum D j j (List.range (nfr (0))) : Int) := by
            rw [HT.out, ← HX.out]
            rw [show j - j = 0 by omega]; omega
          refine ⟨_, results_tmp rfl _ _ _, by rw [eT]; rfl, ?_⟩
          rw [HBB.out]
          exact HBL.out.trans (belowK_b (w := w) (by rw [HBB.out]; exact Nat.le_refl _) W D0 _ _ (by have := HDD.out; rw [W0s.out] at this; rw [HBB.out]; omega) HKK.out rfl rfl)
        case stop =>
          rintro D0 cc pre W _ _ h _
          exact h.elim
      · have hcq' : ¬ ((c : Int) - (j : Int) = 0) := by omega
        gi_wp2
        refine ⟨trivial, ?_⟩
        refine CallsIn.mono (chunk_in _ _ _ _ _) ?_
        rintro e w' ⟨rfl, rfl⟩
        have hsz := HSZ.out
        gi_wp2
        have W0B : Hid (Boxed ((wr.alloc (Obj.cells #[Value.slice (some ⟨b, o + j, none⟩) (n - j) (c - j)] 24)).alloc (Obj.cells #[Value.int IntKind.i64 128] 3)) B 3 (.int .i64 (1 + hdL D j + frSum D n j [] : Nat))) := by
          have : Boxed wr B 3 (.int .i64 (1 + hdL D j + frSum D n j [] : Nat)) := HROW.out
          exact (this.alloc _).alloc _
        have W0L : Hid (Below B w ((wr.alloc (Obj.cells #[Value.slice (some ⟨b, o + j, none⟩) (n - j) (c - j)] 24)).alloc (Obj.cells #[Value.int IntKind.i64 128] 3))) := (HBEL.out.alloc (by rw [hsz]; omega) _).alloc (by simp [hsz]; omega) _
        have W0s : Hid (((wr.alloc (Obj.cells #[Value.slice (some ⟨b, o + j, none⟩) (n - j) (c - j)] 24)).alloc (Obj.cells #[Value.int IntKind.i64 128] 3)).heap.size = B + 3) := by show _ = _; simp [hsz]
        have W0c : Hid (((wr.alloc (Obj.cells #[Value.slice (some ⟨b, o + j, none⟩) (n - j) (c - j)] 24)).alloc (Obj.cells #[Value.int IntKind.i64 128] 3)).cell? ⟨B + 1, 0, none⟩ = some (Value.slice (some ⟨b, o + j, none⟩) (n - j) (c - j))) := by
          have h1 : Boxed ((wr.alloc (Obj.cells #[Value.slice (some ⟨b, o + j, none⟩) (n - j) (c - j)] 24)).alloc (Obj.cells #[Value.int IntKind.i64 128] 3)) (B + 1) 24 (Value.slice (some ⟨b, o + j, none⟩) (n - j) (c - j)) := by
            have := (Boxed.new wr 24 (Value.slice (some ⟨b, o + j, none⟩) (n - j) (c - j))).alloc (Obj.cells #[Value.int IntKind.i64 128] 3)
            rw [hsz] at this; exact this
          exact h1.cell
        have W0d : Hid (((wr.alloc (Obj.cells #[Value.slice (some ⟨b, o + j, none⟩) (n - j) (c - j)] 24)).alloc (Obj.cells #[Value.int IntKind.i64 128] 3)).cell? ⟨B + 1 + 1, 0, none⟩ = some (Value.int IntKind.i64 128)) := by
          have h1 : Boxed ((wr.alloc (Obj.cells #[Value.slice (some ⟨b, o + j, none⟩) (n - j) (c - j)] 24)).alloc (Obj.cells #[Value.int IntKind.i64 128] 3)) (B + 1 + 1) 3 (Value.int IntKind.i64 128) := by
            have := Boxed.new (wr.alloc (Obj.cells #[Value.slice (some ⟨b, o + j, none⟩) (n - j) (c - j)] 24)) 3 (Value.int IntKind.i64 128)
            rw [World.size_alloc, hsz] at this; exact this
          exact h1.cell
        generalize ((wr.alloc (Obj.cells #[Value.slice (some ⟨b, o + j, none⟩) (n - j) (c - j)] 24)).alloc (Obj.cells #[Value.int IntKind.i64 128] 3)) = W0 at *
        have HX := (show Hid _ from frSum_all (D := D) (n := n) (q := j))
        have HT : Hid (dln D n j = 1 + hdL D j + frs D n j) := rfl
        refine wpIn_rangeFunc_ownF (n := 6) rfl (by omega) (gf := 48) (lb := #[.pointer (some ⟨B + 1, 0, none⟩), .pointer (some ⟨B + 1 + 1, 0, none⟩)]) rfl trivial (enters_of Ybad.func48 (by kernel_rfl) rfl)
          (chunk_stops (6 - 1) (by omega) (B + 1) (B + 1 + 1) b (o + j) (n - j) (c - j) (some ⟨b, o + j, none⟩) (by omega) (by intro h; first | rfl | omega) (by omega) (by omega) W0 W0c.out W0d.out) (fun h k => ⟨k.1.trans h.1, k.2.trans h.2⟩) ?kb (Below.refl _ _) (fun _ => rfl)
          (fun pre W => Boxed W B 3 (.int .i64 (1 + hdL D j + frSum D n j pre : Nat)) ∧ Below B w W) (fun _ _ _ => False)
          (OwnFrom.and (Own.from (boxed_own B 3 (fun pre => .int .i64 (1 + hdL D j + frSum D n j pre : Nat))) _) (ownFrom_below (by rw [HBB.out]; exact Nat.le_refl _) (by rw [W0s.out]; omega)))
          (fun _ _ _ _ _ hs _ _ => hs) ⟨W0B.out, W0L.out⟩
          (fun x => { tmps := #[Value.slice (some { block := b, off := o }) n c, Value.int IntKind.i64 ↑j, undef, undef, Value.int IntKind.i64 0, Value.pointer (some { block := B, off := 0 }), undef, u7, frV b (o + j) (n - j) x, Value.slice (some { block := b, off := o }) n c, Value.int IntKind.i64 ↑j, Value.slice (some { block := b, off := o }) j c, Value.int IntKind.i64 ↑j, Value.int IntKind.i64 ↑j, Value.bool false, u15, u16, u17, u18, u19, u20, u21, u22, Value.slice (some { block := b, off := o }) n c, Value.int IntKind.i64 ↑j, Value.slice (some ⟨b, o + j, none⟩) (n - j) (c - j), Value.func (Fn.func 48) #[] #[Value.pointer (some { block := B + 1, off := 0 }), Value.pointer (some { block := B + 1 + 1, off := 0 })], frV b (o + j) (n - j) x, undef, undef, undef, undef, undef], defers := [] }) ?assign ?body ?done ?stop
        case kb =>
          intro W l ob ob' hl _ _ _
          rw [W0s.out] at hl
          exact ⟨World.cell?_of_block (World.putObj_heap_other (by show B + 1 ≠ l; omega)), World.cell?_of_block (World.putObj_heap_other (by show B + 1 + 1 ≠ l; omega))⟩
        case assign =>
          intro l x W K hK
          gi_wp2
          exact hK
        case body =>
          rintro l pre x W ⟨hbox, hbel⟩ hlen
          have hnj : j < n := by unfold nfr at hlen; omega
          have hcb : 128 * cl (n - j) x < n - j := by unfold cl; omega
          obtain ⟨M, hM⟩ : ∃ M, M = min 128 (n - j - 128 * cl (n - j) x) := ⟨_, rfl⟩
          have hM1 : 1 ≤ M := by omega
          have hM2 : j + 128 * cl (n - j) x + M ≤ n := by omega
          have hRow : Row W b (o + j + 128 * cl (n - j) x) M (sh D (j + 128 * cl (n - j) x)) := fun i hi => by
            have h1 := (hbel.cell (p := ⟨b, o + (j + 128 * cl (n - j) x + i), none⟩) (by show b < B; rw [← HBB.out]; exact hbl)).trans (HR.out (j + 128 * cl (n - j) x + i) (by omega))
            rw [← Nat.add_assoc] at h1
            have e : o + j + 128 * cl (n - j) x + i = o + (j + 128 * cl (n - j) x) + i := by omega
            rw [e]; exact h1
          have KF : Hid (∀ W' : World, (∀ i, i < M → W'.cell? ⟨b, o + j + 128 * cl (n - j) x + i, none⟩ = W.cell? ⟨b, o + j + 128 * cl (n - j) x + i, none⟩) → CallsIn (Fence.wide.inRound l) (6 - 1 - 1 - 1) Ybad.prog 40 #[Value.slice (some ⟨b, o + j + 128 * cl (n - j) x, none⟩) M M] W' fun e w' => e = .returned (.int .i64 (frameL (sh D (j + 128 * cl (n - j) x)) M)) ∧ w' = W'.drew) := fun W' hW' =>
            CallsIn.inRound l (callsIn_wide.2 (frameLen_walk b (o + j + 128 * cl (n - j) x) M M (sh D (j + 128 * cl (n - j) x)) W' hM1 (by omega) (Nat.le_refl _) (by omega) (fun i hi => (hW' i hi).trans (hRow i hi)) (HI.out.sh (by omega))))
          have hs1 := frSum_le HI.out hnj pre
          have hs2 := frSum_snoc D n j pre x
          rw [← hM] at hs2
          have hfl := frameL_le (n := M) (D := sh D (j + 128 * cl (n - j) x)) (by omega) (HI.out.sh (by omega))
          have hlen2 : pre.length < 600 := by unfold nfr at hlen; omega
          have eV : frV b (o + j) (n - j) x = Value.slice (some ⟨b, o + j + 128 * cl (n - j) x, none⟩) M M := by unfold frV; rw [← hM]
          rw [eV]
          have hcl := hbox.cell
          have hfz := hbox.frozen
          have HBX := (show Hid _ from hbox)
          have HBL := (show Hid _ from hbel)
          have HS2 := (show Hid _ from hs2)
          have hA : 1 + hdL D j + frSum D n j pre ≤ 700000 := by omega
          clear hbox hbel hRow hs2 hs1 hM hcb hlen eV
          generalize hFL : frameL (sh D (j + 128 * cl (n - j) x)) M = FL at *
          generalize hAA : 1 + hdL D j + frSum D n j pre = A at *
          have HAA := (show Hid _ from hAA)
          clear hAA
          generalize hoo : o + j + 128 * cl (n - j) x = oo at *
          have hA2 : (A : Int) ≤ 700000 := by omega
          have hfl2 : (FL : Int) ≤ 1036 := by omega
          clear hFL hoo
          gi_wp2
          gi_region_with_o (refine ⟨trivial, ?_⟩; gi_at_call 40; refine CallsIn.mono (KF.out _ (fun i hi => rfl)) ?_; rintro e w' ⟨rfl, rfl⟩)
          all_goals gi_wp2
          all_goals
            have eW : IntKind.i64.wrap ((A : Int) + (FL : Int)) = ((1 + hdL D j + frSum D n j (pre ++ [x]) : Nat) : Int) := by
              rw [HS2.out, i64wrap]
              have := HAA.out
              unfold wrap64; omega
            rw [eW]
            exact ⟨((KeepsOthers.setCell _ _ _).trans (KeepsOthers.drew _)).trans (KeepsOthers.drew _), ⟨World.cell?_setCell_other _ _ _ _ (by intro h; injection h with h; omega), World.cell?_setCell_other _ _ _ _ (by intro h; injection h with h; omega)⟩, Boxed.set _ HBX.out, ((HBL.out.setCell (p := ⟨B, 0, none⟩) (Nat.le_refl _) _).drew).drew⟩
        case done =>
          rintro D0 xs W hD rfl ⟨hbox, hbel⟩ hK
          have hcl := hbox.cell
          have HBX := (show Hid _ from hbox)
          have HBL := (show Hid _ from hbel)
          have HKK := (show Hid _ from hK)
          have HDD := (show Hid _ from hD)
          clear hbox hbel hK hD
          gi_wp2
          refine ⟨by simp, .inl ⟨_, _, rfl, run_takeDeferred HKK.out, ?_⟩⟩
          have eT : ((dln D n j : Nat) : Int) = 1 + (hdL D j : Int) + (frSum D n j (List.range (nfr (n - j))) : Int) := by
            rw [HT.out, ← HX.out]
            omega
          refine ⟨_, results_tmp rfl _ _ _, by rw [eT]; rfl, ?_⟩
          rw [HBB.out]
          exact HBL.out.trans (belowK_b (w := w) (by rw [HBB.out]; exact Nat.le_refl _) W D0 _ _ (by have := HDD.out; rw [W0s.out] at this; rw [HBB.out]; omega) HKK.out rfl rfl)
        case stop =>
          rintro D0 cc pre W _ _ h _
          exact h.elim

set_option maxHeartbeats 4000000 in
theorem differencedLen_nil (D : Nat → Int) (w : World) :
    Calls Ybad.prog 23 #[.slice (none) 0 (0), .int .i64 0] w fun e w' => e = .returned (.int .i64 (dln D 0 0)) ∧ Below w.heap.size w w' := by
  have hmx : Ybad.prog.follows .mixedOrders = true := by kernel_rfl
  refine (callsIn_wide (n := 6)).1 ?_
  refine callsIn_of_wp_marks Ybad.func23 rfl trivial ?_ rfl
  simp only [Ybad.ntmps23, List.size_toArray, List.length_cons, List.length_nil, Nat.reduceAdd, Nat.reduceSub, Array.replicate_succ, Array.replicate_zero, List.push_toArray, List.append_toArray, List.nil_append, List.cons_append]
  gi_wp2
  have hst : (w.alloc (Obj.cells #[Value.int IntKind.i64 1] 3)).heap[w.heap.size]? = some (.cells #[.int .i64 (1 + hdL D 0 : Nat)] 3 (0, 0)) ∧ Below w.heap.size w (w.alloc (Obj.cells #[Value.int IntKind.i64 1] 3)) ∧ (w.alloc (Obj.cells #[Value.int IntKind.i64 1] 3)).heap.size = w.heap.size + 1 := ⟨heap_alloc_new w _, (Below.refl _ w).alloc (Nat.le_refl _) _, by simp⟩
  have HST := (show Hid _ from hst)
  clear hst
  generalize (w.alloc (Obj.cells #[Value.int IntKind.i64 1] 3)) = wr at *
  have HB0 : Hid (∃ B, w.heap.size = B) := ⟨_, rfl⟩
  obtain ⟨B, hB⟩ := HB0.out
  have HBB := (show Hid _ from hB)
  rw [hB] at HST ⊢
  clear HB0 hB
  have hcell : wr.cell? ⟨B, 0, none⟩ = some (.int .i64 (1 + hdL D 0 : Nat)) := cell_of_row wr B 0 _ _ _ HST.out.1
  have HROW := (show Hid _ from HST.out.1)
  have HBEL := (show Hid _ from HST.out.2.1)
  have HSZ := (show Hid _ from HST.out.2.2)
  refine wpIn_loop_rounds 1 ?_
  rw [roundsIn_succ]
  gi_wp2
  refine ⟨trivial, ?_⟩
  refine CallsIn.mono (chunk_in _ _ _ _ _) ?_
  rintro e w' ⟨rfl, rfl⟩
  have hsz := HSZ.out
  gi_wp2
  have W0B : Hid (Boxed ((wr.alloc (Obj.cells #[Value.slice (none) 0 (0)] 24)).alloc (Obj.cells #[Value.int IntKind.i64 128] 3)) B 3 (.int .i64 (1 + hdL D 0 + frSum D 0 0 [] : Nat))) := by
    have : Boxed wr B 3 (.int .i64 (1 + hdL D 0 + frSum D 0 0 [] : Nat)) := HROW.out
    exact (this.alloc _).alloc _
  have W0L : Hid (Below B w ((wr.alloc (Obj.cells #[Value.slice (none) 0 (0)] 24)).alloc (Obj.cells #[Value.int IntKind.i64 128] 3))) := (HBEL.out.alloc (by rw [hsz]; omega) _).alloc (by simp [hsz]; omega) _
  have W0s : Hid (((wr.alloc (Obj.cells #[Value.slice (none) 0 (0)] 24)).alloc (Obj.cells #[Value.int IntKind.i64 128] 3)).heap.size = B + 3) := by show _ = _; simp [hsz]
  have W0c : Hid (((wr.alloc (Obj.cells #[Value.slice (none) 0 (0)] 24)).alloc (Obj.cells #[Value.int IntKind.i64 128] 3)).cell? ⟨B + 1, 0, none⟩ = some (Value.slice (none) 0 (0))) := by
    have h1 : Boxed ((wr.alloc (Obj.cells #[Value.slice (none) 0 (0)] 24)).alloc (Obj.cells #[Value.int IntKind.i64 128] 3)) (B + 1) 24 (Value.slice (none) 0 (0)) := by
      have := (Boxed.new wr 24 (Value.slice (none) 0 (0))).alloc (Obj.cells #[Value.int IntKind.i64 128] 3)
      rw [hsz] at this; exact this
    exact h1.cell
  have W0d : Hid (((wr.alloc (Obj.cells #[Value.slice (none) 0 (0)] 24)).alloc (Obj.cells #[Value.int IntKind.i64 128] 3)).cell? ⟨B + 1 + 1, 0, none⟩ = some (Value.int IntKind.i64 128)) := by
    have h1 : Boxed ((wr.alloc (Obj.cells #[Value.slice (none) 0 (0)] 24)).alloc (Obj.cells #[Value.int IntKind.i64 128] 3)) (B + 1 + 1) 3 (Value.int IntKind.i64 128) := by
      have := Boxed.new (wr.alloc (Obj.cells #[Value.slice (none) 0 (0)] 24)) 3 (Value.int IntKind.i64 128)
      rw [World.size_alloc, hsz] at this; exact this
    exact h1.cell
  generalize ((wr.alloc (Obj.cells #[Value.slice (none) 0 (0)] 24)).alloc (Obj.cells #[Value.int IntKind.i64 128] 3)) = W0 at *
  have HX := (show Hid _ from frSum_all (D := D) (n := 0) (q := 0))
  have HT : Hid (dln D 0 0 = 1 + hdL D 0 + frs D 0 0) := rfl
  refine wpIn_rangeFunc_ownF (n := 6) rfl (by omega) (gf := 48) (lb := #[.pointer (some ⟨B + 1, 0, none⟩), .pointer (some ⟨B + 1 + 1, 0, none⟩)]) rfl trivial (enters_of Ybad.func48 (by kernel_rfl) rfl)
    (chunk_stops (6 - 1) (by omega) (B + 1) (B + 1 + 1) 0 0 (0) (0) (none) (by omega) (by intro h; first | rfl | omega) (by omega) (by omega) W0 W0c.out W0d.out) (fun h k => ⟨k.1.trans h.1, k.2.trans h.2⟩) ?kb (Below.refl _ _) (fun _ => rfl)
    (fun pre W => Boxed W B 3 (.int .i64 (1 + hdL D 0 + frSum D 0 0 pre : Nat)) ∧ Below B w W) (fun _ _ _ => False)
    (OwnFrom.and (Own.from (boxed_own B 3 (fun pre => .int .i64 (1 + hdL D 0 + frSum D 0 0 pre : Nat))) _) (ownFrom_below (by rw [HBB.out]; exact Nat.le_refl _) (by rw [W0s.out]; omega)))
    (fun _ _ _ _ _ hs _ _ => hs) ⟨W0B.out, W0L.out⟩
    (fun x => { tmps := #[Value.slice (none) 0 (0), Value.int IntKind.i64 0, undef, undef, Value.int IntKind.i64 0, Value.pointer (some { block := B, off := 0 }), undef, undef, frV 0 0 0 x, Value.slice (none) 0 (0), Value.int IntKind.i64 0, Value.slice (none) 0 (0), Value.int IntKind.i64 0, Value.int IntKind.i64 0, Value.bool false, undef, undef, undef, undef, undef, undef, undef, undef, Value.slice (none) 0 (0), Value.int IntKind.i64 0, Value.slice (none) 0 (0), Value.func (Fn.func 48) #[] #[Value.pointer (some { block := B + 1, off := 0 }), Value.pointer (some { block := B + 1 + 1, off := 0 })], frV 0 0 0 x, undef, undef, undef, undef, undef], defers := [] }) ?assign ?body ?done ?stop
  case kb =>
    intro W l ob ob' hl _ _ _
    rw [W0s.out] at hl
    exact ⟨World.cell?_of_block (World.putObj_heap_other (by show B + 1 ≠ l; omega)), World.cell?_of_block (World.putObj_heap_other (by show B + 1 + 1 ≠ l; omega))⟩
  case assign =>
    intro l x W K hK
    gi_wp2
    exact hK
  case body =>
    rintro l pre x W ⟨hbox, hbel⟩ hlen
    exact absurd hlen (by simp [nfr])
  case done =>
    rintro D0 xs W hD rfl ⟨hbox, hbel⟩ hK
    have hcl := hbox.cell
    have HBX := (show Hid _ from hbox)
    have HBL := (show Hid _ from hbel)
    have HKK := (show Hid _ from hK)
    have HDD := (show Hid _ from hD)
    clear hbox hbel hK hD
    gi_wp2
    refine ⟨by simp, .inl ⟨_, _, rfl, run_takeDeferred HKK.out, ?_⟩⟩
    have eT : ((dln D 0 0 : Nat) : Int) = 1 + (hdL D 0 : Int) + (frSum D 0 0 (List.range (nfr (0))) : Int) := by
      rw [HT.out, ← HX.out]
      simp
    refine ⟨_, results_tmp rfl _ _ _, by rw [eT]; rfl, ?_⟩
    rw [HBB.out]
    exact HBL.out.trans (belowK_b (w := w) (by rw [HBB.out]; exact Nat.le_refl _) W D0 _ _ (by have := HDD.out; rw [W0s.out] at this; rw [HBB.out]; omega) HKK.out rfl rfl)
  case stop =>
    rintro D0 cc pre W _ _ h _
    exact h.elim

set_option maxHeartbeats 4000000 in
theorem differencedLen_empty (b o c : Nat) (D : Nat → Int) (w : World) (hc : c ≤ 9223372036854775807) :
    Calls Ybad.prog 23 #[.slice (some ⟨b, o, none⟩) 0 (c), .int .i64 0] w fun e w' => e = .returned (.int .i64 (dln D 0 0)) ∧ Below w.heap.size w w' := by
  have hmx : Ybad.prog.follows .mixedOrders = true := by kernel_rfl
  refine (callsIn_wide (n := 6)).1 ?_
  refine callsIn_of_wp_marks Ybad.func23 rfl trivial ?_ rfl
  simp only [Ybad.ntmps23, List.size_toArray, List.length_cons, List.length_nil, Nat.reduceAdd, Nat.reduceSub, Array.replicate_succ, Array.replicate_zero, List.push_toArray, List.append_toArray, List.nil_append, List.cons_append]
  gi_wp2
  have hst : (w.alloc (Obj.cells #[Value.int IntKind.i64 1] 3)).heap[w.heap.size]? = some (.cells #[.int .i64 (1 + hdL D 0 : Nat)] 3 (0, 0)) ∧ Below w.heap.size w (w.alloc (Obj.cells #[Value.int IntKind.i64 1] 3)) ∧ (w.alloc (Obj.cells #[Value.int IntKind.i64 1] 3)).heap.size = w.heap.size + 1 := ⟨heap_alloc_new w _, (Below.refl _ w).alloc (Nat.le_refl _) _, by simp⟩
  have HST := (show Hid _ from hst)
  clear hst
  generalize (w.alloc (Obj.cells #[Value.int IntKind.i64 1] 3)) = wr at *
  have HB0 : Hid (∃ B, w.heap.size = B) := ⟨_, rfl⟩
  obtain ⟨B, hB⟩ := HB0.out
  have HBB := (show Hid _ from hB)
  rw [hB] at HST ⊢
  clear HB0 hB
  have hcell : wr.cell? ⟨B, 0, none⟩ = some (.int .i64 (1 + hdL D 0 : Nat)) := cell_of_row wr B 0 _ _ _ HST.out.1
  have HROW := (show Hid _ from HST.out.1)
  have HBEL := (show Hid _ from HST.out.2.1)
  have HSZ := (show Hid _ from HST.out.2.2)
  refine wpIn_loop_rounds 1 ?_
  rw [roundsIn_succ]
  gi_wp2
  refine ⟨trivial, ?_⟩
  refine CallsIn.mono (chunk_in _ _ _ _ _) ?_
  rintro e w' ⟨rfl, rfl⟩
  have hsz := HSZ.out
  gi_wp2
  have W0B : Hid (Boxed ((wr.alloc (Obj.cells #[Value.slice (some ⟨b, o, none⟩) 0 (c)] 24)).alloc (Obj.cells #[Value.int IntKind.i64 128] 3)) B 3 (.int .i64 (1 + hdL D 0 + frSum D 0 0 [] : Nat))) := by
    have : Boxed wr B 3 (.int .i64 (1 + hdL D 0 + frSum D 0 0 [] : Nat)) := HROW.out
    exact (this.alloc _).alloc _
  have W0L : Hid (Below B w ((wr.alloc (Obj.cells #[Value.slice (some ⟨b, o, none⟩) 0 (c)] 24)).alloc (Obj.cells #[Value.int IntKind.i64 128] 3))) := (HBEL.out.alloc (by rw [hsz]; omega) _).alloc (by simp [hsz]; omega) _
  have W0s : Hid (((wr.alloc (Obj.cells #[Value.slice (some ⟨b, o, none⟩) 0 (c)] 24)).alloc (Obj.cells #[Value.int IntKind.i64 128] 3)).heap.size = B + 3) := by show _ = _; simp [hsz]
  have W0c : Hid (((wr.alloc (Obj.cells #[Value.slice (some ⟨b, o, none⟩) 0 (c)] 24)).alloc (Obj.cells #[Value.int IntKind.i64 128] 3)).cell? ⟨B + 1, 0, none⟩ = some (Value.slice (some ⟨b, o, none⟩) 0 (c))) := by
    have h1 : Boxed ((wr.alloc (Obj.cells #[Value.slice (some ⟨b, o, none⟩) 0 (c)] 24)).alloc (Obj.cells #[Value.int IntKind.i64 128] 3)) (B + 1) 24 (Value.slice (some ⟨b, o, none⟩) 0 (c)) := by
      have := (Boxed.new wr 24 (Value.slice (some ⟨b, o, none⟩) 0 (c))).alloc (Obj.cells #[Value.int IntKind.i64 128] 3)
      rw [hsz] at this; exact this
    exact h1.cell
  have W0d : Hid (((wr.alloc (Obj.cells #[Value.slice (some ⟨b, o, none⟩) 0 (c)] 24)).alloc (Obj.cells #[Value.int IntKind.i64 128] 3)).cell? ⟨B + 1 + 1, 0, none⟩ = some (Value.int IntKind.i64 128)) := by
    have h1 : Boxed ((wr.alloc (Obj.cells #[Value.slice (some ⟨b, o, none⟩) 0 (c)] 24)).alloc (Obj.cells #[Value.int IntKind.i64 128] 3)) (B + 1 + 1) 3 (Value.int IntKind.i64 128) := by
      have := Boxed.new (wr.alloc (Obj.cells #[Value.slice (some ⟨b, o, none⟩) 0 (c)] 24)) 3 (Value.int IntKind.i64 128)
      rw [World.size_alloc, hsz] at this; exact this
    exact h1.cell
  generalize ((wr.alloc (Obj.cells #[Value.slice (some ⟨b, o, none⟩) 0 (c)] 24)).alloc (Obj.cells #[Value.int IntKind.i64 128] 3)) = W0 at *
  have HX := (show Hid _ from frSum_all (D := D) (n := 0) (q := 0))
  have HT : Hid (dln D 0 0 = 1 + hdL D 0 + frs D 0 0) := rfl
  refine wpIn_rangeFunc_ownF (n := 6) rfl (by omega) (gf := 48) (lb := #[.pointer (some ⟨B + 1, 0, none⟩), .pointer (some ⟨B + 1 + 1, 0, none⟩)]) rfl trivial (enters_of Ybad.func48 (by kernel_rfl) rfl)
    (chunk_stops (6 - 1) (by omega) (B + 1) (B + 1 + 1) b o (0) (c) (some ⟨b, o, none⟩) (by omega) (by intro h; first | rfl | omega) (by omega) (by omega) W0 W0c.out W0d.out) (fun h k => ⟨k.1.trans h.1, k.2.trans h.2⟩) ?kb (Below.refl _ _) (fun _ => rfl)
    (fun pre W => Boxed W B 3 (.int .i64 (1 + hdL D 0 + frSum D 0 0 pre : Nat)) ∧ Below B w W) (fun _ _ _ => False)
    (OwnFrom.and (Own.from (boxed_own B 3 (fun pre => .int .i64 (1 + hdL D 0 + frSum D 0 0 pre : Nat))) _) (ownFrom_below (by rw [HBB.out]; exact Nat.le_refl _) (by rw [W0s.out]; omega)))
    (fun _ _ _ _ _ hs _ _ => hs) ⟨W0B.out, W0L.out⟩
    (fun x => { tmps := #[Value.slice (some ⟨b, o, none⟩) 0 (c), Value.int IntKind.i64 0, undef, undef, Value.int IntKind.i64 0, Value.pointer (some { block := B, off := 0 }), undef, undef, frV b o 0 x, Value.slice (some ⟨b, o, none⟩) 0 (c), Value.int IntKind.i64 0, Value.slice (some ⟨b, o, none⟩) 0 (c), Value.int IntKind.i64 0, Value.int IntKind.i64 0, Value.bool false, undef, undef, undef, undef, undef, undef, undef, undef, Value.slice (some ⟨b, o, none⟩) 0 (c), Value.int IntKind.i64 0, Value.slice (some ⟨b, o, none⟩) 0 (c), Value.func (Fn.func 48) #[] #[Value.pointer (some { block := B + 1, off := 0 }), Value.pointer (some { block := B + 1 + 1, off := 0 })], frV b o 0 x, undef, undef, undef, undef, undef], defers := [] }) ?assign ?body ?done ?stop
  case kb =>
    intro W l ob ob' hl _ _ _
    rw [W0s.out] at hl
    exact ⟨World.cell?_of_block (World.putObj_heap_other (by show B + 1 ≠ l; omega)), World.cell?_of_block (World.putObj_heap_other (by show B + 1 + 1 ≠ l; omega))⟩
  case assign =>
    intro l x W K hK
    gi_wp2
    exact hK
  case body =>
    rintro l pre x W ⟨hbox, hbel⟩ hlen
    exact absurd hlen (by simp [nfr])
  case done =>
    rintro D0 xs W hD rfl ⟨hbox, hbel⟩ hK
    have hcl := hbox.cell
    have HBX := (show Hid _ from hbox)
    have HBL := (show Hid _ from hbel)
    have HKK := (show Hid _ from hK)
    have HDD := (show Hid _ from hD)
    clear hbox hbel hK hD
    gi_wp2
    refine ⟨by simp, .inl ⟨_, _, rfl, run_takeDeferred HKK.out, ?_⟩⟩
    have eT : ((dln D 0 0 : Nat) : Int) = 1 + (hdL D 0 : Int) + (frSum D 0 0 (List.range (nfr (0))) : Int) := by
      rw [HT.out, ← HX.out]
      simp
    refine ⟨_, results_tmp rfl _ _ _, by rw [eT]; rfl, ?_⟩
    rw [HBB.out]
    exact HBL.out.trans (belowK_b (w := w) (by rw [HBB.out]; exact Nat.le_refl _) W D0 _ _ (by have := HDD.out; rw [W0s.out] at this; rw [HBB.out]; omega) HKK.out rfl rfl)
  case stop =>
    rintro D0 cc pre W _ _ h _
    exact h.elim

/-- differencedLen of any series. -/
theorem differencedLen_walk (a0 : Option Addr) (b o n c q : Nat) (D : Nat → Int) (w : World) (hn : n ≤ 65536) (hq : q ≤ 2) (hqn : q ≤ n) (hnc : n ≤ c) (hcm : c ≤ 9223372036854775807) (ha : a0 = some ⟨b, o, none⟩ ∨ (a0 = none ∧ n = 0 ∧ c = 0)) (HR : Row w b o n D) (HI : I64 n D) :
    Calls Ybad.prog 23 #[.slice a0 n c, .int .i64 q] w fun e w' => e = .returned (.int .i64 (dln D n q)) ∧ Below w.heap.size w w' := by
  rcases ha with rfl | ⟨rfl, rfl, rfl⟩
  · by_cases hn0 : 0 < n
    · exact differencedLen_some b o n c q D w hn hq hqn hn0 hnc hcm HR HI
    · obtain rfl : n = 0 := by omega
      obtain rfl : q = 0 := by omega
      exact differencedLen_empty b o c D w hcm
  · obtain rfl : q = 0 := by omega
    exact differencedLen_nil D w
end Go.Proofs.YbulkecgoDoor

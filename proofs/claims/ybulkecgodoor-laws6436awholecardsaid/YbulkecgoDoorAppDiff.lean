/-
  appendDifferenced.
-/
import Derived.Test.YbulkecgoDoorEnc
import Derived.Test.YbulkecgoDoorAppFrame
import Derived.Deep.RegionHeld3
namespace Go.Proofs.YbulkecgoDoor
open Go.RowKit Go.Shelf _root_.Go.Proofs.YbulkecgoDoor.Own
set_option linter.unusedVariables false
set_option maxRecDepth 100000

attribute [local go_sem] Oper.semAt_some

theorem bf_keeps {W W1 : World} {v v1 : Value} {bs ds : List Nat} (h : Bf W W1 v v1 ds) (ho : OwnV W 5 v (byts bs)) : KeepsOthers W W1 := by
  refine ⟨h.onl.size, fun k ob hk hc => ?_⟩
  have hlt := (Array.getElem?_eq_some_iff.1 hk).1
  rw [h.onl.block k hlt (fun e => ?_)]
  · exact hk
  · rcases ho.2 with ⟨rfl, _⟩ | ⟨g, cap, cur, rfl, _, hgb, _⟩
    · simp [Value.ownBlock] at e
    · obtain rfl : g = k := by simpa [Value.ownBlock] using e
      rw [hgb] at hk
      cases hk
      cases hc
theorem ap_from {w : World} {v sv : Value} {B S R : Nat} {f : List Nat → List Nat} (hR : w.heap.size ≤ R) : OwnFrom R (fun pre W => ∃ v', Ap w W v B (f pre) v' ∧ Boxed W S 24 sv ∧ Boxed W (S + 1) 3 (.int .i64 128)) := by
  rintro s W W' row ⟨v', hA, h1, h2⟩ hg hr
  have bx : ∀ {b t u}, Boxed W b t u → Boxed W' b t u := fun {b t u} h => h.kept hg (fun e => by obtain ⟨o, ho, hc⟩ := (hr b e.symm).2; rw [show W.heap[b]? = _ from h] at ho; cases ho; cases hc)
  refine ⟨v', ⟨⟨hA.buf.own.frame fun g hgo => ?_, ⟨hg.os.trans hA.buf.onl.os, hg.tape.trans hA.buf.onl.tape, hg.output.trans hA.buf.onl.output, Nat.le_trans hA.buf.onl.size hg.size, fun k hk hn => ?_⟩, hA.buf.blk⟩, bx hA.box, hA.ne⟩, bx h1, bx h2⟩
  · refine hg.block g (hA.buf.own.lt hgo) (fun e => ?_)
    obtain ⟨o, ho, hc⟩ := (hr g e.symm).2
    rcases hA.buf.own.2 with ⟨rfl, _⟩ | ⟨g', cap, cur, rfl, _, hgb, _⟩
    · simp [Value.ownBlock] at hgo
    · obtain rfl : g' = g := by simpa [Value.ownBlock] using hgo
      rw [hgb] at ho
      cases ho
      cases hc
  · refine (hg.block k (Nat.lt_of_lt_of_le hk hA.buf.onl.size) (fun e => ?_)).trans (hA.buf.onl.block k hk hn)
    have := (hr k e.symm).1
    omega

theorem ap_put {w W : World} {v v' : Value} {B : Nat} {ds : List Nat} (h : Ap w W v B ds v') {D0 : Nat} {o o' : Obj} (hD : w.heap.size ≤ D0) (ho : W.heap[D0]? = some o) (hc : o.isCells = false) : Bf w (W.putObj D0 o') v v' ds := by
  have hg := grownBy_putObj' W D0 o'
  refine ⟨h.buf.own.frame fun g hgo => hg.block g (h.buf.own.lt hgo) (fun e => ?_), ⟨hg.os.trans h.buf.onl.os, hg.tape.trans h.buf.onl.tape, hg.output.trans h.buf.onl.output, Nat.le_trans h.buf.onl.size hg.size, fun k hk hn => (hg.block k (Nat.lt_of_lt_of_le hk h.buf.onl.size) (fun e => ?_)).trans (h.buf.onl.block k hk hn)⟩, h.buf.blk⟩
  · obtain rfl : g = D0 := by simpa using e
    rcases h.buf.own.2 with ⟨rfl, _⟩ | ⟨g', cap, cur, rfl, _, hgb, _⟩
    · simp [Value.ownBlock] at hgo
    · obtain rfl : g' = g := by simpa [Value.ownBlock] using hgo
      rw [hgb] at ho
      cases ho
      cases hc
  · obtain rfl : k = D0 := by simpa using e
    omega

set_option maxHeartbeats 4000000 in
theorem appendDifferenced_some (w : World) (v : Value) (bs : List Nat) (b o n c q : Nat) (D : Nat → Int) (hn : n ≤ 65536) (hq : q ≤ 2) (hqn : q ≤ n) (hn0 : 0 < n) (hnc : n ≤ c) (hcm : c ≤ 9223372036854775807) (HR : Hid (Row w b o n D)) (HI : Hid (I64 n D)) (HB : Hid (OwnV w 5 v (byts bs))) (hbv : v.ownBlock ≠ some b) (hl : bs.length ≤ 10000000) :
    Calls Ybad.prog 44 #[v, .slice (some ⟨b, o, none⟩) n c, .int .i64 q] w fun e w' => ∃ v', e = .returned v' ∧ Bf w w' v v' (bs ++ encD D n q) := by
  have hn2 : (n : Int) ≤ 65536 := by omega
  have hbl : b < w.heap.size := World.block_lt_of_cell? w _ (HR.out 0 hn0)
  have hmx : Ybad.prog.follows .mixedOrders = true := by kernel_rfl
  have g1 : (q : Int) ≤ n := by omega
  have g2 : (q : Int) ≤ c := by omega
  have g3 : (n : Int) ≤ c := by omega
  have g4 : (q : Int) ≤ 2 := by omega
  have HBV := (show Hid _ from hbv)
  clear hbv
  obtain ⟨ao, l0, cap0, hv⟩ : ∃ ao l0 cap0, v = .slice ao l0 cap0 := by obtain ⟨ao, cap, e⟩ := HB.out.form'; exact ⟨ao, _, cap, e⟩
  subst hv
  refine (callsIn_wide (n := 6)).1 ?_
  refine callsIn_of_wp_marks Ybad.func44 rfl trivial ?_ rfl
  simp only [Ybad.ntmps44, List.size_toArray, List.length_cons, List.length_nil, Nat.reduceAdd, Nat.reduceSub, Array.replicate_succ, Array.replicate_zero, List.push_toArray, List.append_toArray, List.nil_append, List.cons_append]
  refine wpIn_wide.2 ?_
  have hA0 : Ap w (w.alloc (.cells #[.slice ao l0 cap0] 22)) (.slice ao l0 cap0) w.heap.size bs (.slice ao l0 cap0) := by
    refine ⟨(Bf.refl HB.out).later ((Below.refl _ w).alloc (Nat.le_refl _) _), heap_alloc_new w _, fun e => ?_⟩
    have := HB.out.lt e; omega
  have HA0 := (show Hid _ from hA0)
  have c0 := hA0.cell
  clear hA0
  go_wp2_with (at_builtin; go_loud (refine wpList_pushL (w := w.alloc (.cells #[.slice ao l0 cap0] 22)) rfl (.tmp 10) (.tmp 13) rfl (.slice ao l0 cap0) bs [q] 1 rfl (by decide) rfl HA0.out.buf.own ((Below.refl _ _).alloc (Nat.le_refl _) _) (w.heap.size + 1) rfl (by intro j hj; obtain rfl : j = 0 := (by omega); simp) (by omega) ?_); intro gg cap2 w2 HB2; have e0 := cell_of_row _ _ 0 _ _ _ (HA0.out.mid HB2.out); have f0 := frozen_of_row _ _ 0 _ _ (HA0.out.mid HB2.out))
  have hS := HA0.out.step HB2.out (Nat.le_refl _)
  have HS0 := (show Hid _ from hS)
  generalize (w2.setCell { block := w.heap.size, off := 0 } (Value.slice (some { block := gg, off := 0 }) (bs.length + 1) cap2)) = w3 at *
  clear hS e0 f0 c0 HA0 HB2
  have HBB : Hid (∃ B, w.heap.size = B) := ⟨_, rfl⟩
  obtain ⟨B, hB⟩ := HBB.out
  have HB0 := (show Hid _ from hB)
  rw [hB] at HS0 ⊢
  clear hB HBB
  generalize hv0 : Value.slice ao l0 cap0 = v at *
  have HV0 := (show Hid _ from hv0)
  clear hv0
  go_loopw [8, 19] (fun x8 x19 wr => ∃ j : Nat, j ≤ q ∧ x19 = .int .i64 j ∧ ∃ v', Ap w wr v B (bs ++ [q] ++ hdB D j) v') (fun _ i _ => q - (intOf i).toNat)
  case atStart => exact ⟨0, Nat.zero_le _, rfl, _, by rw [hdB, List.append_nil]; exact HS0.out⟩
  case round =>
    obtain ⟨j, hj, rfl, v', hA⟩ := hrel
    have HA := (show Hid _ from hA)
    have hc0 := hA.cell
    have hf0 := hA.free
    have hhl : (bs ++ [q] ++ hdB D j).length ≤ 10000100 := by
      have := hdL_le HI.out j (by omega)
      rw [List.length_append, List.length_append, hdB_len]; simp; omega
    obtain ⟨a1, l1, k1, hv1⟩ := hA.buf.form2
    subst hv1
    clear HS0
    by_cases hjq : j < q
    · have hjq' : (j : Int) < q := by omega
      have hjn : (j : Int) < n := by omega
      have hc := (hA.buf.row HR.out HBV.out) j (by omega)
      have KV := (show Hid _ from AppendVarint_walk wr wr _ _ (bs ++ [q] ++ hdB D j) (D j) (HI.out j (by omega)) (show Hid _ from Bf.refl hA.buf.own) (by omega))
      have HH : Hid (bs ++ [q] ++ hdB D j ++ uvB (zg (D j)) = bs ++ [q] ++ hdB D (j + 1)) := by show _ = _; rw [hdB]; simp only [List.append_assoc]
      rw [HH.out] at KV
      clear hA hhl
      go_wp2_with fail
      refine Calls.mono KV.out ?_
      rintro e w4 ⟨v4, rfl, hB4⟩
      obtain ⟨a4, l4, k4, hv4⟩ := hB4.form2
      subst hv4
      have e0 := cell_of_row _ _ 0 _ _ _ (HA.out.mid hB4)
      have f0 := frozen_of_row _ _ 0 _ _ (HA.out.mid hB4)
      have HS := (show Hid _ from HA.out.step hB4 (by rw [HB0.out]; exact Nat.le_refl _))
      clear hB4 KV
      go_wp2_with fail
      go_roundw
      case rel => exact ⟨j + 1, by omega, by go_num, _, HS.out⟩
      case measure => simp [intOf]; omega
    · obtain rfl : q = j := by omega
      have hjq' : ¬ (q : Int) < q := by omega
      clear hA
      by_cases hcq : c = q
      · obtain rfl : q = n := by omega
        obtain rfl : q = c := hcq.symm
        go_wp2_with fail
        refine Calls.mono (callsIn_wide.1 (chunk_in 6 _ _ _ _)) ?_
        rintro e w' ⟨rfl, hw'⟩
        go_wp2_with fail
        have hsv : ∃ sv, sv = Value.slice (some ⟨b, o, none⟩) 0 0 := ⟨_, rfl⟩
        obtain ⟨S, hS⟩ : ∃ S, wr.heap.size = S := ⟨_, rfl⟩
        have hw0 : Below wr.heap.size wr w' := by rw [hw']; exact ((Below.refl _ wr).alloc (Nat.le_refl _) _).alloc (by simp) _
        have hA0 := HA.out.later hw0
        have hx1 : Boxed w' S 24 (Value.slice (some ⟨b, o, none⟩) 0 0) := by rw [hw', ← hS]; exact (Boxed.new wr 24 _).alloc _
        have hx2 : Boxed w' (S + 1) 3 (.int .i64 128) := by
          have := Boxed.new (wr.alloc (.cells #[Value.slice (some ⟨b, o, none⟩) 0 0] 24)) 3 (.int .i64 128)
          rw [World.size_alloc, hS] at this
          rw [hw']; exact this
        have hsz : w'.heap.size = S + 2 := by rw [hw', ← hS]; simp
        have hwsz : w.heap.size ≤ S := by rw [← hS]; exact HA.out.buf.onl.size
        have hBS : B < S := by rw [← hS]; exact HA.out.lt
        have HI0 : Hid (∃ v', Ap w w' v B (bs ++ [q] ++ hdB D q ++ frsB D q q []) v' ∧ Boxed w' S 24 (Value.slice (some ⟨b, o, none⟩) 0 0) ∧ Boxed w' (S + 1) 3 (.int .i64 128)) := ⟨_, by rw [frsB, List.append_nil]; exact hA0, hx1, hx2⟩
        have W0c : Hid (w'.cell? ⟨S, 0, none⟩ = some (Value.slice (some ⟨b, o, none⟩) 0 0)) := hx1.cell
        have W0d : Hid (w'.cell? ⟨S + 1, 0, none⟩ = some (.int .i64 128)) := hx2.cell
        have HSZ := (show Hid _ from hsz)
        have HX := (show Hid _ from frsB_all (D := D) (n := q) (q := q))
        rw [← hw', hS]
        clear hw' hw0 hA0 hx1 hx2 hsz HA hc0 hf0 hhl
        generalize hWW : w' = W0 at *
        clear hWW
        refine (wpIn_wide (n := 6)).1 ?_
        refine wpIn_rangeFunc_ownF (n := 6) rfl (by omega) (gf := 48) (lb := #[.pointer (some ⟨S, 0, none⟩), .pointer (some ⟨S + 1, 0, none⟩)]) rfl trivial (enters_of Ybad.func48 (by kernel_rfl) rfl)
          (chunk_stops (6 - 1) (by omega) S (S + 1) b (o + q) 0 0 (some ⟨b, o, none⟩) (by omega) (by intro h; first | rfl | omega) (by omega) (by omega) W0 W0c.out W0d.out) (fun h k => ⟨k.1.trans h.1, k.2.trans h.2⟩) ?kb (Below.refl _ _) (fun _ => rfl)
          (fun pre W => ∃ v', Ap w W v B (bs ++ [q] ++ hdB D q ++ frsB D q q pre) v' ∧ Boxed W S 24 (Value.slice (some ⟨b, o, none⟩) 0 0) ∧ Boxed W (S + 1) 3 (.int .i64 128)) (fun _ _ _ => False)
          (ap_from (by rw [HSZ.out]; omega)) (fun _ _ _ _ _ hs _ _ => hs) HI0.out
          (fun x => { tmps := #[v, Value.slice (some { block := b, off := o }) q q, Value.int IntKind.i64 ↑q, Value.pointer (some { block := B, off := 0 }), undef, undef, Value.slice none 0 0, undef, u8, frV b (o + q) 0 x, v, Value.int IntKind.i64 ↑q, Value.int IntKind.u8 ↑q, Value.slice (some { block := B + 1, off := 0 }) 1 1, Value.slice (some { block := gg, off := 0 }) (bs.length + 1) cap2, Value.slice (some { block := b, off := o }) q q, Value.int IntKind.i64 ↑q, Value.slice (some { block := b, off := o }) q q, Value.int IntKind.i64 ↑q, Value.int IntKind.i64 ↑q, Value.bool false, u21, u22, u23, u24, u25, u26, Value.slice (some { block := b, off := o }) q q, Value.int IntKind.i64 ↑q, Value.slice (some { block := b, off := o }) 0 0, Value.func (Fn.func 48) #[] #[Value.pointer (some { block := S, off := 0 }), Value.pointer (some { block := S + 1, off := 0 })], frV b (o + q) 0 x, undef, undef, undef, undef], defers := [] }) ?assign ?body ?done ?stop
        case kb =>
          intro W l ob ob' hl _ _ _
          rw [HSZ.out] at hl
          exact ⟨World.cell?_of_block (World.putObj_heap_other (by show S ≠ l; omega)), World.cell?_of_block (World.putObj_heap_other (by show S + 1 ≠ l; omega))⟩
        case assign =>
          intro l x W K hK
          gi_wp2
          exact hK
        case body =>
          rintro l pre x W _ hlen
          exact absurd hlen (by simp [nfr])
        case done =>
          rintro D0 xs W hD rfl ⟨v', hA, hb1, hb2⟩ hK
          have hcl := hA.cell
          obtain ⟨a1, l1, k1, hv1⟩ := hA.buf.form2
          subst hv1
          have HA := (show Hid _ from hA)
          have HKK := (show Hid _ from hK)
          have HDD := (show Hid _ from hD)
          have HX1 := (show Hid _ from And.intro hb1 hb2)
          clear hA hK hD hb1 hb2
          go_wp2_with fail
          refine ⟨by simp, .inl ⟨_, _, rfl, run_takeDeferred HKK.out, ?_⟩⟩
          refine ⟨_, results_tmp rfl _ _ _, _, rfl, ?_⟩
          have hE : bs ++ encD D q q = bs ++ [q] ++ hdB D q ++ frsB D q q (List.range (nfr 0)) := by
            unfold encD
            have hx := HX.out
            rw [show q - q = 0 by omega] at hx
            rw [hx]; simp only [List.append_assoc]
          rw [hE]
          rw [HV0.out]
          exact ap_put HA.out (by have := HDD.out; rw [HSZ.out] at this; omega) HKK.out rfl
        case stop =>
          rintro D0 cc pre W _ _ h _
          exact h.elim
      · have hcq' : ¬ ((c : Int) - (q : Int) = 0) := by omega
        go_wp2_with fail
        refine Calls.mono (callsIn_wide.1 (chunk_in 6 _ _ _ _)) ?_
        rintro e w' ⟨rfl, hw'⟩
        go_wp2_with fail
        have hsv : ∃ sv, sv = Value.slice (some ⟨b, o + q, none⟩) (n - q) (c - q) := ⟨_, rfl⟩
        obtain ⟨S, hS⟩ : ∃ S, wr.heap.size = S := ⟨_, rfl⟩
        have hw0 : Below wr.heap.size wr w' := by rw [hw']; exact ((Below.refl _ wr).alloc (Nat.le_refl _) _).alloc (by simp) _
        have hA0 := HA.out.later hw0
        have hx1 : Boxed w' S 24 (Value.slice (some ⟨b, o + q, none⟩) (n - q) (c - q)) := by rw [hw', ← hS]; exact (Boxed.new wr 24 _).alloc _
        have hx2 : Boxed w' (S + 1) 3 (.int .i64 128) := by
          have := Boxed.new (wr.alloc (.cells #[Value.slice (some ⟨b, o + q, none⟩) (n - q) (c - q)] 24)) 3 (.int .i64 128)
          rw [World.size_alloc, hS] at this
          rw [hw']; exact this
        have hsz : w'.heap.size = S + 2 := by rw [hw', ← hS]; simp
        have hwsz : w.heap.size ≤ S := by rw [← hS]; exact HA.out.buf.onl.size
        have hBS : B < S := by rw [← hS]; exact HA.out.lt
        have HI0 : Hid (∃ v', Ap w w' v B (bs ++ [q] ++ hdB D q ++ frsB D n q []) v' ∧ Boxed w' S 24 (Value.slice (some ⟨b, o + q, none⟩) (n - q) (c - q)) ∧ Boxed w' (S + 1) 3 (.int .i64 128)) := ⟨_, by rw [frsB, List.append_nil]; exact hA0, hx1, hx2⟩
        have W0c : Hid (w'.cell? ⟨S, 0, none⟩ = some (Value.slice (some ⟨b, o + q, none⟩) (n - q) (c - q))) := hx1.cell
        have W0d : Hid (w'.cell? ⟨S + 1, 0, none⟩ = some (.int .i64 128)) := hx2.cell
        have HSZ := (show Hid _ from hsz)
        have HX := (show Hid _ from frsB_all (D := D) (n := n) (q := q))
        rw [← hw', hS]
        clear hw' hw0 hA0 hx1 hx2 hsz HA hc0 hf0 hhl
        generalize hWW : w' = W0 at *
        clear hWW
        refine (wpIn_wide (n := 6)).1 ?_
        refine wpIn_rangeFunc_ownF (n := 6) rfl (by omega) (gf := 48) (lb := #[.pointer (some ⟨S, 0, none⟩), .pointer (some ⟨S + 1, 0, none⟩)]) rfl trivial (enters_of Ybad.func48 (by kernel_rfl) rfl)
          (chunk_stops (6 - 1) (by omega) S (S + 1) b (o + q) (n - q) (c - q) (some ⟨b, o + q, none⟩) (by omega) (by intro h; first | rfl | omega) (by omega) (by omega) W0 W0c.out W0d.out) (fun h k => ⟨k.1.trans h.1, k.2.trans h.2⟩) ?kb (Below.refl _ _) (fun _ => rfl)
          (fun pre W => ∃ v', Ap w W v B (bs ++ [q] ++ hdB D q ++ frsB D n q pre) v' ∧ Boxed W S 24 (Value.slice (some ⟨b, o + q, none⟩) (n - q) (c - q)) ∧ Boxed W (S + 1) 3 (.int .i64 128)) (fun _ _ _ => False)
          (ap_from (by rw [HSZ.out]; omega)) (fun _ _ _ _ _ hs _ _ => hs) HI0.out
          (fun x => { tmps := #[v, Value.slice (some { block := b, off := o }) n c, Value.int IntKind.i64 ↑q, Value.pointer (some { block := B, off := 0 }), undef, undef, Value.slice none 0 0, undef, u8, frV b (o + q) (n - q) x, v, Value.int IntKind.i64 ↑q, Value.int IntKind.u8 ↑q, Value.slice (some { block := B + 1, off := 0 }) 1 1, Value.slice (some { block := gg, off := 0 }) (bs.length + 1) cap2, Value.slice (some { block := b, off := o }) n c, Value.int IntKind.i64 ↑q, Value.slice (some { block := b, off := o }) q c, Value.int IntKind.i64 ↑q, Value.int IntKind.i64 ↑q, Value.bool false, u21, u22, u23, u24, u25, u26, Value.slice (some { block := b, off := o }) n c, Value.int IntKind.i64 ↑q, Value.slice (some { block := b, off := o + q }) (n - q) (c - q), Value.func (Fn.func 48) #[] #[Value.pointer (some { block := S, off := 0 }), Value.pointer (some { block := S + 1, off := 0 })], frV b (o + q) (n - q) x, undef, undef, undef, undef], defers := [] }) ?assign ?body ?done ?stop
        case kb =>
          intro W l ob ob' hl _ _ _
          rw [HSZ.out] at hl
          exact ⟨World.cell?_of_block (World.putObj_heap_other (by show S ≠ l; omega)), World.cell?_of_block (World.putObj_heap_other (by show S + 1 ≠ l; omega))⟩
        case assign =>
          intro l x W K hK
          gi_wp2
          exact hK
        case body =>
          rintro l pre x W ⟨v', hA, hb1, hb2⟩ hlen
          have hnj : q < n := by unfold nfr at hlen; omega
          have hcb : 128 * cl (n - q) x < n - q := by unfold cl; omega
          obtain ⟨M, hM⟩ : ∃ M, M = min 128 (n - q - 128 * cl (n - q) x) := ⟨_, rfl⟩
          have hM1 : 1 ≤ M := by omega
          have hM2 : q + 128 * cl (n - q) x + M ≤ n := by omega
          have hRow0 := hA.buf.row HR.out HBV.out
          have hRow : Row W b (o + q + 128 * cl (n - q) x) M (sh D (q + 128 * cl (n - q) x)) := fun i hi => by
            have h1 := hRow0 (q + 128 * cl (n - q) x + i) (by omega)
            have e : o + q + 128 * cl (n - q) x + i = o + (q + 128 * cl (n - q) x + i) := by omega
            rw [e]; exact h1
          have hlen2 : pre.length < 600 := by unfold nfr at hlen; omega
          have hfl := frSum_le HI.out hnj pre
          have hdl := hdL_le HI.out q (by omega)
          have hhl : (bs ++ [q] ++ hdB D q ++ frsB D n q pre).length ≤ 20000000 := by
            rw [List.length_append, List.length_append, List.length_append, hdB_len, frsB_len]; simp; omega
          obtain ⟨a1, l1, k1, hv1⟩ := hA.buf.form2
          subst hv1
          have hne : (Value.slice a1 l1 k1).ownBlock ≠ some b := fun e => by
            rcases hA.buf.blk b e with e' | e'
            · exact HBV.out e'
            · omega
          have KF : Hid (CallsIn (Fence.wide.inRound l) (6 - 1 - 1 - 1) Ybad.prog 51 #[Value.slice a1 l1 k1, Value.slice (some ⟨b, o + q + 128 * cl (n - q) x, none⟩) M M] W fun e w' => ∃ v', e = .returned v' ∧ Bf W w' (Value.slice a1 l1 k1) v' (bs ++ [q] ++ hdB D q ++ frsB D n q pre ++ frB (sh D (q + 128 * cl (n - q) x)) M)) :=
            CallsIn.inRound l (callsIn_wide.2 (appendFrame_walk W (Value.slice a1 l1 k1) (bs ++ [q] ++ hdB D q ++ frsB D n q pre) b (o + q + 128 * cl (n - q) x) M M (sh D (q + 128 * cl (n - q) x)) hM1 (by omega) (Nat.le_refl _) (by omega) hRow (HI.out.sh (by omega)) hA.buf.own hne (by omega)))
          have hsn := frsB_snoc D n q pre x
          rw [← hM] at hsn
          have HE : Hid (bs ++ [q] ++ hdB D q ++ frsB D n q pre ++ frB (sh D (q + 128 * cl (n - q) x)) M = bs ++ [q] ++ hdB D q ++ frsB D n q (pre ++ [x])) := by show _ = _; rw [hsn]; simp only [List.append_assoc]
          rw [HE.out] at KF
          have eV : frV b (o + q) (n - q) x = Value.slice (some ⟨b, o + q + 128 * cl (n - q) x, none⟩) M M := by unfold frV; rw [← hM]
          rw [eV]
          have hcl := hA.cell
          have hfz := hA.free
          have HA := (show Hid _ from hA)
          have HX1 : Hid (Boxed W S 24 (Value.slice (some ⟨b, o + q, none⟩) (n - q) (c - q))) := hb1
          have HX2 : Hid (Boxed W (S + 1) 3 (.int .i64 128)) := hb2
          clear hA hb1 hb2 hsn hRow hRow0 hne hhl hfl hdl hM hcb hlen eV HE
          generalize hoo : o + q + 128 * cl (n - q) x = oo at *
          clear hoo
          gi_wp2
          refine ⟨trivial, ?_⟩
          refine CallsIn.mono KF.out ?_
          rintro e w4 ⟨v4, rfl, hB4⟩
          obtain ⟨a4, l4, k4, hv4⟩ := hB4.form2
          subst hv4
          have e0 := cell_of_row _ _ 0 _ _ _ (HA.out.mid hB4)
          have f0 := frozen_of_row _ _ 0 _ _ (HA.out.mid hB4)
          have HS := (show Hid _ from HA.out.step hB4 (by rw [HB0.out]; exact Nat.le_refl _))
          have HB4 := (show Hid _ from hB4)
          clear hB4 KF
          gi_wp2
          have n1 := HX1.out.not_row (by decide) HA.out.buf.own
          have n2 := HX2.out.not_row (by decide) HA.out.buf.own
          have z1 : Boxed w4 S 24 _ := (HB4.out.onl.block S HX1.out.lt (fun e => n1 e.symm)).trans HX1.out
          have z2 : Boxed w4 (S + 1) 3 _ := (HB4.out.onl.block (S + 1) HX2.out.lt (fun e => n2 e.symm)).trans HX2.out
          exact ⟨(bf_keeps HB4.out HA.out.buf.own).trans (KeepsOthers.setCell _ _ _), ⟨((z1.other (by omega) _).cell).trans HX1.out.cell.symm, ((z2.other (by omega) _).cell).trans HX2.out.cell.symm⟩, _, HS.out, z1.other (by omega) _, z2.other (by omega) _⟩
        case done =>
          rintro D0 xs W hD rfl ⟨v', hA, hb1, hb2⟩ hK
          have hcl := hA.cell
          obtain ⟨a1, l1, k1, hv1⟩ := hA.buf.form2
          subst hv1
          have HA := (show Hid _ from hA)
          have HKK := (show Hid _ from hK)
          have HDD := (show Hid _ from hD)
          have HX1 := (show Hid _ from And.intro hb1 hb2)
          clear hA hK hD hb1 hb2
          go_wp2_with fail
          refine ⟨by simp, .inl ⟨_, _, rfl, run_takeDeferred HKK.out, ?_⟩⟩
          refine ⟨_, results_tmp rfl _ _ _, _, rfl, ?_⟩
          have hE : bs ++ encD D n q = bs ++ [q] ++ hdB D q ++ frsB D n q (List.range (nfr (n - q))) := by
            unfold encD
            have hx := HX.out
            skip
            rw [hx]; simp only [List.append_assoc]
          rw [hE]
          rw [HV0.out]
          exact ap_put HA.out (by have := HDD.out; rw [HSZ.out] at this; omega) HKK.out rfl
        case stop =>
          rintro D0 cc pre W _ _ h _
          exact h.elim
set_option maxHeartbeats 4000000 in
theorem appendDifferenced_nil (w : World) (v : Value) (bs : List Nat) (D : Nat → Int) (HB : Hid (OwnV w 5 v (byts bs))) (hl : bs.length ≤ 10000000) :
    Calls Ybad.prog 44 #[v, .slice none 0 0, .int .i64 0] w fun e w' => ∃ v', e = .returned v' ∧ Bf w w' v v' (bs ++ encD D 0 0) := by
  have hmx : Ybad.prog.follows .mixedOrders = true := by kernel_rfl
  obtain ⟨ao, l0, cap0, hv⟩ : ∃ ao l0 cap0, v = .slice ao l0 cap0 := by obtain ⟨ao, cap, e⟩ := HB.out.form'; exact ⟨ao, _, cap, e⟩
  subst hv
  refine (callsIn_wide (n := 6)).1 ?_
  refine callsIn_of_wp_marks Ybad.func44 rfl trivial ?_ rfl
  simp only [Ybad.ntmps44, List.size_toArray, List.length_cons, List.length_nil, Nat.reduceAdd, Nat.reduceSub, Array.replicate_succ, Array.replicate_zero, List.push_toArray, List.append_toArray, List.nil_append, List.cons_append]
  refine wpIn_wide.2 ?_
  have hA0 : Ap w (w.alloc (.cells #[.slice ao l0 cap0] 22)) (.slice ao l0 cap0) w.heap.size bs (.slice ao l0 cap0) := by
    refine ⟨(Bf.refl HB.out).later ((Below.refl _ w).alloc (Nat.le_refl _) _), heap_alloc_new w _, fun e => ?_⟩
    have := HB.out.lt e; omega
  have HA0 := (show Hid _ from hA0)
  have c0 := hA0.cell
  clear hA0
  go_wp2_with (at_builtin; go_loud (refine wpList_pushL (w := w.alloc (.cells #[.slice ao l0 cap0] 22)) rfl (.tmp 10) (.tmp 13) rfl (.slice ao l0 cap0) bs [0] 1 rfl (by decide) rfl HA0.out.buf.own ((Below.refl _ _).alloc (Nat.le_refl _) _) (w.heap.size + 1) rfl (by intro j hj; obtain rfl : j = 0 := (by omega); simp) (by omega) ?_); intro gg cap2 w2 HB2; have e0 := cell_of_row _ _ 0 _ _ _ (HA0.out.mid HB2.out); have f0 := frozen_of_row _ _ 0 _ _ (HA0.out.mid HB2.out))
  have hS := HA0.out.step HB2.out (Nat.le_refl _)
  have HS0 := (show Hid _ from hS)
  generalize (w2.setCell { block := w.heap.size, off := 0 } (Value.slice (some { block := gg, off := 0 }) (bs.length + 1) cap2)) = w3 at *
  clear hS e0 f0 c0 HA0 HB2
  have HBB : Hid (∃ B, w.heap.size = B) := ⟨_, rfl⟩
  obtain ⟨B, hB⟩ := HBB.out
  have HB0 := (show Hid _ from hB)
  rw [hB] at HS0 ⊢
  clear hB HBB
  generalize hv0 : Value.slice ao l0 cap0 = v at *
  have HV0 := (show Hid _ from hv0)
  clear hv0
  have HA : Hid (Ap w w3 v B (bs ++ [0] ++ hdB D 0) (.slice (some ⟨gg, 0, none⟩) (bs.length + 1) cap2)) := by show Ap _ _ _ _ _ _; rw [hdB, List.append_nil]; exact HS0.out
  have hc0 := HA.out.cell
  have hf0 := HA.out.free
  have hhl : True := trivial
  clear HS0
  refine wp_loop_rounds 1 ?_
  rw [rounds_succ]
  generalize hwr : w3 = wr at *
  clear hwr
  go_wp2_with fail
  refine Calls.mono (callsIn_wide.1 (chunk_in 6 _ _ _ _)) ?_
  rintro e w' ⟨rfl, hw'⟩
  go_wp2_with fail
  have hsv : ∃ sv, sv = Value.slice none 0 0 := ⟨_, rfl⟩
  obtain ⟨S, hS⟩ : ∃ S, wr.heap.size = S := ⟨_, rfl⟩
  have hw0 : Below wr.heap.size wr w' := by rw [hw']; exact ((Below.refl _ wr).alloc (Nat.le_refl _) _).alloc (by simp) _
  have hA0 := HA.out.later hw0
  have hx1 : Boxed w' S 24 (Value.slice none 0 0) := by rw [hw', ← hS]; exact (Boxed.new wr 24 _).alloc _
  have hx2 : Boxed w' (S + 1) 3 (.int .i64 128) := by
    have := Boxed.new (wr.alloc (.cells #[Value.slice none 0 0] 24)) 3 (.int .i64 128)
    rw [World.size_alloc, hS] at this
    rw [hw']; exact this
  have hsz : w'.heap.size = S + 2 := by rw [hw', ← hS]; simp
  have hwsz : w.heap.size ≤ S := by rw [← hS]; exact HA.out.buf.onl.size
  have hBS : B < S := by rw [← hS]; exact HA.out.lt
  have HI0 : Hid (∃ v', Ap w w' v B (bs ++ [0] ++ hdB D 0 ++ frsB D 0 0 []) v' ∧ Boxed w' S 24 (Value.slice none 0 0) ∧ Boxed w' (S + 1) 3 (.int .i64 128)) := ⟨_, by rw [frsB, List.append_nil]; exact hA0, hx1, hx2⟩
  have W0c : Hid (w'.cell? ⟨S, 0, none⟩ = some (Value.slice none 0 0)) := hx1.cell
  have W0d : Hid (w'.cell? ⟨S + 1, 0, none⟩ = some (.int .i64 128)) := hx2.cell
  have HSZ := (show Hid _ from hsz)
  have HX := (show Hid _ from frsB_all (D := D) (n := 0) (q := 0))
  rw [← hw', hS]
  clear hw' hw0 hA0 hx1 hx2 hsz HA hc0 hf0 hhl
  generalize hWW : w' = W0 at *
  clear hWW
  refine (wpIn_wide (n := 6)).1 ?_
  refine wpIn_rangeFunc_ownF (n := 6) rfl (by omega) (gf := 48) (lb := #[.pointer (some ⟨S, 0, none⟩), .pointer (some ⟨S + 1, 0, none⟩)]) rfl trivial (enters_of Ybad.func48 (by kernel_rfl) rfl)
    (chunk_stops (6 - 1) (by omega) S (S + 1) 0 0 0 0 none (by omega) (by intro h; first | rfl | omega) (by omega) (by omega) W0 W0c.out W0d.out) (fun h k => ⟨k.1.trans h.1, k.2.trans h.2⟩) ?kb (Below.refl _ _) (fun _ => rfl)
    (fun pre W => ∃ v', Ap w W v B (bs ++ [0] ++ hdB D 0 ++ frsB D 0 0 pre) v' ∧ Boxed W S 24 (Value.slice none 0 0) ∧ Boxed W (S + 1) 3 (.int .i64 128)) (fun _ _ _ => False)
    (ap_from (by rw [HSZ.out]; omega)) (fun _ _ _ _ _ hs _ _ => hs) HI0.out
    (fun x => { tmps := #[v, Value.slice none 0 0, Value.int IntKind.i64 0, Value.pointer (some { block := B, off := 0 }), undef, undef, Value.slice none 0 0, undef, undef, frV 0 0 0 x, v, Value.int IntKind.i64 0, Value.int IntKind.u8 0, Value.slice (some { block := B + 1, off := 0 }) 1 1, Value.slice (some { block := gg, off := 0 }) (bs.length + 1) cap2, Value.slice none 0 0, Value.int IntKind.i64 0, Value.slice none 0 0, Value.int IntKind.i64 0, Value.int IntKind.i64 0, Value.bool false, undef, undef, undef, undef, undef, undef, Value.slice none 0 0, Value.int IntKind.i64 0, Value.slice none 0 0, Value.func (Fn.func 48) #[] #[Value.pointer (some { block := S, off := 0 }), Value.pointer (some { block := S + 1, off := 0 })], frV 0 0 0 x, undef, undef, undef, undef], defers := [] }) ?assign ?body ?done ?stop
  case kb =>
    intro W l ob ob' hl _ _ _
    rw [HSZ.out] at hl
    exact ⟨World.cell?_of_block (World.putObj_heap_other (by show S ≠ l; omega)), World.cell?_of_block (World.putObj_heap_other (by show S + 1 ≠ l; omega))⟩
  case assign =>
    intro l x W K hK
    gi_wp2
    exact hK
  case body =>
    rintro l pre x W _ hlen
    exact absurd hlen (by simp [nfr])
  case done =>
    rintro D0 xs W hD rfl ⟨v', hA, hb1, hb2⟩ hK
    have hcl := hA.cell
    obtain ⟨a1, l1, k1, hv1⟩ := hA.buf.form2
    subst hv1
    have HA := (show Hid _ from hA)
    have HKK := (show Hid _ from hK)
    have HDD := (show Hid _ from hD)
    have HX1 := (show Hid _ from And.intro hb1 hb2)
    clear hA hK hD hb1 hb2
    go_wp2_with fail
    refine ⟨by simp, .inl ⟨_, _, rfl, run_takeDeferred HKK.out, ?_⟩⟩
    refine ⟨_, results_tmp rfl _ _ _, _, rfl, ?_⟩
    have hE : bs ++ encD D 0 0 = bs ++ [0] ++ hdB D 0 ++ frsB D 0 0 (List.range (nfr 0)) := by
      unfold encD
      have hx := HX.out
      skip
      rw [hx]; simp only [List.append_assoc]
    rw [hE]
    rw [HV0.out]
    exact ap_put HA.out (by have := HDD.out; rw [HSZ.out] at this; omega) HKK.out rfl
  case stop =>
    rintro D0 cc pre W _ _ h _
    exact h.elim
end Go.Proofs.YbulkecgoDoor

/-
  appendDifferenced on a full slice: what was handed stays as it was.
-/
import Derived.Test.YbulkecgoDoorAppDiff
import Derived.Test.YbulkecgoDoorAppFrame
import Derived.Deep.RegionHeld3
namespace Go.Proofs.YbulkecgoDoor
open Go.RowKit Go.Shelf _root_.Go.Proofs.YbulkecgoDoor.Own
set_option linter.unusedVariables false
set_option maxRecDepth 100000

attribute [local go_sem] Oper.semAt_some

theorem cell_later' {w w' : World} (hb : Below w.heap.size w w') {a : Addr} {v : Value} (h : w.cell? a = some v) : w'.cell? a = some v := (hb.cell (World.block_lt_of_cell? w _ h)).trans h

/-- append of one byte to a full slice: a new row; all else as it was. -/
theorem wpList_pushF {X : World} {ops : Array Oper} {rest : List Oper} {o : Oper} {a : Act} {Q : Exit → Act → World → Prop} (hgd : o.guard = none) (s x : Operand)
    (ho : o.op = .call { callee := .builtin .append, args := #[s, x], argTypes := #[22, 22] })
    (C l0 : Nat) (bs : List Nat) (b : Nat) (hbs : bs.length = l0) (hs : a.eval s = .slice (some ⟨C, 0, none⟩) l0 l0)
    (hc : ∀ j, j < l0 → X.cell? ⟨C, j, none⟩ = some (.int .u8 ((bs.getD j 0 : Nat) : Int))) (gq : Nat) (hx : a.eval x = .slice (some ⟨gq, 0, none⟩) 1 1) (hxc : X.cell? ⟨gq, 0, none⟩ = some (.int .u8 (b : Int))) (hl : l0 ≤ 2000000000)
    (hK : ∀ g cap w', Hid (OwnV w' 5 (.slice (some ⟨g, 0, none⟩) (l0 + 1) cap) (byts (bs ++ [b]))) → Hid (Below X.heap.size X w') → Hid (X.heap.size ≤ g) → wpList Ybad.prog ops Q rest (a.put o.dst (.slice (some ⟨g, 0, none⟩) (l0 + 1) cap)) w') :
    wpList Ybad.prog ops Q (o :: rest) a X := by
  obtain ⟨i, h1, h2, h3, h4⟩ := info_parts info5
  have hlen : (byts bs).length = l0 := by rw [byts_len, hbs]
  refine wpList_append_grows X hgd s x 22 ho 5 i (.int .u8 0) 1 1 Ybad.underlying22 h1 h2 h3 h4 rfl (by decide) (some ⟨C, 0, none⟩) l0 l0 (byts bs) hs (fun h => by cases h) (by omega) ?_ ⟨gq, 0, none⟩ 1 1 [.int .u8 (b : Int)] hx rfl ?_ (by intro q hq; simp at hq; subst hq; rfl) (by omega) (by unfold maxLen; omega) (by omega) ?_
  · intro ad hd j u hu
    cases hd
    have hj : j < l0 := by have := (List.getElem?_eq_some_iff.1 hu).1; omega
    have e : u = .int .u8 ((bs.getD j 0 : Nat) : Int) := by
      have : (byts bs)[j]? = some (.int .u8 ((bs.getD j 0 : Nat) : Int)) := by simp [byts, show j < bs.length by omega]
      exact Option.some.inj (hu.symm.trans this)
    rw [e, Go.WideShapes.add_plain, Nat.zero_add]
    exact hc j hj
  · intro j u hu
    match j, hu with
    | 0, hu => simp at hu; subst hu; rw [Go.WideShapes.add_plain]; exact hxc
    | j + 1, hu => simp at hu
  · intro v' w' hr hg
    have hb : Below X.heap.size X w' := ⟨hg.os, hg.tape, hg.output, hg.size, fun k hk => hg.block k hk (by simp)⟩
    have e9 : byts bs ++ [Value.int .u8 (b : Int)] = byts (bs ++ [b]) := by rw [byts_app]; rfl
    rw [e9] at hr
    obtain ⟨r1, r2⟩ := hr
    rcases r2 with ⟨_, hz⟩ | ⟨g, cap, cur, rfl, hgb, r⟩
    · omega
    · refine hK g cap w' ⟨?_, .inr ⟨g, cap, cur, ?_, Nat.zero_le _, ?_⟩⟩ hb hgb
      · rw [byts_len]; simp
      · rw [byts_len]; simp [hbs]
      · rw [byts_len]; simp only [List.length_append, hbs]; exact r
theorem ap_first {w w2 : World} {x v1 : Value} {o2 : Obj} {ds : List Nat} (ho : OwnV w2 5 v1 (byts ds)) (hb : Below ((w.alloc (.cells #[x] 22)).alloc o2).heap.size ((w.alloc (.cells #[x] 22)).alloc o2) w2) (hg : ∀ g, v1.ownBlock = some g → ((w.alloc (.cells #[x] 22)).alloc o2).heap.size ≤ g) :
    Ap w (w2.setCell ⟨w.heap.size, 0, none⟩ v1) (.slice none 0 0) w.heap.size ds v1 := by
  have h0 : Below w.heap.size w ((w.alloc (.cells #[x] 22)).alloc o2) := ((Below.refl _ w).alloc (Nat.le_refl _) _).alloc (by simp) _
  have hx : ((w.alloc (.cells #[x] 22)).alloc o2).heap[w.heap.size]? = some (.cells #[x] 22 (0, 0)) := (Below.heap_alloc _ _ _ (by simp)).trans (heap_alloc_new w _)
  have hsz : ((w.alloc (.cells #[x] 22)).alloc o2).heap.size = w.heap.size + 2 := by simp
  have h2 : w2.heap[w.heap.size]? = some (.cells #[x] 22 (0, 0)) := (hb.block _ (by omega)).trans hx
  have hbw : Below w.heap.size w w2 := h0.trans (hb.mono (by omega))
  have hne : v1.ownBlock ≠ some w.heap.size := fun e => by have := hg _ e; omega
  have hBf : Bf w w2 (.slice none 0 0) v1 ds := ⟨ho, ⟨hbw.os, hbw.tape, hbw.output, hbw.size, fun k hk _ => hbw.block k hk⟩, fun g e => .inr (by have := hg g e; omega)⟩
  exact ⟨⟨hBf.own.frame fun g e => Below.heap_setCell _ _ _ _ (fun e' => hne (by subst e'; exact e)), hBf.onl.setCell _ _ (fun hlt => absurd hlt (Nat.lt_irrefl _)), hBf.blk⟩, heap_setCell_same w2 _ 0 _ 22 v1 h2, hne⟩

set_option maxHeartbeats 4000000 in
theorem appendDifferenced_someF (w : World) (C l0 : Nat) (bs : List Nat) (hbsl : bs.length = l0) (b o n c q : Nat) (D : Nat → Int) (hn : n ≤ 65536) (hq : q ≤ 2) (hqn : q ≤ n) (hn0 : 0 < n) (hnc : n ≤ c) (hcm : c ≤ 9223372036854775807) (HR : Hid (Row w b o n D)) (HI : Hid (I64 n D)) (HB : Hid (∀ j, j < l0 → w.cell? ⟨C, j, none⟩ = some (.int .u8 ((bs.getD j 0 : Nat) : Int)))) (hl : bs.length ≤ 10000000) :
    Calls Ybad.prog 44 #[.slice (some ⟨C, 0, none⟩) l0 l0, .slice (some ⟨b, o, none⟩) n c, .int .i64 q] w fun e w' => ∃ v', e = .returned v' ∧ Bf w w' (.slice none 0 0) v' (bs ++ encD D n q) := by
  have hn2 : (n : Int) ≤ 65536 := by omega
  have hbl : b < w.heap.size := World.block_lt_of_cell? w _ (HR.out 0 hn0)
  have hmx : Ybad.prog.follows .mixedOrders = true := by kernel_rfl
  have g1 : (q : Int) ≤ n := by omega
  have g2 : (q : Int) ≤ c := by omega
  have g3 : (n : Int) ≤ c := by omega
  have g4 : (q : Int) ≤ 2 := by omega
  refine (callsIn_wide (n := 6)).1 ?_
  refine callsIn_of_wp_marks Ybad.func44 rfl trivial ?_ rfl
  simp only [Ybad.ntmps44, List.size_toArray, List.length_cons, List.length_nil, Nat.reduceAdd, Nat.reduceSub, Array.replicate_succ, Array.replicate_zero, List.push_toArray, List.append_toArray, List.nil_append, List.cons_append]
  refine wpIn_wide.2 ?_
  have hcc : ∀ j, j < l0 → ((w.alloc (.cells #[.slice (some ⟨C, 0, none⟩) l0 l0] 22)).alloc (.cells #[.int .u8 ((q : Nat) : Int)] 5)).cell? ⟨C, j, none⟩ = some (.int .u8 ((bs.getD j 0 : Nat) : Int)) := fun j hj => cell_later' (((Below.refl _ w).alloc (Nat.le_refl _) _).alloc (by simp) _) (HB.out j hj)
  have HCC := (show Hid _ from hcc)
  have hx0 := heap_alloc_new w (.cells #[.slice (some ⟨C, 0, none⟩) l0 l0] 22)
  have c0 : (w.alloc (.cells #[.slice (some ⟨C, 0, none⟩) l0 l0] 22)).cell? ⟨w.heap.size, 0, none⟩ = some (.slice (some ⟨C, 0, none⟩) l0 l0) := by rw [cell_of_row _ _ 0 _ _ _ hx0]; rfl
  have HXC : Hid (((w.alloc (.cells #[.slice (some ⟨C, 0, none⟩) l0 l0] 22)).alloc (.cells #[.int .u8 ((q : Nat) : Int)] 5)).cell? ⟨w.heap.size, 0, none⟩ = some (.slice (some ⟨C, 0, none⟩) l0 l0)) := cell_later' ((Below.refl _ _).alloc (Nat.le_refl _) _) c0
  have HXF : Hid (((w.alloc (.cells #[.slice (some ⟨C, 0, none⟩) l0 l0] 22)).alloc (.cells #[.int .u8 ((q : Nat) : Int)] 5)).frozen? ⟨w.heap.size, 0, none⟩ = false) := frozen_of_row _ _ 0 _ _ ((Below.heap_alloc _ _ _ (by simp)).trans hx0)
  clear hcc hx0
  go_wp2_with (at_builtin; go_loud (refine wpList_pushF rfl (.tmp 10) (.tmp 13) rfl C l0 bs q hbsl rfl HCC.out (w.heap.size + 1) rfl (by simp) (by omega) ?_); intro gg cap2 w2 HO2 HL2 HG2; have e0 := cell_later' HL2.out HXC.out; have f0 := (HL2.out.frozen (p := ⟨w.heap.size, 0, none⟩) (by simp; omega)).trans HXF.out)
  have HS0 := (show Hid _ from ap_first (v1 := .slice (some ⟨gg, 0, none⟩) (l0 + 1) cap2) HO2.out HL2.out (fun g e => by obtain rfl : gg = g := (by simpa [Value.ownBlock] using e); exact HG2.out))
  generalize (w2.setCell { block := w.heap.size, off := 0 } (Value.slice (some { block := gg, off := 0 }) (l0 + 1) cap2)) = w3 at *
  clear e0 f0 c0 HO2 HL2 HG2 HCC HXC HXF
  obtain ⟨nv, hnv⟩ : ∃ nv, nv = Value.slice none 0 0 := ⟨_, rfl⟩
  have HNV := (show Hid _ from hnv)
  rw [← hnv] at HS0
  clear hnv
  have HBV : Hid (nv.ownBlock ≠ some b) := by show _ ≠ _; rw [HNV.out]; simp [Value.ownBlock]
  have HBB : Hid (∃ B, w.heap.size = B) := ⟨_, rfl⟩
  obtain ⟨B, hB⟩ := HBB.out
  have HB0 := (show Hid _ from hB)
  rw [hB] at HS0 ⊢
  clear hB HBB
  generalize hv0 : Value.slice (some ⟨C, 0, none⟩) l0 l0 = v at *
  clear hv0
  go_loopw [8, 19] (fun x8 x19 wr => ∃ j : Nat, j ≤ q ∧ x19 = .int .i64 j ∧ ∃ v', Ap w wr nv B (bs ++ [q] ++ hdB D j) v') (fun _ i _ => q - (intOf i).toNat)
  case atStart => exact ⟨0, Nat.zero_le _, rfl, _, by rw [hdB, List.append_nil]; exact HS0.out⟩
  case round =>
    obtain ⟨j, hj, rfl, v', hA⟩ := hrel
    have HA := (show Hid _ from hA)
    have hc0 := hA.cell
    have hf0 := hA.free
    have hhl : (bs ++ [q] ++ hdB D j).length ≤ 10000100 := by
      have := hdL_le HI.out j (by omega)
      rw [List.length_append, List.length_append, hdB_len]; simp; omega
    obtain ⟨a1, l1, k1, hv1⟩ := hA.buf.form2
    subst hv1
    clear HS0
    by_cases hjq : j < q
    · have hjq' : (j : Int) < q := by omega
      have hjn : (j : Int) < n := by omega
      have hc := (hA.buf.row HR.out HBV.out) j (by omega)
      have KV := (show Hid _ from AppendVarint_walk wr wr _ _ (bs ++ [q] ++ hdB D j) (D j) (HI.out j (by omega)) (show Hid _ from Bf.refl hA.buf.own) (by omega))
      have HH : Hid (bs ++ [q] ++ hdB D j ++ uvB (zg (D j)) = bs ++ [q] ++ hdB D (j + 1)) := by show _ = _; rw [hdB]; simp only [List.append_assoc]
      rw [HH.out] at KV
      clear hA hhl
      go_wp2_with fail
      refine Calls.mono KV.out ?_
      rintro e w4 ⟨v4, rfl, hB4⟩
      obtain ⟨a4, l4, k4, hv4⟩ := hB4.form2
      subst hv4
      have e0 := cell_of_row _ _ 0 _ _ _ (HA.out.mid hB4)
      have f0 := frozen_of_row _ _ 0 _ _ (HA.out.mid hB4)
      have HS := (show Hid _ from HA.out.step hB4 (by rw [HB0.out]; exact Nat.le_refl _))
      clear hB4 KV
      go_wp2_with fail
      go_roundw
      case rel => exact ⟨j + 1, by omega, by go_num, _, HS.out⟩
      case measure => simp [intOf]; omega
    · obtain rfl : q = j := by omega
      have hjq' : ¬ (q : Int) < q := by omega
      clear hA
      by_cases hcq : c = q
      · obtain rfl : q = n := by omega
        obtain rfl : q = c := hcq.symm
        go_wp2_with fail
        refine Calls.mono (callsIn_wide.1 (chunk_in 6 _ _ _ _)) ?_
        rintro e w' ⟨rfl, hw'⟩
        go_wp2_with fail
        have hsv : ∃ sv, sv = Value.slice (some ⟨b, o, none⟩) 0 0 := ⟨_, rfl⟩
        obtain ⟨S, hS⟩ : ∃ S, wr.heap.size = S := ⟨_, rfl⟩
        have hw0 : Below wr.heap.size wr w' := by rw [hw']; exact ((Below.refl _ wr).alloc (Nat.le_refl _) _).alloc (by simp) _
        have hA0 := HA.out.later hw0
        have hx1 : Boxed w' S 24 (Value.slice (some ⟨b, o, none⟩) 0 0) := by rw [hw', ← hS]; exact (Boxed.new wr 24 _).alloc _
        have hx2 : Boxed w' (S + 1) 3 (.int .i64 128) := by
          have := Boxed.new (wr.alloc (.cells #[Value.slice (some ⟨b, o, none⟩) 0 0] 24)) 3 (.int .i64 128)
          rw [World.size_alloc, hS] at this
          rw [hw']; exact this
        have hsz : w'.heap.size = S + 2 := by rw [hw', ← hS]; simp
        have hwsz : w.heap.size ≤ S := by rw [← hS]; exact HA.out.buf.onl.size
        have hBS : B < S := by rw [← hS]; exact HA.out.lt
        have HI0 : Hid (∃ v', Ap w w' nv B (bs ++ [q] ++ hdB D q ++ frsB D q q []) v' ∧ Boxed w' S 24 (Value.slice (some ⟨b, o, none⟩) 0 0) ∧ Boxed w' (S + 1) 3 (.int .i64 128)) := ⟨_, by rw [frsB, List.append_nil]; exact hA0, hx1, hx2⟩
        have W0c : Hid (w'.cell? ⟨S, 0, none⟩ = some (Value.slice (some ⟨b, o, none⟩) 0 0)) := hx1.cell
        have W0d : Hid (w'.cell? ⟨S + 1, 0, none⟩ = some (.int .i64 128)) := hx2.cell
        have HSZ := (show Hid _ from hsz)
        have HX := (show Hid _ from frsB_all (D := D) (n := q) (q := q))
        rw [← hw', hS]
        clear hw' hw0 hA0 hx1 hx2 hsz HA hc0 hf0 hhl
        generalize hWW : w' = W0 at *
        clear hWW
        refine (wpIn_wide (n := 6)).1 ?_
        refine wpIn_rangeFunc_ownF (n := 6) rfl (by omega) (gf := 48) (lb := #[.pointer (some ⟨S, 0, none⟩), .pointer (some ⟨S + 1, 0, none⟩)]) rfl trivial (enters_of Ybad.func48 (by kernel_rfl) rfl)
          (chunk_stops (6 - 1) (by omega) S (S + 1) b (o + q) 0 0 (some ⟨b, o, none⟩) (by omega) (by intro h; first | rfl | omega) (by omega) (by omega) W0 W0c.out W0d.out) (fun h k => ⟨k.1.trans h.1, k.2.trans h.2⟩) ?kb (Below.refl _ _) (fun _ => rfl)
          (fun pre W => ∃ v', Ap w W nv B (bs ++ [q] ++ hdB D q ++ frsB D q q pre) v' ∧ Boxed W S 24 (Value.slice (some ⟨b, o, none⟩) 0 0) ∧ Boxed W (S + 1) 3 (.int .i64 128)) (fun _ _ _ => False)
          (ap_from (by rw [HSZ.out]; omega)) (fun _ _ _ _ _ hs _ _ => hs) HI0.out
          (fun x => { tmps := #[v, Value.slice (some { block := b, off := o }) q q, Value.int IntKind.i64 ↑q, Value.pointer (some { block := B, off := 0 }), undef, undef, Value.slice none 0 0, undef, u8, frV b (o + q) 0 x, v, Value.int IntKind.i64 ↑q, Value.int IntKind.u8 ↑q, Value.slice (some { block := B + 1, off := 0 }) 1 1, Value.slice (some { block := gg, off := 0 }) (l0 + 1) cap2, Value.slice (some { block := b, off := o }) q q, Value.int IntKind.i64 ↑q, Value.slice (some { block := b, off := o }) q q, Value.int IntKind.i64 ↑q, Value.int IntKind.i64 ↑q, Value.bool false, u21, u22, u23, u24, u25, u26, Value.slice (some { block := b, off := o }) q q, Value.int IntKind.i64 ↑q, Value.slice (some { block := b, off := o }) 0 0, Value.func (Fn.func 48) #[] #[Value.pointer (some { block := S, off := 0 }), Value.pointer (some { block := S + 1, off := 0 })], frV b (o + q) 0 x, undef, undef, undef, undef], defers := [] }) ?assign ?body ?done ?stop
        case kb =>
          intro W l ob ob' hl _ _ _
          rw [HSZ.out] at hl
          exact ⟨World.cell?_of_block (World.putObj_heap_other (by show S ≠ l; omega)), World.cell?_of_block (World.putObj_heap_other (by show S + 1 ≠ l; omega))⟩
        case assign =>
          intro l x W K hK
          gi_wp2
          exact hK
        case body =>
          rintro l pre x W _ hlen
          exact absurd hlen (by simp [nfr])
        case done =>
          rintro D0 xs W hD rfl ⟨v', hA, hb1, hb2⟩ hK
          have hcl := hA.cell
          obtain ⟨a1, l1, k1, hv1⟩ := hA.buf.form2
          subst hv1
          have HA := (show Hid _ from hA)
          have HKK := (show Hid _ from hK)
          have HDD := (show Hid _ from hD)
          have HX1 := (show Hid _ from And.intro hb1 hb2)
          clear hA hK hD hb1 hb2
          go_wp2_with fail
          refine ⟨by simp, .inl ⟨_, _, rfl, run_takeDeferred HKK.out, ?_⟩⟩
          refine ⟨_, results_tmp rfl _ _ _, _, rfl, ?_⟩
          have hE : bs ++ encD D q q = bs ++ [q] ++ hdB D q ++ frsB D q q (List.range (nfr 0)) := by
            unfold encD
            have hx := HX.out
            rw [show q - q = 0 by omega] at hx
            rw [hx]; simp only [List.append_assoc]
          rw [hE]
          have hfin := ap_put (o' := Obj.deferred none) HA.out (by have := HDD.out; rw [HSZ.out] at this; omega) HKK.out rfl
          rw [HNV.out] at hfin
          exact hfin
        case stop =>
          rintro D0 cc pre W _ _ h _
          exact h.elim
      · have hcq' : ¬ ((c : Int) - (q : Int) = 0) := by omega
        go_wp2_with fail
        refine Calls.mono (callsIn_wide.1 (chunk_in 6 _ _ _ _)) ?_
        rintro e w' ⟨rfl, hw'⟩
        go_wp2_with fail
        have hsv : ∃ sv, sv = Value.slice (some ⟨b, o + q, none⟩) (n - q) (c - q) := ⟨_, rfl⟩
        obtain ⟨S, hS⟩ : ∃ S, wr.heap.size = S := ⟨_, rfl⟩
        have hw0 : Below wr.heap.size wr w' := by rw [hw']; exact ((Below.refl _ wr).alloc (Nat.le_refl _) _).alloc (by simp) _
        have hA0 := HA.out.later hw0
        have hx1 : Boxed w' S 24 (Value.slice (some ⟨b, o + q, none⟩) (n - q) (c - q)) := by rw [hw', ← hS]; exact (Boxed.new wr 24 _).alloc _
        have hx2 : Boxed w' (S + 1) 3 (.int .i64 128) := by
          have := Boxed.new (wr.alloc (.cells #[Value.slice (some ⟨b, o + q, none⟩) (n - q) (c - q)] 24)) 3 (.int .i64 128)
          rw [World.size_alloc, hS] at this
          rw [hw']; exact this
        have hsz : w'.heap.size = S + 2 := by rw [hw', ← hS]; simp
        have hwsz : w.heap.size ≤ S := by rw [← hS]; exact HA.out.buf.onl.size
        have hBS : B < S := by rw [← hS]; exact HA.out.lt
        have HI0 : Hid (∃ v', Ap w w' nv B (bs ++ [q] ++ hdB D q ++ frsB D n q []) v' ∧ Boxed w' S 24 (Value.slice (some ⟨b, o + q, none⟩) (n - q) (c - q)) ∧ Boxed w' (S + 1) 3 (.int .i64 128)) := ⟨_, by rw [frsB, List.append_nil]; exact hA0, hx1, hx2⟩
        have W0c : Hid (w'.cell? ⟨S, 0, none⟩ = some (Value.slice (some ⟨b, o + q, none⟩) (n - q) (c - q))) := hx1.cell
        have W0d : Hid (w'.cell? ⟨S + 1, 0, none⟩ = some (.int .i64 128)) := hx2.cell
        have HSZ := (show Hid _ from hsz)
        have HX := (show Hid _ from frsB_all (D := D) (n := n) (q := q))
        rw [← hw', hS]
        clear hw' hw0 hA0 hx1 hx2 hsz HA hc0 hf0 hhl
        generalize hWW : w' = W0 at *
        clear hWW
        refine (wpIn_wide (n := 6)).1 ?_
        refine wpIn_rangeFunc_ownF (n := 6) rfl (by omega) (gf := 48) (lb := #[.pointer (some ⟨S, 0, none⟩), .pointer (some ⟨S + 1, 0, none⟩)]) rfl trivial (enters_of Ybad.func48 (by kernel_rfl) rfl)
          (chunk_stops (6 - 1) (by omega) S (S + 1) b (o + q) (n - q) (c - q) (some ⟨b, o + q, none⟩) (by omega) (by intro h; first | rfl | omega) (by omega) (by omega) W0 W0c.out W0d.out) (fun h k => ⟨k.1.trans h.1, k.2.trans h.2⟩) ?kb (Below.refl _ _) (fun _ => rfl)
          (fun pre W => ∃ v', Ap w W nv B (bs ++ [q] ++ hdB D q ++ frsB D n q pre) v' ∧ Boxed W S 24 (Value.slice (some ⟨b, o + q, none⟩) (n - q) (c - q)) ∧ Boxed W (S + 1) 3 (.int .i64 128)) (fun _ _ _ => False)
          (ap_from (by rw [HSZ.out]; omega)) (fun _ _ _ _ _ hs _ _ => hs) HI0.out
          (fun x => { tmps := #[v, Value.slice (some { block := b, off := o }) n c, Value.int IntKind.i64 ↑q, Value.pointer (some { block := B, off := 0 }), undef, undef, Value.slice none 0 0, undef, u8, frV b (o + q) (n - q) x, v, Value.int IntKind.i64 ↑q, Value.int IntKind.u8 ↑q, Value.slice (some { block := B + 1, off := 0 }) 1 1, Value.slice (some { block := gg, off := 0 }) (l0 + 1) cap2, Value.slice (some { block := b, off := o }) n c, Value.int IntKind.i64 ↑q, Value.slice (some { block := b, off := o }) q c, Value.int IntKind.i64 ↑q, Value.int IntKind.i64 ↑q, Value.bool false, u21, u22, u23, u24, u25, u26, Value.slice (some { block := b, off := o }) n c, Value.int IntKind.i64 ↑q, Value.slice (some { block := b, off := o + q }) (n - q) (c - q), Value.func (Fn.func 48) #[] #[Value.pointer (some { block := S, off := 0 }), Value.pointer (some { block := S + 1, off := 0 })], frV b (o + q) (n - q) x, undef, undef, undef, undef], defers := [] }) ?assign ?body ?done ?stop
        case kb =>
          intro W l ob ob' hl _ _ _
          rw [HSZ.out] at hl
          exact ⟨World.cell?_of_block (World.putObj_heap_other (by show S ≠ l; omega)), World.cell?_of_block (World.putObj_heap_other (by show S + 1 ≠ l; omega))⟩
        case assign =>
          intro l x W K hK
          gi_wp2
          exact hK
        case body =>
          rintro l pre x W ⟨v', hA, hb1, hb2⟩ hlen
          have hnj : q < n := by unfold nfr at hlen; omega
          have hcb : 128 * cl (n - q) x < n - q := by unfold cl; omega
          obtain ⟨M, hM⟩ : ∃ M, M = min 128 (n - q - 128 * cl (n - q) x) := ⟨_, rfl⟩
          have hM1 : 1 ≤ M := by omega
          have hM2 : q + 128 * cl (n - q) x + M ≤ n := by omega
          have hRow0 := hA.buf.row HR.out HBV.out
          have hRow : Row W b (o + q + 128 * cl (n - q) x) M (sh D (q + 128 * cl (n - q) x)) := fun i hi => by
            have h1 := hRow0 (q + 128 * cl (n - q) x + i) (by omega)
            have e : o + q + 128 * cl (n - q) x + i = o + (q + 128 * cl (n - q) x + i) := by omega
            rw [e]; exact h1
          have hlen2 : pre.length < 600 := by unfold nfr at hlen; omega
          have hfl := frSum_le HI.out hnj pre
          have hdl := hdL_le HI.out q (by omega)
          have hhl : (bs ++ [q] ++ hdB D q ++ frsB D n q pre).length ≤ 20000000 := by
            rw [List.length_append, List.length_append, List.length_append, hdB_len, frsB_len]; simp; omega
          obtain ⟨a1, l1, k1, hv1⟩ := hA.buf.form2
          subst hv1
          have hne : (Value.slice a1 l1 k1).ownBlock ≠ some b := fun e => by
            rcases hA.buf.blk b e with e' | e'
            · exact HBV.out e'
            · omega
          have KF : Hid (CallsIn (Fence.wide.inRound l) (6 - 1 - 1 - 1) Ybad.prog 51 #[Value.slice a1 l1 k1, Value.slice (some ⟨b, o + q + 128 * cl (n - q) x, none⟩) M M] W fun e w' => ∃ v', e = .returned v' ∧ Bf W w' (Value.slice a1 l1 k1) v' (bs ++ [q] ++ hdB D q ++ frsB D n q pre ++ frB (sh D (q + 128 * cl (n - q) x)) M)) :=
            CallsIn.inRound l (callsIn_wide.2 (appendFrame_walk W (Value.slice a1 l1 k1) (bs ++ [q] ++ hdB D q ++ frsB D n q pre) b (o + q + 128 * cl (n - q) x) M M (sh D (q + 128 * cl (n - q) x)) hM1 (by omega) (Nat.le_refl _) (by omega) hRow (HI.out.sh (by omega)) hA.buf.own hne (by omega)))
          have hsn := frsB_snoc D n q pre x
          rw [← hM] at hsn
          have HE : Hid (bs ++ [q] ++ hdB D q ++ frsB D n q pre ++ frB (sh D (q + 128 * cl (n - q) x)) M = bs ++ [q] ++ hdB D q ++ frsB D n q (pre ++ [x])) := by show _ = _; rw [hsn]; simp only [List.append_assoc]
          rw [HE.out] at KF
          have eV : frV b (o + q) (n - q) x = Value.slice (some ⟨b, o + q + 128 * cl (n - q) x, none⟩) M M := by unfold frV; rw [← hM]
          rw [eV]
          have hcl := hA.cell
          have hfz := hA.free
          have HA := (show Hid _ from hA)
          have HX1 : Hid (Boxed W S 24 (Value.slice (some ⟨b, o + q, none⟩) (n - q) (c - q))) := hb1
          have HX2 : Hid (Boxed W (S + 1) 3 (.int .i64 128)) := hb2
          clear hA hb1 hb2 hsn hRow hRow0 hne hhl hfl hdl hM hcb hlen eV HE
          generalize hoo : o + q + 128 * cl (n - q) x = oo at *
          clear hoo
          gi_wp2
          refine ⟨trivial, ?_⟩
          refine CallsIn.mono KF.out ?_
          rintro e w4 ⟨v4, rfl, hB4⟩
          obtain ⟨a4, l4, k4, hv4⟩ := hB4.form2
          subst hv4
          have e0 := cell_of_row _ _ 0 _ _ _ (HA.out.mid hB4)
          have f0 := frozen_of_row _ _ 0 _ _ (HA.out.mid hB4)
          have HS := (show Hid _ from HA.out.step hB4 (by rw [HB0.out]; exact Nat.le_refl _))
          have HB4 := (show Hid _ from hB4)
          clear hB4 KF
          gi_wp2
          have n1 := HX1.out.not_row (by decide) HA.out.buf.own
          have n2 := HX2.out.not_row (by decide) HA.out.buf.own
          have z1 : Boxed w4 S 24 _ := (HB4.out.onl.block S HX1.out.lt (fun e => n1 e.symm)).trans HX1.out
          have z2 : Boxed w4 (S + 1) 3 _ := (HB4.out.onl.block (S + 1) HX2.out.lt (fun e => n2 e.symm)).trans HX2.out
          exact ⟨(bf_keeps HB4.out HA.out.buf.own).trans (KeepsOthers.setCell _ _ _), ⟨((z1.other (by omega) _).cell).trans HX1.out.cell.symm, ((z2.other (by omega) _).cell).trans HX2.out.cell.symm⟩, _, HS.out, z1.other (by omega) _, z2.other (by omega) _⟩
        case done =>
          rintro D0 xs W hD rfl ⟨v', hA, hb1, hb2⟩ hK
          have hcl := hA.cell
          obtain ⟨a1, l1, k1, hv1⟩ := hA.buf.form2
          subst hv1
          have HA := (show Hid _ from hA)
          have HKK := (show Hid _ from hK)
          have HDD := (show Hid _ from hD)
          have HX1 := (show Hid _ from And.intro hb1 hb2)
          clear hA hK hD hb1 hb2
          go_wp2_with fail
          refine ⟨by simp, .inl ⟨_, _, rfl, run_takeDeferred HKK.out, ?_⟩⟩
          refine ⟨_, results_tmp rfl _ _ _, _, rfl, ?_⟩
          have hE : bs ++ encD D n q = bs ++ [q] ++ hdB D q ++ frsB D n q (List.range (nfr (n - q))) := by
            unfold encD
            have hx := HX.out
            skip
            rw [hx]; simp only [List.append_assoc]
          rw [hE]
          have hfin := ap_put (o' := Obj.deferred none) HA.out (by have := HDD.out; rw [HSZ.out] at this; omega) HKK.out rfl
          rw [HNV.out] at hfin
          exact hfin
        case stop =>
          rintro D0 cc pre W _ _ h _
          exact h.elim
set_option maxHeartbeats 4000000 in
theorem appendDifferenced_nilF (w : World) (C l0 : Nat) (bs : List Nat) (hbsl : bs.length = l0) (D : Nat → Int) (HB : Hid (∀ j, j < l0 → w.cell? ⟨C, j, none⟩ = some (.int .u8 ((bs.getD j 0 : Nat) : Int)))) (hl : bs.length ≤ 10000000) :
    Calls Ybad.prog 44 #[.slice (some ⟨C, 0, none⟩) l0 l0, .slice none 0 0, .int .i64 0] w fun e w' => ∃ v', e = .returned v' ∧ Bf w w' (.slice none 0 0) v' (bs ++ encD D 0 0) := by
  have hmx : Ybad.prog.follows .mixedOrders = true := by kernel_rfl
  refine (callsIn_wide (n := 6)).1 ?_
  refine callsIn_of_wp_marks Ybad.func44 rfl trivial ?_ rfl
  simp only [Ybad.ntmps44, List.size_toArray, List.length_cons, List.length_nil, Nat.reduceAdd, Nat.reduceSub, Array.replicate_succ, Array.replicate_zero, List.push_toArray, List.append_toArray, List.nil_append, List.cons_append]
  refine wpIn_wide.2 ?_
  have hcc : ∀ j, j < l0 → ((w.alloc (.cells #[.slice (some ⟨C, 0, none⟩) l0 l0] 22)).alloc (.cells #[.int .u8 ((0 : Nat) : Int)] 5)).cell? ⟨C, j, none⟩ = some (.int .u8 ((bs.getD j 0 : Nat) : Int)) := fun j hj => cell_later' (((Below.refl _ w).alloc (Nat.le_refl _) _).alloc (by simp) _) (HB.out j hj)
  have HCC := (show Hid _ from hcc)
  have hx0 := heap_alloc_new w (.cells #[.slice (some ⟨C, 0, none⟩) l0 l0] 22)
  have c0 : (w.alloc (.cells #[.slice (some ⟨C, 0, none⟩) l0 l0] 22)).cell? ⟨w.heap.size, 0, none⟩ = some (.slice (some ⟨C, 0, none⟩) l0 l0) := by rw [cell_of_row _ _ 0 _ _ _ hx0]; rfl
  have HXC : Hid (((w.alloc (.cells #[.slice (some ⟨C, 0, none⟩) l0 l0] 22)).alloc (.cells #[.int .u8 ((0 : Nat) : Int)] 5)).cell? ⟨w.heap.size, 0, none⟩ = some (.slice (some ⟨C, 0, none⟩) l0 l0)) := cell_later' ((Below.refl _ _).alloc (Nat.le_refl _) _) c0
  have HXF : Hid (((w.alloc (.cells #[.slice (some ⟨C, 0, none⟩) l0 l0] 22)).alloc (.cells #[.int .u8 ((0 : Nat) : Int)] 5)).frozen? ⟨w.heap.size, 0, none⟩ = false) := frozen_of_row _ _ 0 _ _ ((Below.heap_alloc _ _ _ (by simp)).trans hx0)
  clear hcc hx0
  go_wp2_with (at_builtin; go_loud (refine wpList_pushF rfl (.tmp 10) (.tmp 13) rfl C l0 bs 0 hbsl rfl HCC.out (w.heap.size + 1) rfl (by simp) (by omega) ?_); intro gg cap2 w2 HO2 HL2 HG2; have e0 := cell_later' HL2.out HXC.out; have f0 := (HL2.out.frozen (p := ⟨w.heap.size, 0, none⟩) (by simp; omega)).trans HXF.out)
  have HS0 := (show Hid _ from ap_first (v1 := .slice (some ⟨gg, 0, none⟩) (l0 + 1) cap2) HO2.out HL2.out (fun g e => by obtain rfl : gg = g := (by simpa [Value.ownBlock] using e); exact HG2.out))
  generalize (w2.setCell { block := w.heap.size, off := 0 } (Value.slice (some { block := gg, off := 0 }) (l0 + 1) cap2)) = w3 at *
  clear e0 f0 c0 HO2 HL2 HG2 HCC HXC HXF
  obtain ⟨nv, hnv⟩ : ∃ nv, nv = Value.slice none 0 0 := ⟨_, rfl⟩
  have HNV := (show Hid _ from hnv)
  rw [← hnv] at HS0
  clear hnv
  have HBB : Hid (∃ B, w.heap.size = B) := ⟨_, rfl⟩
  obtain ⟨B, hB⟩ := HBB.out
  have HB0 := (show Hid _ from hB)
  rw [hB] at HS0 ⊢
  clear hB HBB
  generalize hv0 : Value.slice (some ⟨C, 0, none⟩) l0 l0 = v at *
  clear hv0
  have HA : Hid (Ap w w3 nv B (bs ++ [0] ++ hdB D 0) (.slice (some ⟨gg, 0, none⟩) (l0 + 1) cap2)) := by show Ap _ _ _ _ _ _; rw [hdB, List.append_nil]; exact HS0.out
  have hc0 := HA.out.cell
  have hf0 := HA.out.free
  have hhl : True := trivial
  clear HS0
  refine wp_loop_rounds 1 ?_
  rw [rounds_succ]
  generalize hwr : w3 = wr at *
  clear hwr
  go_wp2_with fail
  refine Calls.mono (callsIn_wide.1 (chunk_in 6 _ _ _ _)) ?_
  rintro e w' ⟨rfl, hw'⟩
  go_wp2_with fail
  have hsv : ∃ sv, sv = Value.slice none 0 0 := ⟨_, rfl⟩
  obtain ⟨S, hS⟩ : ∃ S, wr.heap.size = S := ⟨_, rfl⟩
  have hw0 : Below wr.heap.size wr w' := by rw [hw']; exact ((Below.refl _ wr).alloc (Nat.le_refl _) _).alloc (by simp) _
  have hA0 := HA.out.later hw0
  have hx1 : Boxed w' S 24 (Value.slice none 0 0) := by rw [hw', ← hS]; exact (Boxed.new wr 24 _).alloc _
  have hx2 : Boxed w' (S + 1) 3 (.int .i64 128) := by
    have := Boxed.new (wr.alloc (.cells #[Value.slice none 0 0] 24)) 3 (.int .i64 128)
    rw [World.size_alloc, hS] at this
    rw [hw']; exact this
  have hsz : w'.heap.size = S + 2 := by rw [hw', ← hS]; simp
  have hwsz : w.heap.size ≤ S := by rw [← hS]; exact HA.out.buf.onl.size
  have hBS : B < S := by rw [← hS]; exact HA.out.lt
  have HI0 : Hid (∃ v', Ap w w' nv B (bs ++ [0] ++ hdB D 0 ++ frsB D 0 0 []) v' ∧ Boxed w' S 24 (Value.slice none 0 0) ∧ Boxed w' (S + 1) 3 (.int .i64 128)) := ⟨_, by rw [frsB, List.append_nil]; exact hA0, hx1, hx2⟩
  have W0c : Hid (w'.cell? ⟨S, 0, none⟩ = some (Value.slice none 0 0)) := hx1.cell
  have W0d : Hid (w'.cell? ⟨S + 1, 0, none⟩ = some (.int .i64 128)) := hx2.cell
  have HSZ := (show Hid _ from hsz)
  have HX := (show Hid _ from frsB_all (D := D) (n := 0) (q := 0))
  rw [← hw', hS]
  clear hw' hw0 hA0 hx1 hx2 hsz HA hc0 hf0 hhl
  generalize hWW : w' = W0 at *
  clear hWW
  refine (wpIn_wide (n := 6)).1 ?_
  refine wpIn_rangeFunc_ownF (n := 6) rfl (by omega) (gf := 48) (lb := #[.pointer (some ⟨S, 0, none⟩), .pointer (some ⟨S + 1, 0, none⟩)]) rfl trivial (enters_of Ybad.func48 (by kernel_rfl) rfl)
    (chunk_stops (6 - 1) (by omega) S (S + 1) 0 0 0 0 none (by omega) (by intro h; first | rfl | omega) (by omega) (by omega) W0 W0c.out W0d.out) (fun h k => ⟨k.1.trans h.1, k.2.trans h.2⟩) ?kb (Below.refl _ _) (fun _ => rfl)
    (fun pre W => ∃ v', Ap w W nv B (bs ++ [0] ++ hdB D 0 ++ frsB D 0 0 pre) v' ∧ Boxed W S 24 (Value.slice none 0 0) ∧ Boxed W (S + 1) 3 (.int .i64 128)) (fun _ _ _ => False)
    (ap_from (by rw [HSZ.out]; omega)) (fun _ _ _ _ _ hs _ _ => hs) HI0.out
    (fun x => { tmps := #[v, Value.slice none 0 0, Value.int IntKind.i64 0, Value.pointer (some { block := B, off := 0 }), undef, undef, Value.slice none 0 0, undef, undef, frV 0 0 0 x, v, Value.int IntKind.i64 0, Value.int IntKind.u8 0, Value.slice (some { block := B + 1, off := 0 }) 1 1, Value.slice (some { block := gg, off := 0 }) (l0 + 1) cap2, Value.slice none 0 0, Value.int IntKind.i64 0, Value.slice none 0 0, Value.int IntKind.i64 0, Value.int IntKind.i64 0, Value.bool false, undef, undef, undef, undef, undef, undef, Value.slice none 0 0, Value.int IntKind.i64 0, Value.slice none 0 0, Value.func (Fn.func 48) #[] #[Value.pointer (some { block := S, off := 0 }), Value.pointer (some { block := S + 1, off := 0 })], frV 0 0 0 x, undef, undef, undef, undef], defers := [] }) ?assign ?body ?done ?stop
  case kb =>
    intro W l ob ob' hl _ _ _
    rw [HSZ.out] at hl
    exact ⟨World.cell?_of_block (World.putObj_heap_other (by show S ≠ l; omega)), World.cell?_of_block (World.putObj_heap_other (by show S + 1 ≠ l; omega))⟩
  case assign =>
    intro l x W K hK
    gi_wp2
    exact hK
  case body =>
    rintro l pre x W _ hlen
    exact absurd hlen (by simp [nfr])
  case done =>
    rintro D0 xs W hD rfl ⟨v', hA, hb1, hb2⟩ hK
    have hcl := hA.cell
    obtain ⟨a1, l1, k1, hv1⟩ := hA.buf.form2
    subst hv1
    have HA := (show Hid _ from hA)
    have HKK := (show Hid _ from hK)
    have HDD := (show Hid _ from hD)
    have HX1 := (show Hid _ from And.intro hb1 hb2)
    clear hA hK hD hb1 hb2
    go_wp2_with fail
    refine ⟨by simp, .inl ⟨_, _, rfl, run_takeDeferred HKK.out, ?_⟩⟩
    refine ⟨_, results_tmp rfl _ _ _, _, rfl, ?_⟩
    have hE : bs ++ encD D 0 0 = bs ++ [0] ++ hdB D 0 ++ frsB D 0 0 (List.range (nfr 0)) := by
      unfold encD
      have hx := HX.out
      skip
      rw [hx]; simp only [List.append_assoc]
    rw [hE]
    have hfin := ap_put (o' := Obj.deferred none) HA.out (by have := HDD.out; rw [HSZ.out] at this; omega) HKK.out rfl
    rw [HNV.out] at hfin
    exact hfin
  case stop =>
    rintro D0 cc pre W _ _ h _
    exact h.elim
end Go.Proofs.YbulkecgoDoor

/-
  LawS6440CWhole's walk where both slices are short and mark is not negative: it answers true and writes nothing old.
-/
import Derived.Test.YbulkecisLawParts
import Derived.Outline
namespace Go.Proofs.Ybulkecis
open Go.RowKit Own
set_option linter.unusedVariables false
theorem eq36 (a : Option Addr) (n c : Nat) (w : World) : (binOp .eql 36 (.slice a n c) (.slice none 0 0)).run Yba.prog w = .ok (.bool a.isNone) w := Lib.run_eql_slice_nil w 36 22 a n c 0 0 Yba.underlying36
theorem neq36 (a : Option Addr) (n c : Nat) (w : World) : (binOp .neq 36 (.slice a n c) (.slice none 0 0)).run Yba.prog w = .ok (.bool !a.isNone) w := by
  have h := eq36 a n c w
  simp only [binOp] at h ⊢
  cases hh : Sem.run Yba.prog (Op.equal 36 (.slice a n c) (.slice none 0 0)) w <;> simp_all
attribute [local go_sem] eq36 neq36
def stepsOf (N : Nat) (zu zv : Nat → Int) (l : Nat) : List (Nat × Nat) := (List.range l).map fun i => ((zu i).toNat % N, (zv i).toNat % N)
theorem stepsOf_take (N : Nat) (zu zv : Nat → Int) (l m : Nat) : (stepsOf N zu zv l).take m = stepsOf N zu zv (min m l) := by
  simp only [stepsOf, ← List.map_take, List.take_range]
theorem stepsOf_succ (N : Nat) (zu zv : Nat → Int) (k : Nat) : stepsOf N zu zv (k + 1) = stepsOf N zu zv k ++ [((zu k).toNat % N, (zv k).toNat % N)] := by
  simp [stepsOf, List.range_succ]
theorem modN (z : Int) (N : Nat) (h : 0 ≤ z) : (((z.toNat % N : Nat)) : Int) = z % (N : Int) := by rw [Int.natCast_emod, Int.toNat_of_nonneg h]
set_option maxRecDepth 100000 in
set_option maxHeartbeats 4000000 in
theorem law_walk (raw : Int) (a1 : Option Addr) (b1 o1 lb cb : Nat) (zb : Nat → Int) (a2 : Option Addr) (b2 o2 lss cs : Nat) (zu zv : Nat → Int) (mark : Int) (w : World)
    (r0 : 0 ≤ raw) (r1 : raw ≤ 255) (hlb : lb ≤ 65536) (hls : lss ≤ 65536) (hmark : 0 ≤ mark) 
    (HA1 : Hid (0 < lb → a1 = some ⟨b1, o1, none⟩)) (HC1 : Hid (∀ i, i < lb → w.cell? ⟨b1, o1 + i, none⟩ = some (.int .u8 (zb i)) ∧ 0 ≤ zb i ∧ zb i ≤ 255))
    (HA2 : Hid (0 < lss → a2 = some ⟨b2, o2, none⟩)) (HC2 : Hid (∀ i, i < lss → w.cell? ⟨b2, o2 + i * 2, none⟩ = some (.int .u8 (zu i)) ∧ w.cell? ⟨b2, o2 + i * 2 + 1, none⟩ = some (.int .u8 (zv i)) ∧ 0 ≤ zu i ∧ zu i ≤ 255 ∧ 0 ≤ zv i ∧ zv i ≤ 255)) 
    (hb1c : lb ≤ cb) (hb2c : lss ≤ cs) :
    Calls Yba.prog 5 #[.int .u8 raw, .slice a1 lb cb, .slice a2 lss cs, .int .i64 mark] w fun e w' => e = .returned (.bool true) ∧ Below w.heap.size w w' := by
  obtain ⟨i0, hi, hz0, hz1, hz2⟩ := info_parts info3
  obtain ⟨N, hN⟩ : ∃ N : Nat, (1 : Int) + raw % 200 = N := ⟨(1 + raw % 200).toNat, by omega⟩
  have hN0 : 0 < N := by omega
  have hN1 : N ≤ 200 := by omega
  have HN := (show Hid _ from hN)
  clear hN
  go_enter Yba.func5, Yba.ntmps5
  go_upto_block 0 with (at_make; refine wpList_make_v _ rfl _ _ 22 rfl 3 i0 (.int .i64 0) Yba.underlying22 hi hz0 hz1 rfl _ _ _ _ N N rfl rfl HN.out HN.out (Nat.le_refl _) (by rw [hz2]; omega) (by omega) ?_)
  rw [HN.out]
  have hst : Below w.heap.size w (w.alloc (Obj.cells (List.replicate N (Value.int IntKind.i64 0)).toArray 3)) ∧ (w.alloc (Obj.cells (List.replicate N (Value.int IntKind.i64 0)).toArray 3)).heap[w.heap.size]? = some (.cells (ints (binit N (bs lb zb) 0)).toArray 3 (0, 0)) := by
    refine ⟨(Below.refl _ _).alloc (Nat.le_refl _) _, ?_⟩
    rw [heap_alloc_new, binit_zero]
  have e1 : (w.alloc (Obj.cells (Array.replicate N (Value.int IntKind.i64 0)) 3)) = (w.alloc (Obj.cells (List.replicate N (Value.int IntKind.i64 0)).toArray 3)) := by simp
  rw [e1]
  generalize (w.alloc (Obj.cells (List.replicate N (Value.int IntKind.i64 0)).toArray 3)) = w1 at *
  have Hst := (show Hid _ from hst)
  clear hst e1 hi hz0 hz1 hz2 i0
  go_cut [8] from 11 to 59 (fun x8 w2 => x8 = .bool false ∧ Below w.heap.size w w2 ∧ w2.heap[w.heap.size]? = some (.cells (ints (wtOf N (bs lb zb) [])).toArray 3 (0, 0)))
  case first =>
    go_wp2_with fail
    go_loopw [11] (fun i wr => ∃ k : Nat, k ≤ N ∧ k ≤ lb ∧ i = .int .i64 k ∧ Below w.heap.size w wr ∧ wr.heap[w.heap.size]? = some (.cells (ints (binit N (bs lb zb) k)).toArray 3 (0, 0))) (fun i _ => N - (intOf i).toNat)
    case atStart => exact ⟨0, by omega, by omega, rfl, Hst.out⟩
    case round =>
      obtain ⟨k, hk1, hk2, rfl, hB, hrow⟩ := hrel
      have HB := (show Hid _ from hB)
      have HR := (show Hid _ from hrow)
      clear hB hrow
      by_cases hkl : k < N ∧ k < lb
      · obtain ⟨hkN, hkb⟩ := hkl
        obtain rfl := HA1.out (by omega)
        have hc := (HC1.out k hkb).1
        have hc2 := (HC1.out k hkb).2
        have hlt : b1 < w.heap.size := lt_of_cell hc
        rw [← HB.out.cell (p := ⟨b1, o1 + k, none⟩) hlt] at hc
        have hwl : (ints (binit N (bs lb zb) k)).length = N := by simp [ints, binit]
        have hwc : wr.cell? ⟨w.heap.size, k, none⟩ = some (.int .i64 ((binit N (bs lb zb) k).getD k 0)) := by
          rw [cell_of_row wr w.heap.size k _ _ _ HR.out]; simp [ints, binit, hkN]
        have hwf : wr.frozen? ⟨w.heap.size, k, none⟩ = false := frozen_of_row wr w.heap.size k _ _ HR.out
        have hnew : Below w.heap.size w (wr.setCell ⟨w.heap.size, k, none⟩ (.int .i64 (zb k))) ∧ (wr.setCell ⟨w.heap.size, k, none⟩ (.int .i64 (zb k))).heap[w.heap.size]? = some (.cells (ints (binit N (bs lb zb) (k + 1))).toArray 3 (0, 0)) := by
          refine ⟨HB.out.setCell (Nat.le_refl _) _, ?_⟩
          rw [heap_setCell_same wr w.heap.size k _ 3 _ HR.out, ← binit_set N _ k hkN]
          have : bs lb zb k = zb k := by simp [bs, hkb]
          rw [this]
          simp [ints, List.map_set]
        have HNW := (show Hid _ from hnew)
        clear hnew hwl
        have h1 : (k : Int) < N := by omega
        have h2 : (k : Int) < lb := by omega
        go_wp2
        go_roundw
        case rel => exact ⟨k + 1, by omega, by omega, by go_num, HNW.out⟩
        case measure => simp [intOf]; omega
      · have hk' : k = N ∨ k = lb := by omega
        have hrow2 : wr.heap[w.heap.size]? = some (.cells (ints (wtOf N (bs lb zb) [])).toArray 3 (0, 0)) := by
          rw [← binit_end N lb zb k hk' hk1 hk2]; exact HR.out
        have HR2 := (show Hid _ from hrow2)
        clear hrow2
        by_cases hkN : k < N
        all_goals
          go_wp2_with fail
          go_meet
          case rel => exact ⟨rfl, HB.out, HR2.out⟩
  case rest =>
    obtain ⟨rfl, hB, hrow⟩ := hcut
    have HB := (show Hid _ from hB)
    have HR := (show Hid _ from hrow)
    clear hB hrow Hst w1
    go_wp2_with fail
    refine (nset_any N _ hN0 hN1).mono ?_
    rintro e w3 ⟨ls, rv, rfl, hNS, hlsf, hrvf, hO3⟩
    have HNS := (show Hid _ from hNS)
    have HLF := (show Hid _ from hlsf)
    have HRF := (show Hid _ from hrvf)
    have HO3 := (show Hid _ from hO3)
    clear hNS hlsf hrvf hO3
    obtain ⟨arv, crv, erv⟩ := HNS.out.own.form'
    have HE := (show Hid _ from erv)
    rw [erv]
    clear erv
    go_upto_block 2 with fail
    have hIst := inv_start (bs lb zb) #[Value.pointer none, Value.int IntKind.i64 ↑N, Value.slice none 0 0, Value.slice none 0 0, Value.slice none 0 0,
        Value.slice none 0 0, Value.slice (some { block := w.heap.size, off := 0 }) N N, Value.slice none 0 0,
        Value.slice none 0 0, Value.slice none 0 0, Value.slice none 0 0, Value.slice none 0 0, Value.slice none 0 0,
        Value.slice arv ls.length crv, Value.slice none 0 0, Value.slice none 0 0, Value.int IntKind.i64 0,
        Value.int IntKind.u64 0, Value.pointer none, Value.pointer none, Value.pointer none, Value.int IntKind.i64 0,
        Value.slice none 0 0, Value.slice none 0 0, Value.slice none 0 0, Value.slice none 0 0, Value.bool false,
        Value.pointer none, Value.slice none 0 0, Value.slice none 0 0, Value.slice none 0 0, Value.slice none 0 0,
        Value.slice none 0 0, Value.slice none 0 0, Value.slice none 0 0, Value.bool false, Value.int IntKind.i64 0,
        Value.int IntKind.i64 0] (lt_of_block HR.out) HR.out HNS.out HLF.out HRF.out HO3.out rfl rfl rfl (by rw [HE.out]; simp)
    have hBst : Below w.heap.size w (w3.alloc (Obj.cells #[Value.pointer none, Value.int IntKind.i64 ↑N, Value.slice none 0 0, Value.slice none 0 0, Value.slice none 0 0,
        Value.slice none 0 0, Value.slice (some { block := w.heap.size, off := 0 }) N N, Value.slice none 0 0,
        Value.slice none 0 0, Value.slice none 0 0, Value.slice none 0 0, Value.slice none 0 0, Value.slice none 0 0,
        Value.slice arv ls.length crv, Value.slice none 0 0, Value.slice none 0 0, Value.int IntKind.i64 0,
        Value.int IntKind.u64 0, Value.pointer none, Value.pointer none, Value.pointer none, Value.int IntKind.i64 0,
        Value.slice none 0 0, Value.slice none 0 0, Value.slice none 0 0, Value.slice none 0 0, Value.bool false,
        Value.pointer none, Value.slice none 0 0, Value.slice none 0 0, Value.slice none 0 0, Value.slice none 0 0,
        Value.slice none 0 0, Value.slice none 0 0, Value.slice none 0 0, Value.bool false, Value.int IntKind.i64 0,
        Value.int IntKind.i64 0] 80)) := by
      have h1 := lt_of_block HR.out
      have h2 := HO3.out.size
      exact (HB.out.trans (HO3.out.below (by omega) (by simp))).alloc (by omega) _
    have hgst := good_start w.heap.size w3.heap.size N ls (bs lb zb)
    have hfst := far_start w.heap.size w3.heap.size N ls (bs lb zb)
    generalize hd0 : sd0 w.heap.size w3.heap.size N ls (bs lb zb) = d0 at *
    have hd0f : d0.fs = false ∧ ∀ u, d0.fv u = .slice none 0 0 ∧ d0.fc u = .slice none 0 0 := by rw [← hd0]; exact ⟨rfl, fun _ => ⟨rfl, rfl⟩⟩
    clear hd0
    generalize (w3.alloc (Obj.cells #[Value.pointer none, Value.int IntKind.i64 ↑N, Value.slice none 0 0, Value.slice none 0 0, Value.slice none 0 0,
        Value.slice none 0 0, Value.slice (some { block := w.heap.size, off := 0 }) N N, Value.slice none 0 0,
        Value.slice none 0 0, Value.slice none 0 0, Value.slice none 0 0, Value.slice none 0 0, Value.slice none 0 0,
        Value.slice arv ls.length crv, Value.slice none 0 0, Value.slice none 0 0, Value.int IntKind.i64 0,
        Value.int IntKind.u64 0, Value.pointer none, Value.pointer none, Value.pointer none, Value.int IntKind.i64 0,
        Value.slice none 0 0, Value.slice none 0 0, Value.slice none 0 0, Value.slice none 0 0, Value.bool false,
        Value.pointer none, Value.slice none 0 0, Value.slice none 0 0, Value.slice none 0 0, Value.slice none 0 0,
        Value.slice none 0 0, Value.slice none 0 0, Value.slice none 0 0, Value.bool false, Value.int IntKind.i64 0,
        Value.int IntKind.i64 0] 80)) = w4 at *
    generalize w3.heap.size = sb at *
    have HIst := (show Hid _ from hIst)
    have HBst := (show Hid _ from hBst)
    have HGst := (show Hid _ from hgst)
    have HFst := (show Hid _ from hfst)
    have HD0 := (show Hid _ from hd0f)
    clear hIst hBst hgst hfst hd0f HNS HLF HRF HO3 HR HB HE
    go_cut [8] from 13 to 127 (fun x8 w5 => x8 = .bool false ∧ ∃ fb d, Inv N sb w.heap.size fb rv ls d w5 ∧ Good N (bs lb zb) (stepsOf N zu zv lss) d ∧ d.fs = decide (0 < lss) ∧ (∀ g, g < w.heap.size → d.own g = N + 9) ∧ Below w.heap.size w w5)
    case first =>
      go_wp2_with fail
      go_loopw [68] (fun i wr => ∃ (k fb : Nat) (d : SD), k ≤ lss ∧ i = .int .i64 k ∧ Inv N sb w.heap.size fb rv ls d wr ∧ Good N (bs lb zb) (stepsOf N zu zv k) d ∧ (d.fs = decide (0 < k) ∧ (k = 0 → ∀ u, d.fv u = .slice none 0 0 ∧ d.fc u = .slice none 0 0)) ∧ (∀ g, g < w.heap.size → d.own g = N + 9) ∧ Below w.heap.size w wr) (fun i _ => lss - (intOf i).toNat)
      case atStart => exact ⟨0, 0, d0, by omega, rfl, HIst.out, HGst.out, ⟨HD0.out.1, fun _ => HD0.out.2⟩, HFst.out, HBst.out⟩
      case round =>
        obtain ⟨k, fb, d, hk, rfl, hI, hG, ⟨hfs, hnil⟩, hfar, hB⟩ := hrel
        have HNil := (show Hid _ from hnil)
        clear hnil
        have HI := (show Hid _ from hI)
        have HG := (show Hid _ from hG)
        have HFS := (show Hid _ from hfs)
        have HFar := (show Hid _ from hfar)
        have HB := (show Hid _ from hB)
        clear hI hG hfs hfar hB
        by_cases hkl : k < lss
        · obtain rfl := HA2.out (by omega)
          obtain ⟨hc1, hc2, hu0, hu1, hv0, hv1⟩ := HC2.out k hkl
          have hlt : b2 < w.heap.size := lt_of_cell hc1
          rw [← HB.out.cell (p := ⟨b2, o2 + k * 2, none⟩) hlt] at hc1
          rw [← HB.out.cell (p := ⟨b2, o2 + k * 2 + 1, none⟩) hlt] at hc2
          have hlr : b2 < wr.heap.size := lt_of_cell hc1
          obtain ⟨u, hu⟩ : ∃ u, u = (zu k).toNat % N := ⟨_, rfl⟩
          obtain ⟨v, hv⟩ : ∃ v, v = (zv k).toNat % N := ⟨_, rfl⟩
          have hui : zu k % (N : Int) = u := by rw [hu, Int.natCast_emod, Int.toNat_of_nonneg hu0]
          have hvi : zv k % (N : Int) = v := by rw [hv, Int.natCast_emod, Int.toNat_of_nonneg hv0]
          have huN : u < N := by rw [hu]; exact Nat.mod_lt _ hN0
          have hvN : v < N := by rw [hv]; exact Nat.mod_lt _ hN0
          have HU := (show Hid _ from hu)
          have HV := (show Hid _ from hv)
          clear hu hv
          have c7 := HI.out.cf
          have hsbl : sb < wr.heap.size := HI.out.lsb
          have HA := (show Hid _ from HI.out.alloc (.cells #[Value.int IntKind.u8 (zu k), Value.int IntKind.u8 (zv k)] 82))
          have HBA : Hid (Below w.heap.size w (wr.alloc (.cells #[Value.int IntKind.u8 (zu k), Value.int IntKind.u8 (zv k)] 82))) := HB.out.alloc (by have := HB.out.size; omega) _
          generalize hfcell : (if d.fs = true then Value.slice (some ⟨fb, 0, none⟩) N N else Value.slice none 0 0) = fcell at c7
          have hfc2 : (k = 0 → fcell = .slice none 0 0) ∧ (k ≠ 0 → fcell = .slice (some ⟨fb, 0, none⟩) N N) := by
            rw [← hfcell, HFS.out]
            refine ⟨fun h => by simp [h], fun h => by simp [Nat.pos_of_ne_zero h]⟩
          obtain ⟨af, nf, mf, rfl⟩ : ∃ af nf mf, fcell = .slice af nf mf := by
            by_cases h : k = 0
            · exact ⟨_, _, _, hfc2.1 h⟩
            · exact ⟨_, _, _, hfc2.2 h⟩
          have HFC := (show Hid _ from hfc2)
          have HFC0 := (show Hid _ from hfcell)
          clear hfc2 hfcell
          go_upto_region 17 with fail
          generalize (wr.alloc (Obj.cells #[Value.int IntKind.u8 (zu k), Value.int IntKind.u8 (zv k)] 82)) = wa at *
          clear hlr hc1 hc2 c7 hsbl
          have c7 : wa.cell? ⟨sb, 7, none⟩ = some (.slice af nf mf) := by rw [HA.out.cf, HFC0.out]
          rw [hui, hvi]
          go_upto_if 86 with fail
          go_cut [86] from 82 to 127 (fun x86 w6 => ∃ fb d, Inv N sb w.heap.size fb rv ls d w6 ∧ Good N (bs lb zb) (stepsOf N zu zv k) d ∧ d.fs = true ∧ (∀ g, g < w.heap.size → d.own g = N + 9) ∧ Below w.heap.size w w6)
          case first =>
            by_cases hk0 : k = 0
            · have e := HFC.out.1 hk0
              cases e
              have f7 := HA.out.free 7
              have hsl : sb < wa.heap.size := HA.out.lsb
              obtain ⟨i2, hi2, hy0, hy1, hy2⟩ := info_parts info22
              have HK := (show Hid _ from hk0)
              clear hk0
              go_wp2_with (at_make; refine wpList_make_v _ rfl _ _ 36 rfl 22 i2 (.slice none 0 0) Yba.underlying36 hi2 hy0 hy1 rfl _ _ _ _ N N rfl rfl rfl rfl (Nat.le_refl _) (by rw [hy2]; omega) (by omega) ?_)
              go_meet
              case rel =>
                have hfsf : d.fs = false := by rw [HFS.out, HK.out]; rfl
                have hM := HA.out.makeForced hfsf (fun u _ => HNil.out HK.out u)
                have e1 : (Array.replicate N (Value.slice none 0 0)) = (List.replicate N (Value.slice none 0 0)).toArray := by simp
                rw [e1, ← World.setCell_alloc_past _ _ _ _ hsl]
                refine ⟨_, _, hM, ⟨HG.out.fcv, HG.out.ffcv, HG.out.R, HG.out.ff, HG.out.wt⟩, rfl, ?_, ?_⟩
                · intro g hg
                  have h2 := HBA.out.size
                  show upd d.own wa.heap.size (N + 3) g = N + 9
                  rw [upd_other _ _ _ _ (by omega)]; exact HFar.out g hg
                · have h2 := HBA.out.size
                  have h3 : w.heap.size ≤ sb := by
                    rcases Nat.lt_or_ge sb w.heap.size with h | h
                    · have := HFar.out sb h; have := HA.out.tsb; omega
                    · exact h
                  exact (HBA.out.alloc (by omega) _).setCell h3 _
            · have e := HFC.out.2 hk0
              cases e
              have HK := (show Hid _ from hk0)
              clear hk0
              go_wp2_with fail
              go_meet
              case rel => exact ⟨fb, d, HA.out, HG.out, by rw [HFS.out]; simp only [decide_eq_true_eq]; exact Nat.pos_of_ne_zero HK.out, HFar.out, HBA.out⟩
          case rest =>
            obtain ⟨fb, d, hI, hG, hft, hfar, hB⟩ := hcut
            clear HI HG HFS HFar HB HNil HFC HFC0 HA HBA c7
            have HI := (show Hid _ from hI)
            have HG := (show Hid _ from hG)
            have HFT := (show Hid _ from hft)
            have HFar := (show Hid _ from hfar)
            have HB := (show Hid _ from hB)
            clear hI hG hft hfar hB
            have c7 : wc.cell? ⟨sb, 7, none⟩ = some (.slice (some ⟨fb, 0, none⟩) N N) := by rw [HI.out.cf, if_pos HFT.out]
            have hl := lt_of_cell c7
            simp only at hl
            obtain ⟨au, cu, eu⟩ := (HI.out.rows u huN).form'
            have hfc : wc.cell? ⟨fb, u, none⟩ = some (d.fv u) := by rw [← HG.out.fcv u huN]; exact (HI.out.fcell HFT.out huN).1
            have hff : wc.frozen? ⟨fb, u, none⟩ = false := (HI.out.fcell HFT.out huN).2
            have hlf : fb < wc.heap.size := lt_of_cell hfc
            obtain ⟨lu, hlu⟩ : ∃ lu, lu = (ints (d.R u)).length := ⟨_, rfl⟩
            rw [← hlu] at eu
            have hlu2 : lu ≤ 65536 := by
              rw [hlu]
              have h1 : (ints (d.R u)).length = (rowOf (stepsOf N zu zv k) u).length := by rw [HG.out.R u huN]; simp [ints]
              have h2 : (rowOf (stepsOf N zu zv k) u).length ≤ (stepsOf N zu zv k).length := by simp only [rowOf, List.length_map]; exact List.length_filter_le _ _
              have h3 : (stepsOf N zu zv k).length = k := by simp [stepsOf]
              omega
            have HRU := (show Hid _ from HI.out.rows u huN)
            rw [eu] at hfc
            have HEU := (show Hid _ from eu)
            have HLU := (show Hid _ from hlu)
            clear eu hlu
            obtain ⟨i0, hi, hz0, hz1, hz2⟩ := info_parts info3
            have h1 : sb < wc.heap.size + 1 := by omega
            have h2 : fb < wc.heap.size + 1 := by omega
            have hun : (u : Int) < N := by omega
            have HIA := (show Hid _ from (HI.out.alloc (.cells #[Value.int IntKind.i64 v] 3)).drew)
            have HOWN : Hid (OwnV (wc.alloc (.cells #[Value.int IntKind.i64 v] 3)).drew 3 (.slice au lu cu) (ints (d.R u))) := by
              show OwnV _ _ _ _
              rw [← HEU.out]; exact OwnV.frame HRU.out (fun g hg => Below.heap_alloc _ _ _ (OwnV.lt HRU.out hg))
            have hfar2 : ∀ g t, d.own g = t → t < N + 9 → w.heap.size ≤ g := fun g t h1 h2 => by
              rcases Nat.lt_or_ge g w.heap.size with h | h
              · have := HFar.out g h; omega
              · exact h
            have HF2 := (show Hid _ from hfar2)
            clear hfar2
            have hwz : w.heap.size ≤ wc.heap.size := HB.out.size
            go_wp2_with fail
            go_cut [92] from 82 to 127 (fun x92 w7 => ∃ g1 v1, Inv N sb w.heap.size fb rv ls { d with own := upd d.own g1 u, fv := upd d.fv u v1, R := upd d.R u (d.R u ++ [(v : Int)]), fc := upd d.fc u v1 } w7 ∧ w.heap.size ≤ g1 ∧ Below w.heap.size w w7)
            case first =>
              go_region_law (refine step_append_n _ rfl (.tmp 103) (.tmp 105) 22 rfl 3 i0 (.int .i64 0) 8 Yba.underlying22 hi hz0 hz1 hz2 rfl (.slice au lu cu) (ints (d.R u)) rfl HOWN.out ⟨wc.heap.size, 0, none⟩ 1 1 [.int .i64 v] rfl rfl (by decide) (one_new _ _ _ _ rfl) (by intro q hq; simp at hq; subst hq; rfl) (by rw [← HLU.out]; unfold maxLen; omega) (by rw [← HLU.out]; omega) ?_; intro g1 cap1 w1 hown hgrow hpl hcap; have hown2 : OwnV w1 3 (.slice (some ⟨g1, 0, none⟩) ((ints (d.R u)).length + 1) cap1) (ints (d.R u ++ [(v : Int)])) := (by simpa [ints] using hown); have I1 := HIA.out.appendRow (u := u) huN (g1 := g1) (v1 := .slice (some ⟨g1, 0, none⟩) ((ints (d.R u)).length + 1) cap1) rfl hown2 (by rw [HEU.out]; exact hgrow) (by rw [HEU.out]; exact hpl); have hg1 : w.heap.size ≤ g1 := (hpl.elim (fun h => HF2.out g1 u (HI.out.trow u huN g1 (by rw [HEU.out]; exact h)) (by omega)) (fun h => by simp at h; omega)); have hBel : Below w.heap.size w w1 := ((HB.out.alloc hwz _).drew).grown hgrow (by simp; omega) (fun q hq => HF2.out q u (HI.out.trow u huN q (by rw [HEU.out]; exact hq)) (by omega)); have HX := (show Hid _ from And.intro I1 (And.intro hg1 hBel)); have c7b : w1.cell? ⟨sb, 7, none⟩ = some (.slice (some ⟨fb, 0, none⟩) N N) := (by have hq := I1.cf; rw [if_pos HFT.out] at hq; exact hq); have c1 := (I1.fcell HFT.out huN).1; have f1 := (I1.fcell HFT.out huN).2; clear hown hown2 hgrow hpl hcap I1 hg1 hBel)
              all_goals (go_wp2_with fail; go_meet)
              all_goals (case rel => exact ⟨g1, _, HX.out.1.setForced HFT.out huN _, HX.out.2.1, HX.out.2.2.setCell (HF2.out fb _ (HI.out.tfb HFT.out) (by omega)) _⟩)
            case rest =>
              obtain ⟨g1, v1, hI7, hg1, hB7⟩ := hcut
              have HI7 := (show Hid _ from hI7)
              have HB7 := (show Hid _ from hB7)
              have hw7 : w.heap.size ≤ wc.heap.size := hB7.size
              have c8 : wc.cell? ⟨sb, 8, none⟩ = some d.ffv := by rw [hI7.cff]; show some d.ffc = _; rw [HG.out.ffcv]
              have f8 := hI7.free 8
              have hl8 : sb < wc.heap.size := hI7.lsb
              obtain ⟨aq, cq, eq⟩ := hI7.ffrow.form'
              obtain ⟨lq, hlq⟩ : ∃ lq, lq = (ints d.ff).length := ⟨_, rfl⟩
              rw [show (ints d.ff).length = lq from hlq.symm] at eq
              have hlq2 : lq = k := by rw [hlq, HG.out.ff]; simp [ints, ffOf, stepsOf]
              have hffr : OwnV wc 3 d.ffv (ints d.ff) := hI7.ffrow
              have eq' : d.ffv = .slice aq lq cq := eq
              rw [eq'] at c8
              have HEQ := (show Hid _ from eq')
              have HFR := (show Hid _ from hffr)
              have HLQ := (show Hid _ from hlq)
              have hlq3 : lq ≤ 65536 := by omega
              have HLQ2 := (show Hid _ from hlq2)
              clear hI7 hB7 eq eq' hffr hlq hlq2
              have HOWN2 : Hid (OwnV (wc.alloc (.cells #[Value.int IntKind.i64 u] 3)) 3 (.slice aq lq cq) (ints d.ff)) := by
                show OwnV _ _ _ _
                rw [← HEQ.out]; exact OwnV.frame HFR.out (fun g hg => Below.heap_alloc _ _ _ (OwnV.lt HFR.out hg))
              go_upto_region 21 with (at_builtin; refine wpList_append_n _ rfl _ _ 22 rfl 3 i0 (.int .i64 0) 8 Yba.underlying22 hi hz0 hz1 hz2 rfl (.slice aq lq cq) (ints d.ff) rfl HOWN2.out ⟨wc.heap.size, 0, none⟩ 1 1 [.int .i64 u] rfl rfl (by decide) (one_new _ _ _ _ rfl) (by intro q hq; simp at hq; subst hq; rfl) (by rw [← HLQ.out]; unfold maxLen; omega) (by rw [← HLQ.out]; omega) ?_; intro g2 cap2 w1 hown hgrow hpl hcap; have hown2 : OwnV w1 3 (.slice (some ⟨g2, 0, none⟩) ((ints d.ff).length + 1) cap2) (ints (d.ff ++ [(u : Int)])) := (by simpa [ints] using hown); have I2 := (HI7.out.alloc (.cells #[Value.int IntKind.i64 u] 3)).appendFF (g1 := g2) (v1 := .slice (some ⟨g2, 0, none⟩) ((ints d.ff).length + 1) cap2) rfl hown2 (by show World.grownBy _ _ d.ffv.ownBlock; rw [HEQ.out]; exact hgrow) (by show d.ffv.ownBlock = _ ∨ _; rw [HEQ.out]; exact hpl); have hg2 : w.heap.size ≤ g2 := (hpl.elim (fun h => HF2.out g2 N (HI.out.tff g2 (by rw [HEQ.out]; exact h)) (by omega)) (fun h => by simp at h; omega)); have hBel : Below w.heap.size w w1 := (HB7.out.alloc hw7 _).grown hgrow (by simp; omega) (fun q hq => HF2.out q N (HI.out.tff q (by rw [HEQ.out]; exact hq)) (by omega)); have HX := (show Hid _ from And.intro I2 (And.intro hg2 hBel)); have c1 := I2.cff; have f1 := I2.free 8; clear hown hown2 hgrow hpl hcap I2 hg2 hBel)
              have HI8 := (show Hid _ from HX.out.1.setFF (.slice (some ⟨g2, 0, none⟩) ((ints d.ff).length + 1) cap2))
              have HB8 : Hid (Below w.heap.size w (w1.setCell { block := sb, off := 8 } (Value.slice (some { block := g2, off := 0 }) ((ints d.ff).length + 1) cap2))) := HX.out.2.2.setCell (HF2.out sb _ HI.out.tsb (by omega)) _
              have HG2 := (show Hid _ from HX.out.2.1)
              clear HX c1 f1 c8 f8
              generalize w1.setCell { block := sb, off := 8 } (Value.slice (some { block := g2, off := 0 }) ((ints d.ff).length + 1) cap2) = w8 at *
              have c6 := HI8.out.cw
              obtain ⟨W, hW⟩ : ∃ W, W = bs lb zb v + (cnt (stepsOf N zu zv k) v : Int) := ⟨_, rfl⟩
              have hcl : cnt (stepsOf N zu zv k) v ≤ 65536 := by
                have h1 : cnt (stepsOf N zu zv k) v ≤ (stepsOf N zu zv k).length := List.length_filter_le _ _
                have h3 : (stepsOf N zu zv k).length = k := by simp [stepsOf]
                omega
              have hbv : 0 ≤ bs lb zb v ∧ bs lb zb v ≤ 255 := by
                unfold bs
                split
                · rename_i h; exact (HC1.out v h).2
                · omega
              have hW0 : 0 ≤ W := by omega
              have hW1 : W ≤ 70000 := by omega
              have hwv : w8.cell? ⟨w.heap.size, v, none⟩ = some (.int .i64 W) := by
                rw [(HI8.out.wcell hvN).1]
                show some (Value.int .i64 (d.wt.getD v 0)) = _
                rw [HG.out.wt, wtOf_get _ _ _ _ hvN, hW]
              have hwf : w8.frozen? ⟨w.heap.size, v, none⟩ = false := (HI8.out.wcell hvN).2
              have HI9 := (show Hid _ from HI8.out.setWait v (W + 1))
              have HB9 : Hid (Below w.heap.size w (w8.setCell ⟨w.heap.size, v, none⟩ (.int .i64 (W + 1)))) := HB8.out.setCell (Nat.le_refl _) _
              have HW := (show Hid _ from hW)
              clear hW hcl hbv
              have hvn : (v : Int) < N := by omega
              go_wp2_with fail
              go_roundw
              case rel =>
                have hS : stepsOf N zu zv (k + 1) = stepsOf N zu zv k ++ [(u, v)] := by
                  simp only [stepsOf, List.range_succ, List.map_append, List.map_cons, List.map_nil]
                  rw [← HU.out, ← HV.out]
                refine ⟨k + 1, fb, _, by omega, by go_num, HI9.out, ?_, ⟨?_, by omega⟩, ?_, HB9.out⟩
                · rw [hS]
                  refine ⟨?_, rfl, ?_, ?_, ?_⟩
                  · intro x hx
                    show upd d.fc u v1 x = upd d.fv u v1 x
                    by_cases h : x = u
                    · subst h; rw [upd_same, upd_same]
                    · rw [upd_other _ _ _ _ h, upd_other _ _ _ _ h]; exact HG.out.fcv x hx
                  · intro x hx
                    show upd d.R u _ x = _
                    by_cases h : x = u
                    · subst h; rw [upd_same, rowOf_snoc_same, HG.out.R x hx]
                    · rw [upd_other _ _ _ _ h, HG.out.R x hx, rowOf_snoc_other _ _ _ _ h]
                  · show d.ff ++ [(u : Int)] = _
                    rw [ffOf_snoc, HG.out.ff]
                  · show d.wt.set v (W + 1) = _
                    rw [HG.out.wt, wtOf_snoc _ _ _ _ _ hvN, HW.out]
                · show d.fs = _
                  rw [HFT.out]; simp
                · intro g hg
                  show upd (upd d.own g1 u) g2 N g = N + 9
                  have := HG2.out
                  rw [upd_other _ _ _ _ (by omega), upd_other _ _ _ _ (by omega)]
                  exact HFar.out g hg
              case measure => simp [intOf]; omega
        · go_wp2_with fail
          go_meet
          case rel =>
            obtain rfl : k = lss := by omega
            exact ⟨rfl, fb, d, HI.out, HG.out, HFS.out, HFar.out, HB.out⟩
    case rest =>
      obtain ⟨rfl, fb, d, hI, hG, hfs, hfar, hB⟩ := hcut
      have hSl : (stepsOf N zu zv lss).length = lss := by simp [stepsOf]
      have hSn : ∀ p ∈ stepsOf N zu zv lss, p.1 < N ∧ p.2 < N := by
        intro p hp
        obtain ⟨i, _, rfl⟩ := List.mem_map.1 hp
        exact ⟨Nat.mod_lt _ hN0, Nat.mod_lt _ hN0⟩
      have hbase : ∀ v, 0 ≤ bs lb zb v ∧ bs lb zb v ≤ 255 := by
        intro v
        unfold bs
        split
        · rename_i h; exact (HC1.out v h).2
        · omega
      have HU := (show Hid _ from unforce_any N sb w.heap.size fb rv ls (bs lb zb) (stepsOf N zu zv lss) d mark wc hN1 (by omega) hmark hSn hbase (fun h => by rw [hfs]; simp; omega) hI hG w.heap.size hfar)
      have HB := (show Hid _ from hB)
      have HFS := (show Hid _ from hfs)
      clear hI hG hfs hfar hB hSl hSn hbase HIst HBst HGst HFst HD0
      go_wp2_with fail
      refine Calls.mono HU.out ?_
      rintro e wI ⟨rfl, d2, hfs2, hown2, hI, hG, hO⟩
      have HI := (show Hid _ from hI)
      have HG := (show Hid _ from hG)
      have HBI : Hid (Below w.heap.size w wI) := HB.out.trans (hO.below HB.out.size (fun _ h => h))
      have HFS2 : Hid (d2.fs = decide (0 < lss)) := hfs2.trans HFS.out
      clear hI hG hfs2 hown2 hO HU HB HFS
      obtain ⟨K, hK⟩ : ∃ K : Nat, K = min mark.toNat lss := ⟨_, rfl⟩
      have hG2 : Good N (bs lb zb) (stepsOf N zu zv K) d2 := by have := HG.out; rw [stepsOf_take, ← hK] at this; exact this
      clear HG
      have HG := (show Hid _ from hG2)
      have hKl : K ≤ lss := by omega
      have hKm : (mark < (lss : Int) → (K : Int) = mark) ∧ (¬ mark < (lss : Int) → K = lss) := by omega
      have HKm := (show Hid _ from hKm)
      clear hG2 hK hKm
      have hwI : w.heap.size ≤ wI.heap.size := HBI.out.size
      -- what the checks read
      have c8 : wI.cell? ⟨sb, 8, none⟩ = some d2.ffv := by rw [HI.out.cff, HG.out.ffcv]
      obtain ⟨aq, cq, eq⟩ := HI.out.ffrow.form'
      rw [show (ints d2.ff).length = K by rw [HG.out.ff]; simp [ints, ffOf, stepsOf]] at eq
      have HC8 : Hid (wI.cell? ⟨sb, 8, none⟩ = some (.slice aq K cq)) := by show _ = _; rw [c8, eq]
      have HQ : Hid (∀ k, k < K → ∃ gq, aq = some ⟨gq, 0, none⟩ ∧ K ≤ cq ∧ wI.cell? ⟨gq, k, none⟩ = some (.int .i64 (zu k % (N : Int)))) := by
        show ∀ k, _
        intro k hk
        have ho := HI.out.ffrow
        rw [eq] at ho
        rcases ho.form with ⟨h, _⟩ | ⟨g, c, h, _, h3, _⟩
        · simp at h; omega
        · simp at h
          refine ⟨g, h.1, ?_, ?_⟩
          · rw [h.2.2]
            have : (ints d2.ff).length = K := by rw [HG.out.ff]; simp [ints, ffOf, stepsOf]
            omega
          · rw [h.1] at ho
            rw [ho.cell h.2.1 (by rw [← h.2.1]; exact hk), HG.out.ff]
            simp [ints, ffOf, stepsOf, hk]
            rw [Int.max_eq_left (HC2.out k (by omega)).2.2.1]
      have HST : Hid (∀ k, k < K → a2 = some ⟨b2, o2, none⟩ ∧ wI.cell? ⟨b2, o2 + k * 2, none⟩ = some (.int .u8 (zu k)) ∧ wI.cell? ⟨b2, o2 + k * 2 + 1, none⟩ = some (.int .u8 (zv k)) ∧ (0 ≤ zu k ∧ zu k ≤ 255) ∧ (0 ≤ zv k ∧ zv k ≤ 255) ∧ b2 < wI.heap.size) := by
        show ∀ k, _
        intro k hk
        obtain ⟨h1, h2, h3, h4, h5, h6⟩ := HC2.out k (by omega)
        have hlt : b2 < w.heap.size := lt_of_cell h1
        refine ⟨HA2.out (by omega), ?_, ?_, ⟨h3, h4⟩, ⟨h5, h6⟩, by omega⟩
        · rw [HBI.out.cell (p := ⟨b2, o2 + k * 2, none⟩) hlt]; exact h1
        · rw [HBI.out.cell (p := ⟨b2, o2 + k * 2 + 1, none⟩) hlt]; exact h2
      clear c8 eq
      have hsbI : sb < wI.heap.size := HI.out.lsb
      go_upto_if 135 with fail
      go_cut [17] from 133 to 136 (fun x17 w9 => x17 = .int .i64 K ∧ w9 = wI)
      case first =>
        by_cases hml : mark < (lss : Int)
        · have e := HKm.out.1 hml
          have HE := (show Hid _ from e)
          clear e
          go_wp2_with fail
          go_meet
          case rel => exact ⟨by rw [HE.out], rfl⟩
        · have e := HKm.out.2 (by omega)
          have HE := (show Hid _ from e)
          clear e
          go_wp2_with fail
          go_meet
          case rel => exact ⟨by rw [HE.out], rfl⟩
      case rest =>
        obtain ⟨rfl, hwc⟩ := hcut
        obtain rfl : wI = wc := hwc.symm
        have c8 := HC8.out
        go_upto_block 4 with fail
        go_cut [8] from 144 to 164 (fun x8 w9 => x8 = .bool false ∧ Below wI.heap.size wI w9)
        case first =>
          clear c8
          go_wp2_with fail
          go_loopw [8, 18] (fun x8 i wr => ∃ k : Nat, k ≤ K ∧ x8 = .bool false ∧ i = .int .i64 k ∧ Below wI.heap.size wI wr) (fun _ i _ => K - (intOf i).toNat)
          case atStart => exact ⟨0, by omega, rfl, rfl, Below.refl _ _⟩
          case round =>
            obtain ⟨k, hk, rfl, rfl, hB⟩ := hrel
            have HB := (show Hid _ from hB)
            clear hB
            by_cases hkK : k < K
            · obtain ⟨gq, rfl, hKc, hcq⟩ := HQ.out k hkK
              obtain ⟨rfl, hs1, _, hz, _, hbl⟩ := HST.out k hkK
              have hgl : gq < wI.heap.size := lt_of_cell hcq
              have c8 : wr.cell? ⟨sb, 8, none⟩ = some (.slice (some ⟨gq, 0, none⟩) K cq) := (HB.out.cell (p := ⟨sb, 8, none⟩) hsbI).trans HC8.out
              have hcq' : wr.cell? ⟨gq, k, none⟩ = some (.int .i64 (zu k % (N : Int))) := (HB.out.cell (p := ⟨gq, k, none⟩) hgl).trans hcq
              have hs1' : wr.cell? ⟨b2, o2 + k * 2, none⟩ = some (.int .u8 (zu k)) := (HB.out.cell (p := ⟨b2, o2 + k * 2, none⟩) hbl).trans hs1
              clear hcq hs1
              have hkl : (k : Int) < lss := by omega
              go_wp2_with fail
              go_quiet (fail)
              go_wp2_with fail
              go_roundw
              case rel => exact ⟨k + 1, by omega, rfl, by go_num, below_drewN HB.out _⟩
              case measure => simp [intOf]; omega
            · go_wp2_with fail
              go_meet
              case rel => exact ⟨rfl, HB.out⟩
        case rest =>
          obtain ⟨rfl, hB9⟩ := hcut
          have HB9 := (show Hid _ from hB9)
          clear hB9 c8 HQ HC8
          go_upto_if 167 with fail
          go_cut [8] from 165 to 220 (fun x8 w9 => x8 = .bool false ∧ Below wI.heap.size wI w9)
          case first =>
            by_cases hl0 : lss = 0
            · have c7 : wc.cell? ⟨sb, 7, none⟩ = some (.slice none 0 0) := by
                rw [HB9.out.cell (p := ⟨sb, 7, none⟩) hsbI, HI.out.cf, HFS2.out]
                simp [hl0]
              have hl1 : ((lss : Int) == 0) = true := by simp; omega
              have HL0 := (show Hid _ from hl0)
              clear hl0
              go_wp2_with fail
              go_meet
              case rel => exact ⟨rfl, HB9.out⟩
            · have hfs2 : d2.fs = true := by rw [HFS2.out]; simp; omega
              have HFT := (show Hid _ from hfs2)
              clear hfs2
              have c7 : wc.cell? ⟨sb, 7, none⟩ = some (.slice (some ⟨fb, 0, none⟩) N N) := by
                rw [HB9.out.cell (p := ⟨sb, 7, none⟩) hsbI, HI.out.cf, if_pos HFT.out]
              have hl1 : (lss : Int) ≠ 0 := by omega
              go_wp2_with fail
              go_loopw [8, 19] (fun x8 i wr => ∃ x : Nat, x ≤ N ∧ x8 = .bool false ∧ i = .int .i64 x ∧ Below wI.heap.size wI wr) (fun _ i _ => N - (intOf i).toNat)
              case atStart => exact ⟨0, by omega, rfl, rfl, HB9.out⟩
              case round =>
                obtain ⟨x, hx, rfl, rfl, hB⟩ := hrel
                have HB := (show Hid _ from hB)
                clear hB c7
                by_cases hxN : x < N
                · go_upto_block 8 with fail
                  go_cut [20] from 185 to 210 (fun ev w9 => OwnV w9 3 ev (ints (rowOf (stepsOf N zu zv K) x)) ∧ Below wI.heap.size wI w9)
                  case first =>
                    go_wp2_with fail
                    go_loopw [20, 21] (fun ev i w9 => ∃ j : Nat, j ≤ K ∧ i = .int .i64 j ∧ OwnV w9 3 ev (ints (rowOf (stepsOf N zu zv j) x)) ∧ (∀ g, ev.ownBlock = some g → wI.heap.size ≤ g) ∧ Below wI.heap.size wI w9) (fun _ i _ => K - (intOf i).toNat)
                    case atStart => exact ⟨0, by omega, rfl, OwnV.nil _ _, (by intro g h; cases h), HB.out⟩
                    case round =>
                      obtain ⟨j, hj, rfl, hown, hnew, hB2⟩ := hrel
                      have HOW := (show Hid _ from hown)
                      have HNW := (show Hid _ from hnew)
                      have HB2 := (show Hid _ from hB2)
                      clear hown hnew hB2
                      by_cases hjK : j < K
                      · obtain ⟨rfl, hs1, hs2, hz1, hz2, hbl⟩ := HST.out j hjK
                        have hs1' := (HB2.out.cell (p := ⟨b2, o2 + j * 2, none⟩) hbl).trans hs1
                        have hs2' := (HB2.out.cell (p := ⟨b2, o2 + j * 2 + 1, none⟩) hbl).trans hs2
                        clear hs1 hs2
                        have hjl : (j : Int) < lss := by omega
                        have hlen : (ints (rowOf (stepsOf N zu zv j) x)).length ≤ 65536 := by
                          have : (rowOf (stepsOf N zu zv j) x).length ≤ (stepsOf N zu zv j).length := by
                            simp only [rowOf, List.length_map]; exact List.length_filter_le _ _
                          simp [ints, stepsOf] at this ⊢
                          omega
                        have HLEN := (show Hid _ from hlen)
                        clear hlen
                        obtain ⟨i0, hi, hi0, hi1, hi2⟩ := info_parts info3
                        by_cases hxu : zu j % (N : Int) = (x : Int)
                        · have HOWA : Hid (OwnV (wr.alloc (Obj.cells #[Value.int IntKind.i64 (zv j % (N : Int))] 3)) 3 u20 (ints (rowOf (stepsOf N zu zv j) x))) := OwnV.frame HOW.out fun g hg => Below.heap_alloc _ _ _ (OwnV.lt HOW.out hg)
                          have HSS : Hid (ints (rowOf (stepsOf N zu zv (j + 1)) x) = ints (rowOf (stepsOf N zu zv j) x) ++ [.int .i64 (zv j % (N : Int))]) := by
                            show _ = _
                            have e1 : (zu j).toNat % N = x := by
                              have := modN (zu j) N hz1.1
                              omega
                            rw [stepsOf_succ, e1, rowOf_snoc_same, modN (zv j) N hz2.1]
                            simp [ints]
                          go_wp2_with (at_builtin; refine wpList_append_n _ rfl (.tmp 200) (.tmp 209) 22 rfl 3 i0 (.int .i64 0) 8 Yba.underlying22 hi hi0 hi1 hi2 rfl u20 (ints (rowOf (stepsOf N zu zv j) x)) rfl HOWA.out ⟨wr.heap.size, 0, none⟩ 1 1 [.int .i64 (zv j % (N : Int))] rfl rfl (by decide) (one_new _ _ _ _ rfl) (by intro q hq; simp at hq; subst hq; rfl) (by have := HLEN.out; unfold maxLen; omega) (by have := HLEN.out; omega) ?_; intro g1 cap1 w1 hown hgrow hpl hcap; have HX := (show Hid _ from And.intro hown (And.intro hgrow (And.intro hpl hcap))); clear hown hgrow hpl hcap)
                          go_roundw
                          case rel =>
                            obtain ⟨hown, hgrow, hpl, hcap⟩ := HX.out
                            have hsz := HB2.out.size
                            refine ⟨j + 1, by omega, by go_num, ?_, ?_, ?_⟩
                            · rw [HSS.out]; exact hown
                            · intro g hg
                              have hg' : g1 = g := by simpa [Value.ownBlock] using hg
                              subst hg'
                              rcases hpl with h | h
                              · exact HNW.out _ h
                              · simp at h; omega
                            · exact (HB2.out.alloc hsz _).grown hgrow (by simp; omega) (fun q hq => HNW.out q hq)
                          case measure => simp [intOf]; omega
                        · go_wp2_with fail
                          go_roundw
                          case rel =>
                            refine ⟨j + 1, by omega, by go_num, ?_, HNW.out, HB2.out⟩
                            have e1 : x ≠ (zu j).toNat % N := by
                              have := modN (zu j) N hz1.1
                              omega
                            rw [stepsOf_succ, rowOf_snoc_other _ _ _ _ e1]
                            exact HOW.out
                          case measure => simp [intOf]; omega
                      · go_wp2_with fail
                        go_meet
                        case rel => 
                          obtain rfl : j = K := by omega
                          exact ⟨HOW.out, HB2.out⟩
                  case rest =>
                    obtain ⟨hown, hB2⟩ := hcut
                    have c7 : wc.cell? ⟨sb, 7, none⟩ = some (.slice (some ⟨fb, 0, none⟩) N N) := by
                      rw [hB2.cell (p := ⟨sb, 7, none⟩) hsbI, HI.out.cf, if_pos HFT.out]
                    have hfbl : fb < wI.heap.size := lt_of_block (HI.out.frow HFT.out)
                    have cf : wc.cell? ⟨fb, x, none⟩ = some (d2.fv x) := by
                      rw [hB2.cell (p := ⟨fb, x, none⟩) hfbl, (HI.out.fcell HFT.out hxN).1, HG.out.fcv x hxN]
                    have hrow : OwnV wc 3 (d2.fv x) (ints (rowOf (stepsOf N zu zv K) x)) := by
                      rw [← HG.out.R x hxN]
                      exact (HI.out.rows x hxN).frame fun g hg => hB2.block g ((HI.out.rows x hxN).lt hg)
                    have hlen : (rowOf (stepsOf N zu zv K) x).length ≤ 1000000 := by
                      have : (rowOf (stepsOf N zu zv K) x).length ≤ (stepsOf N zu zv K).length := by
                        simp only [rowOf, List.length_map]; exact List.length_filter_le _ _
                      simp [stepsOf] at this ⊢
                      omega
                    have HEQ := (show Hid _ from equal_same (d2.fv x) u20 _ wc hlen hrow hown)
                    have HB2 := (show Hid _ from hB2)
                    clear hrow hlen hown hB2
                    have hxl : (x : Int) < N := by omega
                    go_wp2_with fail
                    refine Calls.mono HEQ.out ?_
                    rintro e w9 ⟨rfl, n9, rfl⟩
                    go_wp2_with fail
                    go_roundw
                    case rel => exact ⟨x + 1, by omega, rfl, by go_num, below_drewN HB2.out _⟩
                    case measure => simp [intOf]; omega
                · go_wp2_with fail
                  go_meet
                  case rel => exact ⟨rfl, HB.out⟩
          case rest =>
            obtain ⟨rfl, hB10⟩ := hcut
            have HB10 := (show Hid _ from hB10)
            clear hB10
            have c6 : wc.cell? ⟨sb, 6, none⟩ = some (.slice (some ⟨w.heap.size, 0, none⟩) N N) := by
              rw [HB10.out.cell (p := ⟨sb, 6, none⟩) hsbI]; exact HI.out.cw
            go_wp2_with fail
            go_loopw [8, 22] (fun x8 i wr => ∃ v : Nat, v ≤ N ∧ x8 = .bool false ∧ i = .int .i64 v ∧ Below wI.heap.size wI wr) (fun _ i _ => N - (intOf i).toNat)
            case atStart => exact ⟨0, by omega, rfl, rfl, HB10.out⟩
            case round =>
              obtain ⟨v, hv, rfl, rfl, hB⟩ := hrel
              have HB := (show Hid _ from hB)
              clear hB c6
              by_cases hvN : v < N
              · have hvn : (v : Int) < N := by omega
                go_upto_if 236 with fail
                go_cut [23] from 233 to 241 (fun x23 w9 => x23 = .int .i64 (bs lb zb v) ∧ w9 = wr)
                case first =>
                  by_cases hvl : v < lb
                  · obtain rfl := HA1.out (by omega)
                    have hc := (HC1.out v hvl).1
                    have hc2 := (HC1.out v hvl).2
                    have hlt : b1 < w.heap.size := lt_of_cell hc
                    have hc' : wr.cell? ⟨b1, o1 + v, none⟩ = some (.int .u8 (zb v)) := by
                      rw [HB.out.cell (p := ⟨b1, o1 + v, none⟩) (by exact Nat.lt_of_lt_of_le hlt hwI), HBI.out.cell (p := ⟨b1, o1 + v, none⟩) hlt]; exact hc
                    clear hc
                    have hvl' : (v : Int) < lb := by omega
                    have HBS : Hid (bs lb zb v = zb v) := by show _ = _; simp [bs, hvl]
                    go_wp2_with fail
                    go_meet
                    case rel => exact ⟨by rw [HBS.out], rfl⟩
                  · have HBS : Hid (bs lb zb v = 0) := by show _ = _; simp [bs, hvl]
                    have hvl' : ¬ (v : Int) < lb := by omega
                    go_wp2_with fail
                    go_meet
                    case rel => exact ⟨by rw [HBS.out], rfl⟩
                case rest =>
                  obtain ⟨rfl, hwc⟩ := hcut
                  obtain rfl : wr = wc := hwc.symm
                  have hbv : 0 ≤ bs lb zb v ∧ bs lb zb v ≤ 255 := by
                    unfold bs
                    split
                    · rename_i h; exact (HC1.out v h).2
                    · omega
                  go_upto_block 12 with fail
                  go_cut [23] from 242 to 258 (fun x23 w9 => x23 = .int .i64 (bs lb zb v + (cnt (stepsOf N zu zv K) v : Int)) ∧ Below wI.heap.size wI w9)
                  case first =>
                    go_wp2_with fail
                    go_loopw [23, 24] (fun ev i w9 => ∃ j : Nat, j ≤ K ∧ i = .int .i64 j ∧ ev = .int .i64 (bs lb zb v + (cnt (stepsOf N zu zv j) v : Int)) ∧ Below wI.heap.size wI w9) (fun _ i _ => K - (intOf i).toNat)
                    case atStart => exact ⟨0, by omega, rfl, by simp [stepsOf, cnt], HB.out⟩
                    case round =>
                      obtain ⟨j, hj, rfl, rfl, hB2⟩ := hrel
                      have HB2 := (show Hid _ from hB2)
                      clear hB2
                      by_cases hjK : j < K
                      · obtain ⟨rfl, hs1, hs2, hz1, hz2, hbl⟩ := HST.out j hjK
                        have hs2' := (HB2.out.cell (p := ⟨b2, o2 + j * 2 + 1, none⟩) hbl).trans hs2
                        clear hs1 hs2
                        have hjl : (j : Int) < lss := by omega
                        have hlen : cnt (stepsOf N zu zv j) v ≤ 65536 := by
                          have : cnt (stepsOf N zu zv j) v ≤ (stepsOf N zu zv j).length := List.length_filter_le _ _
                          simp [stepsOf] at this ⊢
                          omega
                        have HS : Hid (cnt (stepsOf N zu zv (j + 1)) v = cnt (stepsOf N zu zv j) v + if v = (zv j).toNat % N then 1 else 0) := by
                          show _ = _
                          rw [stepsOf_succ, cnt_snoc]
                        have HM := (show Hid _ from modN (zv j) N hz2.1)
                        generalize cnt (stepsOf N zu zv j) v = E at *
                        by_cases hxu : zv j % (N : Int) = (v : Int)
                        · go_wp2_with fail
                          go_roundw
                          case rel =>
                            refine ⟨j + 1, by omega, by go_num, ?_, HB2.out⟩
                            have := HM.out
                            rw [HS.out, if_pos (by omega)]
                            go_num
                          case measure => simp [intOf]; omega
                        · go_wp2_with fail
                          go_roundw
                          case rel =>
                            refine ⟨j + 1, by omega, by go_num, ?_, HB2.out⟩
                            have := HM.out
                            rw [HS.out, if_neg (by omega)]
                            rfl
                          case measure => simp [intOf]; omega
                      · go_wp2_with fail
                        go_meet
                        case rel =>
                          obtain rfl : j = K := by omega
                          exact ⟨rfl, HB2.out⟩
                  case rest =>
                    obtain ⟨rfl, hB2⟩ := hcut
                    have c6 : wc.cell? ⟨sb, 6, none⟩ = some (.slice (some ⟨w.heap.size, 0, none⟩) N N) := by
                      rw [hB2.cell (p := ⟨sb, 6, none⟩) hsbI]; exact HI.out.cw
                    have cv : wc.cell? ⟨w.heap.size, v, none⟩ = some (.int .i64 (bs lb zb v + (cnt (stepsOf N zu zv K) v : Int))) := by
                      rw [hB2.cell (p := ⟨w.heap.size, v, none⟩) (lt_of_block HI.out.wrow), (HI.out.wcell hvN).1, HG.out.wt, wtOf_get _ _ _ _ hvN]
                    have HB2 := (show Hid _ from hB2)
                    clear hB2
                    go_wp2_with fail
                    go_roundw
                    case rel => exact ⟨v + 1, by omega, rfl, by go_num, HB2.out⟩
                    case measure => simp [intOf]; omega
              · go_wp2_with fail
                go_ret
                exact ⟨rfl, HBI.out.trans (HB.out.mono hwI)⟩
end Go.Proofs.Ybulkecis

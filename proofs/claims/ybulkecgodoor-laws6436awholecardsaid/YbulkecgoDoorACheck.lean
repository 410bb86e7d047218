/-
  The law's check at one limit.
-/
import Derived.Test.YbulkecgoDoorApp
import Derived.Test.YbulkecgoDoorAint
import Derived.Deep.CutRange
import Derived.Deep.CutBlock
namespace Go.Proofs.YbulkecgoDoor
open Go.RowKit Go.Shelf _root_.Go.Proofs.YbulkecgoDoor.Own
set_option linter.unusedVariables false
set_option maxRecDepth 100000

theorem siz5 : (Ybad.prog.info? 5).map (·.size) = some 1 := by kernel_rfl
theorem wpList_make_b {P : Program} (w : World) {ops : Array Oper} {rest : List Oper} {o : Oper} {a : Act} {Q : Exit → Act → World → Prop}
    (hg : o.guard = none) (l c : Operand) (t : TypeId) (hop : o.op = Op.makeSlice t l c)
    (e : TypeId) (i : TypeInfo) (z : Value) (h1 : P.underlying t = some (.slice e)) (h2 : P.info? e = some i) (h3 : i.zero = some z) (h4 : i.size = 1) (h5 : i.bytes = 1) (hzc : z.cells = #[z])
    (n : Nat) (hl : a.eval l = .int .i64 (n : Int)) (hc : a.eval c = .int .i64 (n : Int)) (hn : n ≤ 2000000)
    (hK : ∀ w', Hid (w'.heap[w.heap.size]? = some (.cells (List.replicate n z).toArray e (0, 0))) → Below w.heap.size w w' → w'.heap.size = w.heap.size + 1 → wpList P ops Q rest (a.put o.dst (.slice (some ⟨w.heap.size, 0, none⟩) n n)) w') :
    wpList P ops Q (o :: rest) a w := by
  refine wpList_make_v w hg l c t hop e i z h1 h2 h3 h4 hzc .i64 .i64 n n n n hl hc rfl rfl (Nat.le_refl _) (by rw [h5]; omega) (by omega) ?_
  exact hK _ (heap_alloc_new w _) ((Below.refl _ w).alloc (Nat.le_refl _) _) (by simp)
theorem Byc.later {w w' : World} {b o n : Nat} {F : Nat → Nat} (h : Byc w b o n F) (hb : Below w.heap.size w w') : Byc w' b o n F := fun i hi => cell_later hb (h i hi)
theorem bel_drewN (w : World) (m : Nat) : Below w.heap.size w (w.drewN m) := ⟨rfl, rfl, rfl, Nat.le_refl _, fun _ _ => rfl⟩
theorem bf_below {w w' : World} {v : Value} {bs : List Nat} (h : Bf w w' (.slice none 0 0) v bs) : Below w.heap.size w w' := ⟨h.onl.os, h.onl.tape, h.onl.output, h.onl.size, fun k hk => h.onl.block k hk (by simp [Value.ownBlock])⟩

set_option maxHeartbeats 4000000 in
theorem acheck_walk (w : World) (da va ba ea : Option Addr) (dn dc n vc bc ec db do' vb vo bb bo' eb : Nat) (ds : List Nat) (V : Nat → Nat) (lim : Int) (hdl : ds.length = dn) (hd : dn ≤ 1048576) (hn : n ≤ 65536) (hnv : n ≤ vc) (hva : va = none → vc = 0)
    (SD : Hid (Src w da dn (byts ds))) (hda : 0 < dn → da = some ⟨db, do', none⟩) (HD : Hid (Byc w db do' dn (fun j => ds.getD j 0))) (hv : 0 < n → va = some ⟨vb, vo, none⟩) (HF : Hid (Flo w vb vo n V)) (HV : Hid (∀ i, i < n → V i < 18446744073709551616)) (HT : Hid (Tab w))
    (hb : 0 < n → ba = some ⟨bb, bo', none⟩) (HBB : Hid (∀ i, i < n → w.cell? ⟨bb, bo' + i, none⟩ = some (.int .u64 (V i)))) (hea : ea = some ⟨eb, 0, none⟩) (HE : Hid (Byc w eb 0 (encA V n).length (fun j => (encA V n).getD j 0))) (hel : (encA V n).length ≤ 100000000) (he1 : 1 ≤ (encA V n).length) :
    Calls Ybad.prog 9 #[.slice da dn dc, .slice va n vc, .slice ba n bc, .slice ea (encA V n).length ec, .int .i64 lim] w fun e w' => e = .returned (.bool true) ∧ Below w.heap.size w w' := by
  subst hea
  obtain ⟨i5, a5, b5, c5, d5⟩ := info_parts info5
  have J5 := (show Hid _ from And.intro a5 (And.intro b5 (And.intro c5 d5)))
  clear a5 b5 c5 d5
  have HBT := @bits64
  have HA := (show Hid _ from And.intro hda (And.intro hv hb))
  obtain ⟨L, hL⟩ : ∃ L, (encA V n).length = L := ⟨_, rfl⟩
  have HLL := (show Hid _ from hL)
  rw [hL] at HE hel he1 ⊢
  have hd' : (dn : Int) ≤ 1048576 := by omega
  have hL' : (L : Int) ≤ 100000000 := by omega
  have hn' : (n : Int) ≤ 65536 := by omega
  clear hL hda hv hb
  go_enter Ybad.func9, Ybad.ntmps9
  go_upto_region 2 with (at_make; refine wpList_make_b _ rfl _ _ 22 rfl 5 i5 (.int .u8 0) Ybad.underlying22 J5.out.1 J5.out.2.1 J5.out.2.2.1 J5.out.2.2.2 rfl dn rfl rfl (by omega) ?_; intro w1 HR1 hB1 hs1)
  have SD1 := (show Hid _ from SD.out.below hB1)
  go_upto_region 3 with (refine wpList_copy_splice rfl _ _ 22 22 rfl 5 Ybad.underlying22 siz5 _ _ _ _ _ _ rfl rfl w.heap.size 0 _ 5 HR1.out (byts ds) (by rw [byts_len, hdl]; simp) (Src.pos SD1.out rfl) (by simp [byts_len, hdl]) SD1.out.one w.heap.size w hB1 (Nat.le_refl _) ?_; intro w2 HR2 hB2)
  have hcc : ∀ j, j < dn → w2.cell? ⟨w.heap.size, j, none⟩ = some (.int .u8 ((ds.getD j 0 : Nat) : Int)) := by
    intro j hj
    have h := HR2.out
    have h2 := splice_all (byts ds) (.int .u8 0)
    rw [byts_len, hdl] at h2
    rw [h2] at h
    rw [cell_of_row _ _ j _ _ _ h]
    simp [byts, show j < ds.length by omega]
  have HC : Hid (∀ j, j < dn → w2.cell? ⟨w.heap.size, j, none⟩ = some (.int .u8 ((ds.getD j 0 : Nat) : Int))) := hcc
  have HB2 : Hid (Below w.heap.size w w2) := hB2
  have K1 := (show Hid _ from aif_walk w2 w.heap.size dn ds hdl va vb vo n vc V lim hn hnv hva HA.out.2.1 (show Hid _ from fun i hi => cell_later hB2 (HF.out i hi)) (show Hid _ from ⟨cell_later hB2 HT.out.c1, fun j hj => cell_later hB2 (HT.out.c2 j hj)⟩) HV HC (by omega))
  clear hcc hB1 hB2 hs1 HR1 SD1 HR2 SD HT
  go_wp2_with fail
  refine Calls.mono K1.out ?_
  intro e w3 hres
  -- what came back, told as one
  have hone : ∃ (rv : Value) (ok : Bool), e = .returned (.tuple #[rv, .bool ok]) ∧ Below w2.heap.size w2 w3 ∧ ok = decide ((L : Int) < lim) ∧ ((ok = false ∧ rv = .slice (some ⟨w.heap.size, 0, none⟩) dn dn) ∨ (ok = true ∧ ∃ g cap, rv = .slice (some ⟨g, 0, none⟩) (dn + L) cap ∧ dn + L ≤ cap ∧ cap ≤ 9223372036854775807 ∧ Byc w3 g 0 dn (fun j => ds.getD j 0) ∧ Byc w3 g dn L (fun j => (encA V n).getD j 0))) := by
    have hLL := HLL.out
    rcases hres with ⟨v', rfl, hlt, hB⟩ | ⟨rfl, hlt, hB⟩
    · rw [hLL] at hlt
      refine ⟨v', true, rfl, bf_below hB, by simp [hlt], .inr ⟨rfl, ?_⟩⟩
      have hlen : (byts (ds ++ encA V n)).length = dn + L := by rw [byts_len, List.length_append, hdl, hLL]
      rcases hB.own.form with ⟨_, hx⟩ | ⟨g, cap, hv', hgb, h1, h2, _⟩
      · rw [hx] at hlen; simp at hlen; omega
      · rw [hlen] at hv' h1
        subst hv'
        have hcell : ∀ j, j < dn + L → w3.cell? ⟨g, j, none⟩ = some (.int .u8 (((ds ++ encA V n).getD j 0 : Nat) : Int)) := by
          intro j hj
          rw [hB.own.cell hlen.symm (by omega)]
          have hj' : j < (ds ++ encA V n).length := by rw [List.length_append, hdl, hLL]; exact hj
          unfold byts
          rw [List.getElem?_map, List.getElem?_eq_getElem hj', List.getD, List.getElem?_eq_getElem hj']
          rfl
        refine ⟨g, cap, rfl, h1, by unfold maxLen at h2; omega, fun j hj => ?_, fun j hj => ?_⟩
        · rw [Nat.zero_add, hcell j (by omega)]
          rw [List.getD_eq_getElem?_getD, List.getElem?_append_left (by omega), ← List.getD_eq_getElem?_getD]
        · rw [hcell (dn + j) (by omega)]
          rw [List.getD_eq_getElem?_getD, List.getElem?_append_right (by omega), hdl, Nat.add_sub_cancel_left, ← List.getD_eq_getElem?_getD]
    · rw [hLL] at hlt
      exact ⟨_, false, rfl, hB, by simp [hlt], .inl ⟨rfl, rfl⟩⟩
  obtain ⟨rv, ok, rfl, hB3, hok, hfork⟩ := hone
  have HB3 := (show Hid _ from hB3)
  have HOK := (show Hid _ from hok)
  have HFK := (show Hid _ from hfork)
  have HC3 : Hid (Byc w3 w.heap.size 0 dn (fun j => ds.getD j 0)) := fun j hj => by rw [Nat.zero_add]; exact cell_later hB3 (HC.out j hj)
  have hB03 : Below w.heap.size w w3 := HB2.out.trans (hB3.mono HB2.out.size)
  have HB03 := (show Hid _ from hB03)
  have K2 := (show Hid _ from aeq_walk w3 (some ⟨w.heap.size, 0, none⟩) da dn dn dc w.heap.size 0 db do' (fun j => ds.getD j 0) (by omega) (fun _ => rfl) HA.out.1 HC3 (show Hid _ from HD.out.later hB03))
  clear hres hB3 hok hfork hB03 K1
  go_wp2_with fail
  refine Calls.mono K2.out ?_
  rintro e w4 ⟨rfl, m4, hw4⟩
  have HB4 : Hid (Below w3.heap.size w3 w4) := by show Below _ _ _; rw [hw4]; exact bel_drewN _ _
  clear hw4 K2
  go_wp2_with fail
  have HB04 : Hid (Below w.heap.size w w4) := HB03.out.trans (HB4.out.mono HB03.out.size)
  go_loopw [10, 14, 34] (fun x10 x14 x34 wr => x10 = .bool false ∧ (∃ i : Nat, i ≤ n ∧ x34 = .int .i64 i) ∧ Below w4.heap.size w4 wr) (fun _ _ i _ => n - (intOf i).toNat)
  case atStart => exact ⟨rfl, ⟨0, by omega, rfl⟩, Below.refl _ _⟩
  case round =>
    obtain ⟨rfl, ⟨i, hi, rfl⟩, hbr⟩ := hrel
    have HBR := (show Hid _ from hbr)
    by_cases hin : i < n
    · have hin' : (i : Int) < n := by omega
      obtain rfl := HA.out.2.1 (by omega)
      obtain rfl := HA.out.2.2 (by omega)
      have h1 := cell_later hbr (cell_later HB04.out (HF.out i hin))
      have h2 := cell_later hbr (cell_later HB04.out (HBB.out i hin))
      clear hbr
      go_wp2_with fail
      go_big_region
      go_wp2_with fail
      go_roundw
      case rel => exact ⟨rfl, ⟨i + 1, by omega, by go_num⟩, HBR.out.drew⟩
      case measure => simp [intOf]; omega
    · obtain rfl : n = i := by omega
      have hin' : ¬ (n : Int) < n := by omega
      have hb35 : Below w3.heap.size w3 wr := HB4.out.trans (hbr.mono HB4.out.size)
      have HB05 : Hid (Below w.heap.size w wr) := HB04.out.trans (hbr.mono HB04.out.size)
      have HC5 : Hid (Byc wr w.heap.size 0 dn (fun j => ds.getD j 0)) := HC3.out.later hb35
      have HE5 : Hid (Byc wr eb 0 L (fun j => (encA V n).getD j 0)) := HE.out.later HB05.out
      have HB35 := (show Hid _ from hb35)
      clear hbr HBR hb35
      rcases HFK.out with ⟨rfl, rfl⟩ | ⟨rfl, g, cap, rfl, hc1, hc2, hg1, hg2⟩
      · have hlt : ¬ (L : Int) < lim := by have := HOK.out; simpa using this.symm
        have K3 := (show Hid _ from aeq_walk wr (some ⟨w.heap.size, 0, none⟩) (some ⟨w.heap.size, 0, none⟩) dn dn dn w.heap.size 0 w.heap.size 0 (fun j => ds.getD j 0) (by omega) (fun _ => rfl) (fun _ => rfl) HC5 HC5)
        clear HOK HFK
        go_wp2_with fail
        refine Calls.mono K3.out ?_
        rintro e w5 ⟨rfl, m5, hw5⟩
        have HB6 : Hid (Below w.heap.size w w5) := by show Below _ _ _; rw [hw5]; exact HB05.out.trans ((bel_drewN _ _).mono HB05.out.size)
        clear hw5 K3
        go_wp2_with fail
        go_ret
        exact ⟨rfl, HB6.out⟩
      · have hlt : (L : Int) < lim := by have := HOK.out; simpa using this.symm
        have HG1 : Hid (Byc wr g 0 dn (fun j => ds.getD j 0)) := hg1.later HB35.out
        have HG2 : Hid (Byc wr g dn L (fun j => (encA V n).getD j 0)) := hg2.later HB35.out
        have hc1' : (dn : Int) + (L : Int) ≤ cap := by omega
        have hdc : (dn : Int) ≤ cap := by omega
        have hdc2 : (dn : Int) ≤ (dn : Int) + (L : Int) := by omega
        have hnz : ¬ ((cap : Int) - (dn : Int) = 0) := by omega
        have K3 := (show Hid _ from aeq_walk wr (some ⟨g, 0, none⟩) (some ⟨w.heap.size, 0, none⟩) dn cap dn g 0 w.heap.size 0 (fun j => ds.getD j 0) (by omega) (fun _ => rfl) (fun _ => rfl) HG1 HC5)
        clear HOK HFK hg1 hg2
        go_wp2_with fail
        refine Calls.mono K3.out ?_
        rintro e w5 ⟨rfl, m5, hw5⟩
        have hb5 : Below wr.heap.size wr w5 := by rw [hw5]; exact bel_drewN _ _
        have HB6 : Hid (Below w.heap.size w w5) := HB05.out.trans (hb5.mono HB05.out.size)
        have K4 := (show Hid _ from aeq_walk w5 (some ⟨g, dn, none⟩) (some ⟨eb, 0, none⟩) L (cap - dn) ec g dn eb 0 (fun j => (encA V n).getD j 0) (by omega) (fun _ => rfl) (fun _ => rfl) (show Hid _ from HG2.out.later hb5) (show Hid _ from HE5.out.later hb5))
        clear hw5 K3 hb5
        go_wp2_with fail
        refine Calls.mono K4.out ?_
        rintro e w6 ⟨rfl, m6, hw6⟩
        have HB7 : Hid (Below w.heap.size w w6) := by show Below _ _ _; rw [hw6]; exact HB6.out.trans ((bel_drewN _ _).mono HB6.out.size)
        clear hw6 K4
        go_wp2_with fail
        go_ret
        exact ⟨rfl, HB7.out⟩
end Go.Proofs.YbulkecgoDoor

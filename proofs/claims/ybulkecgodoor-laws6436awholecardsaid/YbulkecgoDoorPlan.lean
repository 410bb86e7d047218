/-
  (*scaledSeries).plan.
-/
import Derived.Test.YbulkecgoDoorPlanInv
import Derived.Deep.CutRange
import Derived.Deep.CutBlock
import Derived.BigRegion
namespace Go.Proofs.YbulkecgoDoor
open Go.RowKit Go.Shelf _root_.Go.Proofs.YbulkecgoDoor.Own
set_option linter.unusedVariables false
set_option maxRecDepth 100000

/-- What lay in the row: the old numbers, then noughts. -/
def old0 (C : Nat) (D0 : Nat → Int) (i : Nat) : Int := if i < C then D0 i else 0

/-- The old ints: nil, or a block of the call's own. -/
def IntsOk (w : World) (B0 sb ib C : Nat) (ia : Option Addr) (D0 : Nat → Int) : Prop :=
  (ia = none ∧ C = 0) ∨ (ia = some ⟨ib, 0, none⟩ ∧ Row w ib 0 C D0 ∧ (∀ q, w.frozen? ⟨ib, q, none⟩ = false) ∧ B0 ≤ ib ∧ ib < w.heap.size ∧ ib ≠ sb)

theorem grow_walk (w : World) (B0 sb ib C n X : Nat) (ia ea : Option Addr) (D0 : Nat → Int) (hC : C ≤ 65536) (hn0 : 0 < n) (hn : n ≤ 65536) (hI : IntsOk w B0 sb ib C ia D0)
    (hE : OwnV w 3 (.slice ea 0 X) []) (hEb : ∀ g, (Value.slice ea 0 X).ownBlock = some g → (ia = some ⟨ib, 0, none⟩ → g ≠ ib) ∧ g ≠ sb ∧ B0 ≤ g) (hB : B0 ≤ w.heap.size) (hsb : sb < w.heap.size) (hfs : ∀ q, w.frozen? ⟨sb, q, none⟩ = false) :
    Calls Ybad.prog 21 #[.slice ia 0 C, .int .i64 n] w fun e w' => ∃ gi cap, n ≤ cap ∧ cap ≤ maxLen ∧ e = .returned (.slice (some ⟨gi, 0, none⟩) 0 cap) ∧ Pln w w' B0 sb gi n (old0 C D0) (.slice ea 0 X) [] := by
  by_cases hnC : n ≤ C
  · rcases hI with ⟨_, h⟩ | ⟨rfl, hr, hf, hb, hl, hne⟩
    · omega
    · refine (grow_keeps _ C n w hC hnC).mono ?_
      rintro e w' ⟨rfl, rfl⟩
      refine ⟨ib, C, hnC, by unfold maxLen; omega, rfl, Below.refl _ _, fun i hi => ?_, hf, hE, fun g hg => ⟨(hEb g hg).1 rfl, (hEb g hg).2⟩, fun _ => rfl, hfs, hl, hsb, hb, hne⟩
      unfold old0
      rw [if_pos (by omega)]
      exact hr i (by omega)
  · have holds : ∀ a, ia = some a → ∀ j v, ((List.range C).map (fun i => Value.int .i64 (D0 i)))[j]? = some v → w.cell? (a.add j) = some v := by
      intro a ha j v hj
      rcases hI with ⟨h, _⟩ | ⟨h, hr, _⟩
      · rw [h] at ha; cases ha
      · rw [h] at ha
        cases ha
        rw [Go.WideShapes.add_plain]
        by_cases hjC : j < C
        · simp [hjC] at hj
          rw [hr j hjC, hj]
        · simp [hjC] at hj
    refine (grow_grows ia C n ((List.range C).map (fun i => Value.int .i64 (D0 i))) w (by simp) (fun h => ?_) holds (by omega) hn).mono ?_
    · rcases hI with ⟨_, h'⟩ | ⟨h', _⟩
      · exact h'
      · rw [h'] at h; cases h
    · rintro e w' ⟨cap, h1, h2, rfl, rfl⟩
      have hrow := heap_alloc_new w.drew (.cells (((List.range C).map (fun i => Value.int .i64 (D0 i))) ++ List.replicate (cap - C) (Value.int .i64 0)).toArray 2)
      have hbel : Below w.heap.size w (w.drew.alloc (.cells (((List.range C).map (fun i => Value.int .i64 (D0 i))) ++ List.replicate (cap - C) (Value.int .i64 0)).toArray 2)) := ((Below.refl _ w).drew).alloc (Nat.le_refl _) _
      refine ⟨w.heap.size, cap, h1, h2, rfl, hbel.mono hB, fun i hi => ?_, fun q => frozen_of_row _ _ q _ _ hrow, hE.frame fun g hg => hbel.block g (hE.lt hg), fun g hg => ⟨?_, (hEb g hg).2⟩, fun q => hbel.cell (p := ⟨sb, q, none⟩) hsb, fun q => (hbel.frozen (p := ⟨sb, q, none⟩) hsb).trans (hfs q), lt_of_block hrow, Nat.lt_of_lt_of_le hsb hbel.size, hB, by omega⟩
      · rw [Nat.zero_add]
        have := cell_of_row _ w.heap.size i _ _ _ hrow
        rw [this]
        unfold old0
        by_cases hiC : i < C
        · simp [hiC, List.getElem?_append]
        · rw [if_neg hiC]
          have hlt : i - C < cap - C := by omega
          simp [hiC, List.getElem?_append, hlt]
      · have := hE.lt hg; omega

/-- The receiver behind plan. -/
structure Fin (w wr : World) (B0 sb gi n : Nat) (R : Nat → Int) (ev : Value) (xs : List Value) (Sc : Nat → Value) : Prop where
  bel : Below B0 w wr
  row : Row wr gi 0 n R
  own : OwnV wr 3 ev xs
  eb : ∀ g, ev.ownBlock = some g → g ≠ gi ∧ g ≠ sb ∧ B0 ≤ g
  cs : ∀ q, q < 6 → wr.cell? ⟨sb, q, none⟩ = some (Sc q)
  fs : ∀ q, wr.frozen? ⟨sb, q, none⟩ = false
  ltS : sb < wr.heap.size
  gb : B0 ≤ gi
  ne : gi ≠ sb
  lt : gi < wr.heap.size
theorem Pln.fin {w wr : World} {B0 sb gi n : Nat} {R : Nat → Int} {ev : Value} {xs : List Value} (h : Pln w wr B0 sb gi n R ev xs) {Sc : Nat → Value} (hc : ∀ q, q < 6 → w.cell? ⟨sb, q, none⟩ = some (Sc q)) : Fin w wr B0 sb gi n R ev xs Sc :=
  ⟨h.bel, h.row, h.own, h.eb, fun q hq => (h.cs q).trans (hc q hq), h.fs, h.ltS, h.gb, h.ne, h.lt⟩
theorem Fin.set {w wr : World} {B0 sb gi n : Nat} {R : Nat → Int} {ev : Value} {xs : List Value} {Sc : Nat → Value} (h : Fin w wr B0 sb gi n R ev xs Sc) (hsb : B0 ≤ sb) (q : Nat) (v : Value) (hq : q < 6) : Fin w (wr.setCell ⟨sb, q, none⟩ v) B0 sb gi n R ev xs (fun j => if j = q then v else Sc j) := by
  refine ⟨h.bel.setCell hsb _, fun i hi => ?_, h.own.frame fun g hg => heap_setCell_other _ _ _ _ (h.eb g hg).2.1, h.eb, fun j hj => ?_, fun j => by rw [World.frozen?_setCell]; exact h.fs j, by simpa [World.setCell] using h.ltS, h.gb, h.ne, by simpa [World.setCell] using h.lt⟩
  · rw [← h.row i hi]
    exact World.cell?_setCell_other _ _ _ _ (by intro e; injection e with e; exact h.ne e.symm)
  · by_cases e : j = q
    · subst e
      rw [if_pos rfl]
      exact World.cell?_setCell_same wr _ _ (h.cs j hj)
    · rw [if_neg e, ← h.cs j hj]
      exact World.cell?_setCell_other _ _ _ _ (by intro h; injection h with _ h; exact e h.symm)
theorem Fin.cells {w wr : World} {B0 sb gi n : Nat} {R : Nat → Int} {ev : Value} {xs : List Value} {Sc Sd : Nat → Value} (h : Fin w wr B0 sb gi n R ev xs Sc) (he : ∀ q, q < 6 → Sc q = Sd q) : Fin w wr B0 sb gi n R ev xs Sd :=
  ⟨h.bel, h.row, h.own, h.eb, fun q hq => by rw [← he q hq]; exact h.cs q hq, h.fs, h.ltS, h.gb, h.ne, h.lt⟩

theorem info3 : (Ybad.prog.info? 3).map (fun i => (i.zero, i.size, i.bytes)) = some (some (.int .i64 0), 1, 8) := by kernel_rfl
/-- plan stops at place i. -/
def StopAt (V : Nat → Nat) (k : Nat) (lim : Int) (i : Nat) : Prop := scOK (V i) k = false ∧ lim ≤ 2 + 9 * ((exs V k (i + 1)).length : Int)

/-- The series differenced o times; the best order and its bytes. -/
def dd (B : Nat → Int) : Nat → Nat → Int
  | 0 => B
  | o + 1 => dif (o + 1) (dd B o)
def best (B : Nat → Int) (n : Nat) : Nat → Nat × Nat
  | 0 => (0, dln B n 0)
  | o + 1 => if dln (dd B (o + 1)) n (o + 1) < (best B n o).2 then (o + 1, dln (dd B (o + 1)) n (o + 1)) else best B n o
/-- What plan leaves. -/
def PlanPost (w w' : World) (e : Ending) (B0 sb n : Nat) (V : Nat → Nat) (k : Nat) (lim : Int) (E0 : Nat → Int) (ea : Option Addr) (vv u0 u1 u2 u5 : Value) : Prop :=
  ∃ (gi cap : Nat) (ev : Value), n ≤ cap ∧ cap ≤ maxLen ∧
    ((∃ i, i < n ∧ StopAt V k lim i ∧ (∀ j, j < i → ¬ StopAt V k lim j) ∧ e = .returned (.bool false) ∧ (ev = .slice none 0 0 ↔ ea = none ∧ exs V k (i + 1) = []) ∧
        Fin w w' B0 sb gi n (mixR V k E0 i) ev (exV' V k (i + 1)) (fun q => if q = 0 then u0 else if q = 1 then u1 else if q = 2 then u2 else if q = 3 then .slice (some ⟨gi, 0, none⟩) n cap else if q = 4 then ev else u5)) ∨
     ((∀ j, j < n → ¬ StopAt V k lim j) ∧ (ev = .slice none 0 0 ↔ ea = none ∧ exs V k n = []) ∧
        e = .returned (.bool (decide (((best (bas V k) n (min 2 n)).2 + exL (exE V k n) (exs V k n).length : Nat) < lim))) ∧
        Fin w w' B0 sb gi n (dd (bas V k) (best (bas V k) n (min 2 n)).1) ev (exV' V k n) (fun q => if q = 0 then vv else if q = 1 then .int .i64 k else if q = 2 then .int .i64 (best (bas V k) n (min 2 n)).1 else if q = 3 then .slice (some ⟨gi, 0, none⟩) n cap else if q = 4 then ev else .int .i64 ((best (bas V k) n (min 2 n)).2 + exL (exE V k n) (exs V k n).length : Nat))))

theorem dd_rng {n : Nat} {B : Nat → Int} (h : I64 n B) : ∀ o, I64 n (dd B o)
  | 0 => h
  | o + 1 => dif_in (dd_rng h o)
theorem best_lt {B : Nat → Int} {n o : Nat} (h : dln (dd B (o + 1)) n (o + 1) < (best B n o).2) : best B n (o + 1) = (o + 1, dln (dd B (o + 1)) n (o + 1)) := by rw [best]; rw [if_pos h]
theorem best_ge {B : Nat → Int} {n o : Nat} (h : ¬ dln (dd B (o + 1)) n (o + 1) < (best B n o).2) : best B n (o + 1) = best B n o := by rw [best]; rw [if_neg h]
theorem best_le {B : Nat → Int} {n : Nat} (h : I64 n B) (hn : n ≤ 65536) : ∀ o, o ≤ n → (best B n o).1 ≤ o ∧ (best B n o).2 ≤ 80000000
  | 0, _ => ⟨Nat.le_refl _, dln_le h (by omega) hn⟩
  | o + 1, ho => by
    have ih := best_le h hn o (by omega)
    by_cases hlt : dln (dd B (o + 1)) n (o + 1) < (best B n o).2
    · rw [best_lt hlt]; exact ⟨Nat.le_refl _, dln_le (dd_rng h (o + 1)) ho hn⟩
    · rw [best_ge hlt]; exact ⟨by omega, ih.2⟩

set_option maxHeartbeats 8000000 in
theorem plan_walk (w : World) (B0 sb vb vo n vc ib C X k : Nat) (ia ea : Option Addr) (D0 : Nat → Int) (V : Nat → Nat) (lim : Int) (u0 u1 u2 u5 : Value)
    (hn0 : 0 < n) (hn : n ≤ 65536) (hnv : n ≤ vc) (hC : C ≤ 65536) (hk : k < 19) (hvb : vb < B0) (hB2 : 2 < B0) (hB : B0 ≤ w.heap.size) (hsb : sb < w.heap.size)
    (HV : Hid (∀ i, i < n → w.cell? ⟨vb, vo + i, none⟩ = some (.float .f64 (V i)))) (HT : Hid (Tab w))
    (hsb0 : B0 ≤ sb) (HU : Hid (∀ q, q < 6 → w.cell? ⟨sb, q, none⟩ = some (if q = 0 then u0 else if q = 1 then u1 else if q = 2 then u2 else if q = 3 then .slice ia C C else if q = 4 then .slice ea X X else u5)))
    (c3 : w.cell? ⟨sb, 3, none⟩ = some (.slice ia C C)) (c4 : w.cell? ⟨sb, 4, none⟩ = some (.slice ea X X)) (hfs : ∀ q, w.frozen? ⟨sb, q, none⟩ = false) (hea : ea = none → X = 0)
    (HI : Hid (IntsOk w B0 sb ib C ia D0)) (HE : Hid (OwnV w 3 (.slice ea 0 X) [])) (HEb : Hid (∀ g, (Value.slice ea 0 X).ownBlock = some g → (ia = some ⟨ib, 0, none⟩ → g ≠ ib) ∧ g ≠ sb ∧ B0 ≤ g)) :
    Calls Ybad.prog 10 #[.pointer (some ⟨sb, 0, none⟩), .slice (some ⟨vb, vo, none⟩) n vc, .int .i64 k, .int .i64 lim] w fun e w' => PlanPost w w' e B0 sb n V k lim (old0 C D0) ea (.slice (some ⟨vb, vo, none⟩) n vc) u0 u1 u2 u5 := by
  have HGW := (show Hid _ from grow_walk w B0 sb ib C n X ia ea D0 hC hn0 hn HI.out HE.out HEb.out hB hsb hfs)
  have hic : ia = none → C = 0 := by
    intro h
    rcases HI.out with ⟨_, h'⟩ | ⟨h', _⟩
    · exact h'
    · rw [h'] at h; cases h
  have hC0 : (0 : Int) ≤ C := by omega
  have hn2 : (n : Int) ≤ 65536 := by omega
  go_enter Ybad.func10, Ybad.ntmps10
  go_wp2_with fail
  refine Calls.mono HGW.out ?_
  rintro e w1 ⟨gi, cap, hcap1, hcap2, rfl, hP⟩
  have c4' : w1.cell? ⟨sb, 4, none⟩ = some (.slice ea X X) := (hP.cs 4).trans c4
  have HP := (show Hid _ from hP)
  clear hP c3 c4 hfs HI HE HEb hic
  have hcap3 : (n : Int) ≤ cap := by omega
  have hX0 : (0 : Int) ≤ X := by omega
  go_wp2_with fail
  clear c4'
  obtain ⟨i0, hi, hz0, hz1, hz2⟩ := info_parts info3
  have HJ := (show Hid _ from And.intro hi (And.intro hz0 (And.intro hz1 hz2)))
  clear hi hz0 hz1 hz2
  go_loopw [8, 10, 11, 12, 13, 14, 15, 40] (fun x8 x10 x11 x12 x13 x14 x15 x40 wr => ∃ (i : Nat) (ev : Value), i ≤ n ∧ x8 = .bool false ∧ x10 = ev ∧ x11 = .int .i64 (pv V k i) ∧ x40 = .int .i64 i ∧ Pln w wr B0 sb gi n (mixR V k (old0 C D0) i) ev (exV' V k i) ∧ (ev = .slice none 0 0 ↔ ea = none ∧ exs V k i = []) ∧ (∀ j, j < i → ¬ StopAt V k lim j)) (fun _ _ _ _ _ _ _ i _ => n - (intOf i).toNat)
  case atStart =>
    refine ⟨0, _, by omega, rfl, rfl, rfl, rfl, HP.out.ext fun i hi => (mixR_zero _ _ _ _).symm, ?_, fun j hj => by omega⟩
    constructor
    · intro h; cases h; exact ⟨rfl, rfl⟩
    · rintro ⟨rfl, _⟩; rw [hea rfl]
  case round =>
    obtain ⟨i, ev, hi, rfl, rfl, rfl, rfl, hPi, hnil, hst⟩ := hrel
    obtain ⟨ao, ec, hev⟩ := hPi.own.form'
    rw [exV'_len] at hev
    subst hev
    have hlen := exs_len V k i
    have HPI := (show Hid _ from hPi)
    have HNIL := (show Hid _ from hnil)
    have HST := (show Hid _ from hst)
    have hltS := hPi.ltS
    clear hPi hnil hst HP
    by_cases hin : i < n
    · have hcv : wr.cell? ⟨vb, vo + i, none⟩ = some (.float .f64 (V i)) := (HPI.out.bel.cell (p := ⟨vb, vo + i, none⟩) hvb).trans (HV.out i hin)
      have hin' : (i : Int) < n := by omega
      have hTr : Tab wr := ⟨(HPI.out.bel.cell (p := ⟨1, 0, none⟩) (by show 1 < B0; omega)).trans HT.out.c1, fun j hj => (HPI.out.bel.cell (p := ⟨2, j, none⟩) (by show 2 < B0; omega)).trans (HT.out.c2 j hj)⟩
      have KS := (show Hid _ from scaledInt_walk (V i) k hk wr hTr)
      clear hTr
      go_wp2_with fail
      refine Calls.mono KS.out ?_
      rintro e w2 ⟨⟨m, rfl, hm⟩, jj, hw2⟩
      have HM := (show Hid _ from hm)
      have HP2 := (show Hid _ from HPI.out.drewN jj)
      rw [← hw2] at HP2
      clear hm hw2 hcv KS
      cases hok : scOK (V i) k
      · have HPV := (show Hid _ from pv_no hok)
        have HEX := (show Hid _ from exV'_no hok)
        have HXS := (show Hid _ from exs_no hok)
        have HOK := (show Hid _ from hok)
        clear hok
        have hci := HP2.out.row i hin
        rw [Nat.zero_add] at hci
        have hfi := HP2.out.fzr i
        have hlen2 : (exV' V k i).length = (exs V k i).length := exV'_len V k i
        have HOW : Hid (OwnV (w2.alloc (Obj.cells #[Value.int IntKind.i64 (i : Int)] 3)) 3 (.slice ao (exs V k i).length ec) (exV' V k i)) := HP2.out.own.frame fun g hg => Below.heap_alloc _ _ _ (HP2.out.own.lt hg)
        go_upto_if 63 with (at_builtin; refine wpList_append_n _ rfl (.tmp 53) (.tmp 55) 29 rfl 3 i0 (.int .i64 0) 8 Ybad.underlying29 HJ.out.1 HJ.out.2.1 HJ.out.2.2.1 HJ.out.2.2.2 rfl (.slice ao (exs V k i).length ec) (exV' V k i) rfl HOW.out ⟨w2.heap.size, 0, none⟩ 1 1 [.int .i64 (i : Int)] rfl rfl (by decide) (one_new _ _ _ _ rfl) (by intro q hq; simp at hq; subst hq; rfl) (by rw [hlen2]; unfold maxLen; omega) (by rw [hlen2]; omega) ?_; intro g1 cap1 w3 hown hgrow hpl hcapx; have hP3 := HP2.out.app ((Below.refl _ w2).alloc (Nat.le_refl _) _) hown hgrow hpl; have HP3 := (show Hid _ from hP3); clear hown hgrow hpl hcapx hP3; rw [hlen2] at HP3 ⊢)
        have hci3 := HP3.out.row i hin
        rw [Nat.zero_add] at hci3
        have hfi3 := HP3.out.fzr i
        have HLX : Hid ((exs V k (i + 1)).length = (exs V k i).length + 1) := by show _ = _; rw [HXS.out]; simp
        clear hci hfi
        by_cases hs : lim ≤ 2 + 9 * (((exs V k i).length : Int) + 1)
        · have k3 : w3.cell? ⟨sb, 3, none⟩ = some (.slice ia C C) := (HP3.out.cs 3).trans (HU.out 3 (by omega))
          have k4 : w3.cell? ⟨sb, 4, none⟩ = some (.slice ea X X) := (HP3.out.cs 4).trans (HU.out 4 (by omega))
          have f3 := HP3.out.fs 3
          have f4 := HP3.out.fs 4
          have HF := (show Hid _ from HP3.out.fin HU.out)
          have hsto : StopAt V k lim i := ⟨HOK.out, by rw [HLX.out]; omega⟩
          have HSTO := (show Hid _ from hsto)
          clear hsto hci3 hfi3
          go_wp2_with fail
          go_ret
          refine ⟨gi, cap, .slice (some ⟨g1, 0, none⟩) ((exs V k i).length + 1) cap1, hcap1, hcap2, .inl ⟨i, hin, HSTO.out, HST.out, rfl, ?_, ?_⟩⟩
          · rw [HXS.out]
            constructor
            · intro h; cases h
            · rintro ⟨_, h⟩; simp at h
          · rw [HEX.out]
            refine Fin.cells ((HF.out.set hsb0 3 (.slice (some ⟨gi, 0, none⟩) n cap) (by omega)).set hsb0 4 (.slice (some ⟨g1, 0, none⟩) ((exs V k i).length + 1) cap1) (by omega)) fun q hq => ?_
            have : q = 0 ∨ q = 1 ∨ q = 2 ∨ q = 3 ∨ q = 4 ∨ q = 5 := by omega
            rcases this with rfl | rfl | rfl | rfl | rfl | rfl <;> rfl
        · have hnst : ¬ StopAt V k lim i := fun h => hs (by have := h.2; rw [HLX.out] at this; omega)
          have HNS := (show Hid _ from hnst)
          clear hnst
          go_wp2_with fail
          refine ⟨⟨i + 1, _, by omega, rfl, rfl, by rw [HPV.out], by go_num, ?_, ?_, ?_⟩, by simp [intOf]; omega⟩
          · rw [HEX.out]
            refine Pln.ext (HP3.out.put i (pv V k i) hin) fun j _ => ?_
            rw [← mixR_step, show bas V k i = pv V k i from HPV.out]
          · rw [HXS.out]
            constructor
            · intro h; cases h
            · rintro ⟨_, h⟩; simp at h
          · intro j hj
            by_cases e : j = i
            · subst e; exact HNS.out
            · exact HST.out j (by omega)
      · have HPV := (show Hid _ from pv_ok hok)
        have HEX := (show Hid _ from exV'_ok hok)
        have HXS := (show Hid _ from exs_ok hok)
        obtain rfl := HM.out hok
        have HOK := (show Hid _ from hok)
        have hci := HP2.out.row i hin
        rw [Nat.zero_add] at hci
        have hfi := HP2.out.fzr i
        clear hok
        go_wp2_with fail
        refine ⟨⟨i + 1, _, by omega, rfl, rfl, by rw [HPV.out], by go_num, ?_, by rw [HXS.out]; exact HNIL.out, ?_⟩, by simp [intOf]; omega⟩
        · rw [HEX.out]
          refine Pln.ext (HP2.out.put i (scV (V i) k) hin) fun j _ => ?_
          rw [← mixR_step, show bas V k i = scV (V i) k from HPV.out]
        · intro j hj
          by_cases e : j = i
          · subst e; exact fun h => by have := HOK.out; rw [h.1] at this; cases this
          · exact HST.out j (by omega)
    · obtain rfl : n = i := by omega
      have hin' : ¬ (n : Int) < n := by omega
      have HPB : Hid (Pln w wr B0 sb gi n (bas V k) (.slice ao (exs V k n).length ec) (exV' V k n)) := HPI.out.ext fun j hj => mixR_all hj
      have hcap4 : cap ≤ 9223372036854775807 := hcap2
      have K0 := (show Hid _ from differencedLen_walk (some ⟨gi, 0, none⟩) gi 0 n cap 0 (bas V k) wr hn (by omega) (by omega) hcap1 hcap4 (.inl rfl) HPB.out.row (bas_rng V k n))
      clear HPI
      obtain ⟨tp, htp⟩ : ∃ tp, tp = min 2 n := ⟨_, rfl⟩
      have HTP := (show Hid _ from htp)
      have htp2 : min (2 : Int) (n : Int) = (tp : Int) := by omega
      have htp3 : tp ≤ 2 := by omega
      have htp4 : tp ≤ n := by omega
      clear htp
      have HTP2 := (show Hid _ from htp2)
      clear htp2
      go_wp2_with fail
      refine Calls.mono K0.out ?_
      rintro e w4 ⟨rfl, hb4⟩
      have HP4 := (show Hid _ from HPB.out.later hb4)
      clear hb4 K0 HPB
      go_wp2_with fail
      rw [HTP2.out]
      go_loopw [16, 17, 19, 20] (fun x16 x17 x19 x20 wq => ∃ o : Nat, o ≤ tp ∧ x19 = .int .i64 (o + 1 : Nat) ∧ x16 = .int .i64 (best (bas V k) n o).1 ∧ x17 = .int .i64 (best (bas V k) n o).2 ∧ Pln w wq B0 sb gi n (dd (bas V k) o) (.slice ao (exs V k n).length ec) (exV' V k n)) (fun _ _ o _ _ => 3 - (intOf o).toNat)
      case atStart => exact ⟨0, by omega, rfl, rfl, rfl, HP4.out⟩
      case round =>
        obtain ⟨o, ho, rfl, rfl, rfl, hPo⟩ := hrel
        have HPO := (show Hid _ from hPo)
        have HDI := (show Hid _ from dd_rng (bas_rng V k n) o)
        have hbe := best_le (bas_rng V k n) hn o (by omega)
        clear hPo HP4
        by_cases hot : o < tp
        · have KD := (show Hid _ from difference_walk (some ⟨gi, 0, none⟩) gi 0 n cap (o + 1) (dd (bas V k) o) wr hn (by omega) (fun _ => rfl) HPO.out.row HDI.out HPO.out.fzr)
          have g1 : ((o + 1 : Nat) : Int) ≤ tp := by omega
          go_wp2_with fail
          refine Calls.mono KD.out ?_
          rintro e w5 ⟨rfl, hr5, hbut⟩
          have HP5 := (show Hid _ from HPO.out.but (R' := dd (bas V k) (o + 1)) hbut hr5)
          clear hr5 hbut KD
          have KL := (show Hid _ from differencedLen_walk (some ⟨gi, 0, none⟩) gi 0 n cap (o + 1) (dd (bas V k) (o + 1)) w5 hn (by omega) (by omega) hcap1 hcap4 (.inl rfl) HP5.out.row (dd_rng (bas_rng V k n) (o + 1)))
          go_wp2_with fail
          refine Calls.mono KL.out ?_
          rintro e w6 ⟨rfl, hb6⟩
          have HP6 := (show Hid _ from HP5.out.later hb6)
          clear hb6 KL HP5
          by_cases hlt : dln (dd (bas V k) (o + 1)) n (o + 1) < (best (bas V k) n o).2
          · have HBE := (show Hid _ from best_lt hlt)
            have hlt' : ((dln (dd (bas V k) (o + 1)) n (o + 1) : Nat) : Int) < (((best (bas V k) n o).2 : Nat) : Int) := by omega
            go_wp2_with fail
            go_roundw
            case rel => exact ⟨o + 1, by omega, by go_num, by rw [HBE.out]; rfl, by rw [HBE.out], HP6.out⟩
            case measure => simp [intOf]; omega
          · have HBE := (show Hid _ from best_ge hlt)
            have hlt' : ¬ ((dln (dd (bas V k) (o + 1)) n (o + 1) : Nat) : Int) < (((best (bas V k) n o).2 : Nat) : Int) := by omega
            go_wp2_with fail
            go_roundw
            case rel => exact ⟨o + 1, by omega, by go_num, by rw [HBE.out], by rw [HBE.out], HP6.out⟩
            case measure => simp [intOf]; omega
        · obtain rfl : o = tp := by omega
          have g1 : ¬ ((o + 1 : Nat) : Int) ≤ o := by omega
          have hb1 := hbe.1
          have hb2 := hbe.2
          have HBT : Hid (best (bas V k) n (min 2 n) = best (bas V k) n o) := by show _ = _; rw [← HTP.out]
          clear hbe
          go_wp2_with fail
          go_loopw [21] (fun x21 wq => ∃ q : Nat, q ≤ o ∧ (best (bas V k) n o).1 ≤ q ∧ x21 = .int .i64 q ∧ Pln w wq B0 sb gi n (dd (bas V k) q) (.slice ao (exs V k n).length ec) (exV' V k n)) (fun q _ => (intOf q).toNat)
          case atStart => exact ⟨o, by omega, by omega, rfl, HPO.out⟩
          case round =>
            obtain ⟨q, hq1, hq2, rfl, hPq⟩ := hrel
            have HPQ := (show Hid _ from hPq)
            clear hPq HPO HDI
            by_cases hqo : (best (bas V k) n o).1 < q
            · have KU := (show Hid _ from undifference_walk (some ⟨gi, 0, none⟩) gi 0 n cap q (dd (bas V k) q) wr hn (by omega) (fun _ => rfl) HPQ.out.row (dd_rng (bas_rng V k n) q) HPQ.out.fzr)
              have hqo' : (((best (bas V k) n o).1 : Nat) : Int) < (q : Int) := by omega
              go_wp2_with fail
              refine Calls.mono KU.out ?_
              rintro e w5 ⟨rfl, hr5, hbut⟩
              have hr6 : Row w5 gi 0 n (dd (bas V k) (q - 1)) := hr5.ext fun j hj => by
                obtain ⟨p, rfl⟩ : ∃ p, q = p + 1 := ⟨q - 1, by omega⟩
                exact undif_dif (dd_rng (bas_rng V k n) p) (by omega) j hj
              have HP5 := (show Hid _ from HPQ.out.but hbut hr6)
              clear hr5 hr6 hbut KU
              go_wp2_with fail
              go_roundw
              case rel => exact ⟨q - 1, by omega, by omega, by go_num, HP5.out⟩
              case measure => simp [intOf]; omega
            · obtain rfl : q = (best (bas V k) n o).1 := by omega
              have hqo' : ¬ (((best (bas V k) n o).1 : Nat) : Int) < (((best (bas V k) n o).1 : Nat) : Int) := by omega
              have KE : Hid (Calls Ybad.prog 26 #[.slice ao (exs V k n).length ec] wr fun e w' => e = .returned (.int .i64 (exL (exE V k n) (exs V k n).length)) ∧ w' = wr) := by
                have hown := HPQ.out.own
                have hup := exs_Up V k n hn
                by_cases hl0 : 0 < (exs V k n).length
                · rcases hown.form with ⟨h, hx⟩ | ⟨g, c', h, hb, _⟩
                  · exfalso
                    have h9 : (exV' V k n).length = 0 := by rw [hx]; rfl
                    rw [exV'_len] at h9
                    omega
                  · rw [exV'_len] at h
                    cases h
                    refine exceptionsLen_walk _ g 0 _ _ (exE V k n) wr (by omega) (fun _ => rfl) (fun i hi => ?_) hup
                    rw [Nat.zero_add]
                    have := hown.cell (by rw [exV'_len]) (j := i) (by rw [exV'_len]; exact hi)
                    rw [this]
                    unfold exV' exE
                    simp [hi]
                · exact exceptionsLen_walk ao 0 0 _ _ (exE V k n) wr (by omega) (fun h => absurd h hl0) (fun i hi => by omega) hup
              have hx1 : exL (exE V k n) (exs V k n).length ≤ 2000000 := by
                have h1 := xs8_le _ (exs_Up V k n hn)
                have h2 := uvl_10 (n := (exs V k n).length) (by omega)
                unfold exL; omega
              have HF := (show Hid _ from HPQ.out.fin HU.out)
              have k0 := HF.out.cs 0 (by omega)
              have k1 := HF.out.cs 1 (by omega)
              have k2 := HF.out.cs 2 (by omega)
              have k3 := HF.out.cs 3 (by omega)
              have k4 := HF.out.cs 4 (by omega)
              have k5 := HF.out.cs 5 (by omega)
              have f0 := HF.out.fs 0
              have f1 := HF.out.fs 1
              have f2 := HF.out.fs 2
              have f3 := HF.out.fs 3
              have f4 := HF.out.fs 4
              have f5 := HF.out.fs 5
              have HEL : Hid (∃ EL, EL = exL (exE V k n) (exs V k n).length) := ⟨_, rfl⟩
              obtain ⟨EL, hEL⟩ := HEL.out
              rw [← hEL] at KE hx1
              have HELX := (show Hid _ from hEL)
              clear hEL HEL
              go_wp2_with fail
              refine Calls.mono KE.out ?_
              rintro e w7 ⟨rfl, hw7⟩
              obtain rfl : wr = w7 := hw7.symm
              clear hw7
              go_wp2_with fail
              go_ret
              have eS : (((best (bas V k) n o).2 + exL (exE V k n) (exs V k n).length : Nat) : Int) = ((best (bas V k) n o).2 : Int) + (EL : Int) := by rw [← HELX.out]; omega
              refine ⟨gi, cap, .slice ao (exs V k n).length ec, hcap1, hcap2, .inr ⟨HST.out, HNIL.out, ?_, ?_⟩⟩
              · rw [HBT.out, eS]
                rfl
              · rw [HBT.out, eS]
                refine Fin.cells ((((((HF.out.set hsb0 0 (.slice (some ⟨vb, vo, none⟩) n vc) (by omega)).set hsb0 1 (.int .i64 k) (by omega)).set hsb0 2 (.int .i64 (best (bas V k) n o).1) (by omega)).set hsb0 3 (.slice (some ⟨gi, 0, none⟩) n cap) (by omega)).set hsb0 4 (.slice ao (exs V k n).length ec) (by omega)).set hsb0 5 (.int .i64 (((best (bas V k) n o).2 : Int) + (EL : Int))) (by omega)) fun q hq => ?_
                have : q = 0 ∨ q = 1 ∨ q = 2 ∨ q = 3 ∨ q = 4 ∨ q = 5 := by omega
                rcases this with rfl | rfl | rfl | rfl | rfl | rfl <;> rfl
end Go.Proofs.YbulkecgoDoor

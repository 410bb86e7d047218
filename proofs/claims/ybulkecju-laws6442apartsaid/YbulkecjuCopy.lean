/-
  zzs6442acopy: a copy in fresh memory that reads alike.
-/
import Derived.Test.YbulkecjuList
import Derived.Test.YbulkecjuOwn
import Derived.Deep.CutRange
import Derived.Deep.CutBlock
import Derived.Outline
namespace Go.Proofs.Ybulkecju
open Go.RowKit Own
set_option linter.unusedVariables false
attribute [local go_sem] eq26 neq26 eq22

/-- Block g holds slices alone: what reads as bytes does not lie there. -/
theorem Byt.setHdr {w : World} {v : Value} {s : List Int} (h : Byt w v s) {g k : Nat} {u : Value} (hg : ∀ j x, w.cell? ⟨g, j, none⟩ = some x → ∃ a l c, x = .slice a l c) : Byt (w.setCell ⟨g, k, none⟩ u) v s := by
  obtain ⟨ao, l, c, rfl, h1, h2, h3, h4⟩ := h
  refine ⟨ao, l, c, rfl, h1, h2, h3, fun a ha i hi => ?_⟩
  have hc := h4 a ha i hi
  rw [← hc]
  refine World.cell?_setCell_other _ _ _ _ ?_
  intro e
  have hs := World.cell?_spot hc
  have : w.cell? ⟨g, k, none⟩ = some (.int .u8 (s.getD i 0)) := by rw [e]; exact hc
  obtain ⟨_, _, _, hx⟩ := hg k _ this
  cases hx

/-- y is a copy in fresh memory of the values hs, which read as ss: its cells hold ys. -/
structure Cpy (B : Nat) (w : World) (y : Value) (ys hs : List Value) (ss : List (List Int)) : Prop where
  len : ys.length = hs.length
  hdr : (y = .slice none 0 0 ∧ ys = []) ∨ ∃ g, B ≤ g ∧ y = .slice (some ⟨g, 0, none⟩) ys.length ys.length ∧ w.heap[g]? = some (.cells ys.toArray 26 (0, 0))
  el : ∀ i, i < ys.length → nilV (ys.getD i (.slice none 0 0)) = nilV (hs.getD i (.slice none 0 0)) ∧ Byt w (ys.getD i (.slice none 0 0)) (ss.getD i [])

theorem info26 : (Yba.prog.info? 26).map (fun i => (i.zero, i.size, i.bytes)) = some (some (.slice none 0 0), 1, 24) := by kernel_rfl
theorem info5 : (Yba.prog.info? 5).map (fun i => (i.zero, i.size, i.bytes)) = some (some (.int .u8 0), 1, 1) := by kernel_rfl

/-- Copy's loop: k rows are copied. -/
structure Mid (w : World) (hs : List Value) (ss : List (List Int)) (n k : Nat) (wr : World) (ys : List Value) : Prop where
  yl : ys.length = k
  row : wr.heap[w.heap.size]? = some (.cells (ys ++ List.replicate (n - k) (Value.slice none 0 0)).toArray 26 (0, 0))
  el : ∀ i, i < k → nilV (ys.getD i (.slice none 0 0)) = nilV (hs.getD i (.slice none 0 0)) ∧ Byt wr (ys.getD i (.slice none 0 0)) (ss.getD i [])
  bel : Below w.heap.size w wr

theorem own_byt {w : World} {v : Value} {s : List Int} (h : OwnV w 5 v (s.map (Value.int .u8))) : Byt w v s := by
  rcases h.form with ⟨hv, hx⟩ | ⟨g, cap, hv, _, hl, _, _⟩
  · have : s = [] := by simpa using hx
    subst this
    exact ⟨none, 0, 0, hv, rfl, Nat.le_refl _, fun _ => rfl, fun a ha => by cases ha⟩
  · rw [List.length_map] at hv hl
    refine ⟨some ⟨g, 0, none⟩, s.length, cap, hv, rfl, hl, (fun e => by cases e), fun a ha i hi => ?_⟩
    cases ha
    subst hv
    have := h.cell (by simp) (j := i) (by simpa using hi)
    rw [Go.WideShapes.add_plain, Nat.zero_add, this]
    simp [hi]

theorem app_form {w : World} {v : Value} {xs : List Value} (h : OwnV w 5 v xs) (hne : v ≠ .slice none 0 0) : ∃ g c, v = .slice (some ⟨g, 0, none⟩) xs.length c := by
  rcases h.form with ⟨h, _⟩ | ⟨g, cap, h, _⟩
  · exact absurd h hne
  · exact ⟨g, cap, h⟩
section
variable {w wr : World} {hs : List Value} {ss : List (List Int)} {n k : Nat} {ys : List Value}
theorem Mid.slices (h : Mid w hs ss n k wr ys) : ∀ j x, wr.cell? ⟨w.heap.size, j, none⟩ = some x → ∃ a l c, x = .slice a l c := by
  intro j x hx
  rw [cell_of_row wr w.heap.size j _ _ _ h.row] at hx
  have hm : x ∈ ys ++ List.replicate (n - k) (Value.slice none 0 0) := List.mem_of_getElem? (by simpa using hx)
  rcases List.mem_append.1 hm with hm | hm
  · obtain ⟨i, hi, rfl⟩ := List.getElem_of_mem hm
    have := (h.el i (by rw [← h.yl]; exact hi)).2
    obtain ⟨ao, c, hf, _⟩ := this.form
    have e : ys.getD i (.slice none 0 0) = ys[i] := by simp [hi]
    rw [e] at hf
    exact ⟨_, _, _, hf⟩
  · obtain ⟨_, rfl⟩ := List.mem_replicate.1 hm
    exact ⟨_, _, _, rfl⟩
theorem Mid.lt (h : Mid w hs ss n k wr ys) : w.heap.size < wr.heap.size := lt_of_block h.row
theorem Mid.slot (h : Mid w hs ss n k wr ys) (hk : k < n) : wr.cell? ⟨w.heap.size, k, none⟩ = some (.slice none 0 0) := by
  rw [cell_of_row wr w.heap.size k _ _ _ h.row]
  have : 0 < n - k := by omega
  simp [h.yl, this]
theorem Mid.skip (h : Mid w hs ss n k wr ys) (hk : k < n) (hn : nilV (hs.getD k (.slice none 0 0)) = true) (hs0 : ss.getD k [] = []) : Mid w hs ss n (k + 1) wr (ys ++ [.slice none 0 0]) := by
  refine ⟨by simp [h.yl], ?_, ?_, h.bel⟩
  · rw [h.row, List.append_assoc, show n - k = (n - (k + 1)) + 1 by omega, List.replicate_succ]
    rfl
  · intro i hi
    by_cases hik : i < k
    · have e : (ys ++ [Value.slice none 0 0]).getD i (.slice none 0 0) = ys.getD i (.slice none 0 0) := by
        have : i < ys.length := by rw [h.yl]; exact hik
        simp [List.getElem?_append, this]
      rw [e]; exact h.el i hik
    · obtain rfl : i = k := by omega
      have e : (ys ++ [Value.slice none 0 0]).getD i (.slice none 0 0) = .slice none 0 0 := by simp [h.yl]
      rw [e, hn, hs0]
      exact ⟨rfl, none, 0, 0, rfl, rfl, Nat.le_refl _, fun _ => rfl, fun a ha => by cases ha⟩
theorem Mid.next (h : Mid w hs ss n k wr ys) (hk : k < n) {w2 : World} {v2 : Value} (hb : Below wr.heap.size wr w2) (hn : nilV v2 = nilV (hs.getD k (.slice none 0 0))) (hB : Byt w2 v2 (ss.getD k [])) :
    Mid w hs ss n (k + 1) (w2.setCell ⟨w.heap.size, k, none⟩ v2) (ys ++ [v2]) := by
  have hrow : w2.heap[w.heap.size]? = some (.cells (ys ++ List.replicate (n - k) (Value.slice none 0 0)).toArray 26 (0, 0)) := (hb.block _ h.lt).trans h.row
  have hsl : ∀ j x, w2.cell? ⟨w.heap.size, j, none⟩ = some x → ∃ a l c, x = .slice a l c := fun j x hx => h.slices j x (by rw [← hx]; exact (hb.cell (p := ⟨w.heap.size, j, none⟩) h.lt).symm)
  refine ⟨by simp [h.yl], ?_, ?_, ?_⟩
  · rw [heap_setCell_same w2 w.heap.size k _ 26 _ hrow]
    congr 2
    apply Array.ext'
    simp only [Array.toList_setIfInBounds, List.set_append, h.yl, Nat.lt_irrefl, if_false, Nat.sub_self]
    rw [show n - k = (n - (k + 1)) + 1 by omega, List.replicate_succ]
    simp
  · intro i hi
    by_cases hik : i < k
    · have e : (ys ++ [v2]).getD i (.slice none 0 0) = ys.getD i (.slice none 0 0) := by
        have : i < ys.length := by rw [h.yl]; exact hik
        simp [List.getElem?_append, this]
      rw [e]
      exact ⟨(h.el i hik).1, ((h.el i hik).2.below hb).setHdr hsl⟩
    · obtain rfl : i = k := by omega
      have e : (ys ++ [v2]).getD i (.slice none 0 0) = v2 := by simp [h.yl]
      rw [e]
      exact ⟨hn, hB.setHdr hsl⟩
  · exact (h.bel.trans (hb.mono h.bel.size)).setCell (Nat.le_refl _) _
end

set_option maxHeartbeats 1600000 in
set_option maxRecDepth 100000 in
theorem copy_some (b o c n : Nat) (hs : List Value) (ss : List (List Int)) (w : World) (hnl : n = hs.length) (hn : n ≤ 1048576) (hnc : n ≤ c) (hcm : c ≤ maxLen) (a0 : Addr) (ha0 : 0 < n → a0 = ⟨b, o, none⟩)
    (HC : Hid (∀ i, i < n → w.cell? ⟨b, o + i, none⟩ = some (hs.getD i (.slice none 0 0)) ∧ Byt w (hs.getD i (.slice none 0 0)) (ss.getD i []) ∧ (ss.getD i []).length ≤ 140737488351232)) :
    Calls Yba.prog 5 #[.slice (some a0) n c] w fun e w' => ∃ y ys, e = .returned y ∧ Cpy w.heap.size w' y ys hs ss ∧ Below w.heap.size w w' := by
  obtain ⟨i0, hi, hz0, hz1, hz2⟩ := info_parts info26
  obtain ⟨j0, hj, hy0, hy1, hy2⟩ := info_parts info5
  unfold maxLen at hcm
  have HNL := (show Hid _ from hnl)
  have HA0 := (show Hid _ from ha0)
  clear hnl ha0
  go_enter Yba.func5, Yba.ntmps5
  go_wp2_with (at_make; refine wpList_make_v _ rfl _ _ 22 rfl 26 i0 (.slice none 0 0) Yba.underlying22 hi hz0 hz1 rfl _ _ _ _ n n rfl rfl rfl rfl (Nat.le_refl _) (by rw [hz2]; omega) (by omega) ?_)
  have hst : Mid w hs ss n 0 (w.alloc (Obj.cells (Array.replicate n (Value.slice none 0 0)) 26)) [] := by
    refine ⟨rfl, ?_, by omega, (Below.refl _ _).alloc (Nat.le_refl _) _⟩
    rw [heap_alloc_new]
    simp
  generalize w.alloc (Obj.cells (Array.replicate n (Value.slice none 0 0)) 26) = w1 at *
  have HST := (show Hid _ from hst)
  clear hst
  go_loopw [12] (fun i wr => ∃ (k : Nat) (ys : List Value), k ≤ n ∧ i = .int .i64 k ∧ Mid w hs ss n k wr ys) (fun i _ => n - (intOf i).toNat)
  case atStart => exact ⟨0, [], by omega, rfl, HST.out⟩
  case round =>
    obtain ⟨k, ys, hk, rfl, hM⟩ := hrel
    have HM := (show Hid _ from hM)
    clear hM HST
    by_cases hkl : k < n
    · obtain rfl := HA0.out (by omega)
      obtain ⟨hc, hB, hlen⟩ := HC.out k hkl
      have HLEN := (show Hid _ from hlen)
      clear hlen
      have hbl : b < w.heap.size := World.block_lt_of_cell? w _ hc
      have hc' : wr.cell? ⟨b, o + k, none⟩ = some (hs.getD k (.slice none 0 0)) := (HM.out.bel.cell (p := ⟨b, o + k, none⟩) hbl).trans hc
      have hB' := hB.below (w' := wr)
      obtain ⟨ao, m, cc, hv, hm, hmc, hnn, hcells⟩ := hB
      have HV := (show Hid _ from hv)
      rw [hv] at hc'
      clear hv
      have hkl' : (k : Int) < n := by omega
      have HMM := (show Hid _ from hm)
      have hm' := HMM.out
      clear hm
      match ao, hnn, hcells with
      | none, hnn, _ =>
        have HNN := (show Hid _ from hnn)
        clear hnn hc hB' hm'
        go_wp2_with fail
        go_roundw
        case rel =>
          refine ⟨k + 1, _, by omega, by go_num, HM.out.skip hkl (by rw [HV.out]; rfl) (List.eq_nil_of_length_eq_zero ?_)⟩
          rw [← HMM.out]; exact HNN.out rfl
        case measure => simp [intOf]; omega
      | some a, _, hcells =>
        have hnews : ∀ (j : Nat) (u : Value), ((ss.getD k []).map (Value.int .u8))[j]? = some u → (wr.alloc (Obj.cells #[] 5)).cell? (a.add j) = some u := by
          intro j u hu
          rw [List.getElem?_map] at hu
          obtain ⟨z, hz, rfl⟩ := Option.map_eq_some_iff.1 hu
          have hjl : j < m := by rw [hm']; exact (List.getElem?_eq_some_iff.1 hz).1
          have h1 := hcells a rfl j hjl
          have h2 := World.block_lt_of_cell? w _ h1
          rw [show (ss.getD k []).getD j 0 = z by rw [List.getD_eq_getElem?_getD, hz]; rfl] at h1
          rw [← h1]
          exact ((HM.out.bel.alloc HM.out.bel.size _).cell h2)
        have hc2 : (wr.alloc (Obj.cells #[] 5)).cell? ⟨b, o + k, none⟩ = some (.slice (some a) m cc) := by
          rw [← hc']
          exact ((Below.refl wr.heap.size wr).alloc (Nat.le_refl _) _).cell (p := ⟨b, o + k, none⟩) (World.block_lt_of_cell? wr _ hc')
        clear hm'
        have HNEW := (show Hid _ from hnews)
        have HOW : Hid (OwnV (wr.alloc (Obj.cells #[] 5)) 5 (.slice (some ⟨wr.heap.size, 0, none⟩) 0 0) []) := OwnV.made wr 5 [] (by simp)
        clear hcells hB' hc hnews
        go_wp2_with (at_builtin; refine wpList_append_v _ rfl (.tmp 22) (.tmp 26) 26 rfl 5 j0 (.int .u8 0) 1 Yba.underlying26 hj hy0 hy1 hy2 rfl (.slice (some ⟨wr.heap.size, 0, none⟩) 0 0) [] rfl HOW.out a m cc ((ss.getD k []).map (Value.int .u8)) rfl (by rw [List.length_map, HMM.out]) HNEW.out (by intro q hq; obtain ⟨z, _, rfl⟩ := List.mem_map.1 hq; rfl) (by have h1 := HLEN.out; have h2 := HMM.out; simp only [List.length_nil]; unfold maxLen; omega) (by have h1 := HLEN.out; have h2 := HMM.out; simp only [List.length_nil]; omega) ?_; intro v2 w2 hown hgrow hpl hnil; have hb2 : Below wr.heap.size wr w2 := ((Below.refl wr.heap.size wr).alloc (Nat.le_refl _) _).grown hgrow (by simp) (by intro q hq; simp [Value.ownBlock] at hq; omega); have hcg : w2.cell? ⟨w.heap.size, k, none⟩ = some (.slice none 0 0) := (hb2.cell (p := ⟨w.heap.size, k, none⟩) HM.out.lt).trans (HM.out.slot hkl); have hfg : w2.frozen? ⟨w.heap.size, k, none⟩ = false := (hb2.frozen (p := ⟨w.heap.size, k, none⟩) HM.out.lt).trans (frozen_of_row wr w.heap.size k _ _ HM.out.row); obtain ⟨g2, c2, rfl⟩ := app_form hown (fun e => by have := (hnil.1 e).1; cases this); have HX := (show Hid _ from And.intro hown hb2); clear hown hgrow hpl hnil hb2)
        go_roundw
        case rel =>
          obtain ⟨hown, hb2⟩ := HX.out
          refine ⟨k + 1, _, by omega, by go_num, HM.out.next hkl hb2 ?_ (own_byt (by simpa using hown))⟩
          rw [HV.out]
          rfl
        case measure => simp [intOf]; omega
    · go_wp2_with fail
      go_ret
      obtain rfl : k = n := by omega
      have hrow := HM.out.row
      rw [Nat.sub_self, List.replicate_zero, List.append_nil] at hrow
      refine ⟨_, ys, rfl, ⟨HM.out.yl.trans HNL.out, .inr ⟨w.heap.size, Nat.le_refl _, by rw [HM.out.yl]; rfl, hrow⟩, fun i hi => HM.out.el i (by rw [← HM.out.yl]; exact hi)⟩, HM.out.bel⟩

set_option maxHeartbeats 400000 in
theorem copy_nil (n c : Nat) (w : World) : Calls Yba.prog 5 #[.slice none n c] w fun e w' => e = .returned (.slice none 0 0) ∧ w' = w := by
  go_enter Yba.func5, Yba.ntmps5
  go_wp2
  go_ret
  exact ⟨rfl, rfl⟩

theorem copy_any (x : Value) (hs : List Value) (ss : List (List Int)) (w : World) (hh : Hdr w x hs) (hn : hs.length ≤ 1048576)
    (hb : ∀ i, i < hs.length → Byt w (hs.getD i (.slice none 0 0)) (ss.getD i []) ∧ (ss.getD i []).length ≤ 140737488351232) :
    Calls Yba.prog 5 #[x] w fun e w' => ∃ y ys, e = .returned y ∧ Cpy w.heap.size w' y ys hs ss ∧ Below w.heap.size w w' := by
  have hf := hh.form
  obtain ⟨ao, l, c, rfl, hl, hlc, hcm, hnn, hcells⟩ := hh
  match ao, hnn, hf with
  | none, hnn, _ =>
    refine (copy_nil l c w).mono ?_
    rintro e w' ⟨rfl, rfl⟩
    have h0 := hnn rfl
    have : hs = [] := List.eq_nil_of_length_eq_zero (by omega)
    subst this
    exact ⟨_, [], rfl, ⟨rfl, .inl ⟨rfl, rfl⟩, fun i hi => absurd hi (by simp)⟩, Below.refl _ _⟩
  | some a, _, hf =>
    obtain ⟨ao', c', he, _, _, hf'⟩ := hf
    obtain ⟨rfl, _, rfl⟩ : some a = ao' ∧ l = hs.length ∧ c = c' := by simpa using he
    by_cases h0 : 0 < hs.length
    · obtain ⟨b, o, ha, hc⟩ := hf' h0
      cases ha
      subst hl
      exact copy_some b o c _ hs ss w rfl hn hlc hcm _ (fun _ => rfl) (fun i hi => ⟨hc i hi, hb i hi⟩)
    · subst hl
      exact copy_some 0 0 c _ hs ss w rfl hn hlc hcm a (fun h => absurd h h0) (fun i hi => absurd hi (by omega))
end Go.Proofs.Ybulkecju

/-
  graph.New walked.
-/
import Derived.Test.YbulkecisNew
namespace Go.Proofs.Ybulkecis
open Go.RowKit _root_.Go.Proofs.Ybulkecis.Own
set_option linter.unusedVariables false
set_option maxRecDepth 100000

/-- The arcs as they lie: two cells each. -/
structure Arcs (w : World) (ao : Option Addr) (R : Nat) (A B : Nat → Nat) : Prop where
  at' : 0 < R → ∃ ga, ao = some ⟨ga, 0, none⟩ ∧ ga < w.heap.size ∧ ∀ r, r < R → w.cell? ⟨ga, r * 2, none⟩ = some (.int .i64 (A r)) ∧ w.cell? ⟨ga, r * 2 + 1, none⟩ = some (.int .i64 (B r))
theorem Arcs.below {w w' : World} {ao : Option Addr} {R : Nat} {A B : Nat → Nat} (h : Arcs w ao R A B) (hb : Below w.heap.size w w') : Arcs w' ao R A B := ⟨fun h0 => by
  obtain ⟨ga, h1, h2, h3⟩ := h.at' h0
  exact ⟨ga, h1, Nat.lt_of_lt_of_le h2 hb.size, fun r hr => ⟨(cell_of_block (hb.block _ h2)).trans (h3 r hr).1, (cell_of_block (hb.block _ h2)).trans (h3 r hr).2⟩⟩⟩

theorem made_il (w : World) (n : Nat) (hn : n ≤ 1000000) (D : Nat → Int) (hD : ∀ s, s < n → D s = 0) : OwnV (w.alloc (Obj.cells (Array.replicate n (Value.int IntKind.i64 0)) 3)) 3 (.slice (some ⟨w.heap.size, 0, none⟩) n n) (il n D) := by
  have h := OwnV.made w 3 (List.replicate n (Value.int .i64 0)) (by unfold maxLen; simp; omega)
  have e : List.replicate n (Value.int .i64 0) = il n D := by
    apply List.ext_getElem?
    intro k
    by_cases hk : k < n
    · rw [il_get hk, hD k hk]; simp [hk]
    · rw [List.getElem?_eq_none (by simp; omega), List.getElem?_eq_none (by rw [il_len]; omega)]
  rw [e, il_len, ← e] at h
  simpa [← e] using h

theorem new_round {w w7 : World} {t R v sb m κ n off a : Nat} {A B F1 : Nat → Nat} {T0 T T2 : Nat → Int} (hC : Cm R A B T0 v F1 T) (hfill : ∀ r, r < R → T0 (pos A R r) = B r) (hκ : F1 v = κ) (ha : F0 A R v = a) (hn : a + n = F0 A R (v + 1)) (hm : m ≤ n) (hseg : seg T2 off m = seg T2 a m) (hvt : v < t) (hsb : w.heap.size < sb)
    (hB : Below w.heap.size w w7) (hO : OwnV w7 3 (.slice (some ⟨w.heap.size, 0, none⟩) (t + 1) (t + 1)) (il (t + 1) fun s => ((if s < v then F1 s else F0 A R s : Nat) : Int)))
    (hS : OwnV (w7.setCell ⟨w.heap.size, v, none⟩ (.int .i64 κ)) 3 (.slice (some ⟨sb, 0, none⟩) R R) (il R T2)) (hSg : Seg R a n T T2 m) (hi : ∀ k l, a ≤ k → k < l → l < a + m → T2 k < T2 l) :
    ∃ (v' : Nat) (F1' : Nat → Nat) (T' : Nat → Int), v' ≤ t ∧ Value.int .i64 ((κ : Int) + (m : Int)) = .int .i64 (F1' v') ∧ Value.int .i64 ((v : Int) + 1) = .int .i64 v' ∧
      Below w.heap.size w ((w7.setCell ⟨w.heap.size, v, none⟩ (.int .i64 κ)).setCells sb κ (List.map (Value.int .i64) (seg T2 off m))) ∧
      OwnV ((w7.setCell ⟨w.heap.size, v, none⟩ (.int .i64 κ)).setCells sb κ (List.map (Value.int .i64) (seg T2 off m))) 3 (.slice (some ⟨w.heap.size, 0, none⟩) (t + 1) (t + 1)) (il (t + 1) fun s => ((if s < v' then F1' s else F0 A R s : Nat) : Int)) ∧
      OwnV ((w7.setCell ⟨w.heap.size, v, none⟩ (.int .i64 κ)).setCells sb κ (List.map (Value.int .i64) (seg T2 off m))) 3 (.slice (some ⟨sb, 0, none⟩) R R) (il R T') ∧ Cm R A B T0 v' F1' T' := by
  subst hκ
  subst ha
  rw [hseg]
  have hon := Only.setCells (S := fun k => k = sb) rfl ((seg T2 (F0 A R v) m).map (Value.int .i64)) (F1 v) (w7.setCell ⟨w.heap.size, v, none⟩ (.int .i64 (F1 v))) _ (Only.refl _ _)
  have hB1 : Below w.heap.size w (w7.setCell ⟨w.heap.size, v, none⟩ (.int .i64 (F1 v))) := hB.setCell (Nat.le_refl _) _
  have hO1 := hO.set (by rw [il_len]) v (.int .i64 (F1 v))
  rw [il_set] at hO1
  refine ⟨v + 1, _, _, by omega, ?_, by go_num, hB1.trans (hon.below hB1.size (fun k hk => by omega)), ?_, OwnV.setCells _ _ _ _ hS, hC.step hfill hn hm hSg hi⟩
  · rw [if_neg (by omega)]; simp
  · refine OwnV.frame (w := w7.setCell ⟨w.heap.size, v, none⟩ (.int .i64 (F1 v))) ?_ fun g hg => hon.block g (hO1.lt hg) (by
      obtain rfl : w.heap.size = g := by simpa [Value.ownBlock] using hg
      exact (show w.heap.size ≠ sb by omega))
    have e : il (t + 1) (fun k => if k = v then ((F1 v : Nat) : Int) else ((if k < v then F1 k else F0 A R k : Nat) : Int)) = il (t + 1) fun s => ((if s < v + 1 then (if s ≤ v then F1 s else F1 v + m) else F0 A R s : Nat) : Int) := il_ext fun s _ => by
      by_cases e : s = v
      · subst e; rw [if_pos rfl, if_pos (by omega), if_pos (Nat.le_refl _)]
      · by_cases e2 : s < v
        · rw [if_neg e, if_pos e2, if_pos (by omega), if_pos (by omega)]
        · rw [if_neg e, if_neg e2, if_neg (by omega)]
    rw [e] at hO1
    exact hO1

set_option maxHeartbeats 8000000 in
theorem new_walk (w : World) (t R cap : Nat) (ao : Option Addr) (A B : Nat → Nat) (M : Nat → Nat → Bool) (HA : Hid (Arcs w ao R A B)) (ht : t ≤ 1000) (hR : R ≤ 100000) (hA : ∀ r, r < R → A r < t) (hB : ∀ r, r < R → B r < t)
    (HM : Hid (∀ u, u < t → ∀ s, M u s = true ↔ ∃ r, r < R ∧ A r = u ∧ B r = s)) :
    Calls Yba.prog 19 #[.int .i64 t, .slice ao R cap] w fun e w' => ∃ gb gf gs K cf cs F S, e = .returned (.pointer (some ⟨gb, 0, none⟩)) ∧ Gr w' gb gf gs t K cf cs F S ∧ Sg t K F S M ∧ K ≤ R ∧ Below w.heap.size w w' := by
  obtain ⟨i3, a3, b3, c3, d3⟩ := info_parts info3
  have J3 := (show Hid _ from And.intro a3 (And.intro b3 (And.intro c3 d3)))
  clear a3 b3 c3 d3
  have HAt : Hid (∀ r, r < R → A r < t) := hA
  have HBt : Hid (∀ r, r < R → B r < t) := hB
  clear hA hB
  go_enter Yba.func19, Yba.ntmps19
  go_wp2_with (at_make; refine wpList_make_v _ rfl _ _ 22 rfl 3 i3 (.int .i64 0) Yba.underlying22 J3.out.1 J3.out.2.1 J3.out.2.2.1 rfl _ _ _ _ (t + 1) (t + 1) rfl rfl (by simp) (by simp) (Nat.le_refl _) (by rw [J3.out.2.2.2]; omega) (by omega) ?_)
  have HO0 := (show Hid _ from made_il w (t + 1) (by omega) (fun s => (cnt (fun r => A r + 1 == s) 0 : Nat)) (fun s _ => rfl))
  have HB0 := (show Hid _ from (Below.refl w.heap.size w).alloc (Nat.le_refl _) (Obj.cells (Array.replicate (t + 1) (Value.int IntKind.i64 0)) 3))
  generalize w.alloc (Obj.cells (Array.replicate (t + 1) (Value.int IntKind.i64 0)) 3) = w1 at *
  go_loopw [7, 21] (fun x7 x21 wr => ∃ j : Nat, j ≤ R ∧ x21 = .int .i64 j ∧ Below w.heap.size w wr ∧ OwnV wr 3 (.slice (some ⟨w.heap.size, 0, none⟩) (t + 1) (t + 1)) (il (t + 1) fun s => (cnt (fun r => A r + 1 == s) j : Nat))) (fun _ j _ => R - (intOf j).toNat)
  case atStart => exact ⟨0, Nat.zero_le _, rfl, HB0.out, HO0.out⟩
  case round =>
    obtain ⟨j, hj, rfl, hB, hO⟩ := hrel
    have HB := (show Hid _ from hB)
    have HO : Hid (OwnV wr 3 (.slice (some ⟨w.heap.size, 0, none⟩) (t + 1) (t + 1)) (il (t + 1) fun s => (cnt (fun r => A r + 1 == s) j : Nat))) := hO
    clear hB hO HO0 HB0 w1
    by_cases hjR : j < R
    · have hjR' : (j : Int) < (R : Int) := by omega
      obtain ⟨ga, rfl, hgl, hgc⟩ := (HA.out.below HB.out).at' (by omega)
      have hc0 := (hgc j hjR).1
      have hc1 := (hgc j hjR).2
      have hAj := HAt.out j hjR
      have hAj' : (A j : Int) + 1 < (t : Int) + 1 := by omega
      have eA : ((A j : Int) + 1).toNat = A j + 1 := by omega
      have hbd : cnt (fun r => A r + 1 == A j + 1) j ≤ 100000 := Nat.le_trans (cnt_le_n _ _) (by omega)
      have hfl := HO.out.lt (g := w.heap.size) rfl
      have hci : wr.cell? ⟨w.heap.size, A j + 1, none⟩ = some (.int .i64 ((cnt (fun r => A r + 1 == A j + 1) j : Nat) : Int)) := by
        rw [HO.out.cell (by rw [il_len]) (by rw [il_len]; omega)]; exact il_get (by omega)
      have hfi := HO.out.free (by rw [il_len]) (A j + 1)
      generalize hX : cnt (fun r => A r + 1 == A j + 1) j = X at *
      have HX : Hid (cnt (fun r => A r + 1 == A j + 1) j = X) := hX
      clear hX hgc
      go_wp2_with fail
      refine ⟨⟨j + 1, by omega, by go_num, (HB.out.setCell (Nat.le_refl _) _).alloc (by simp [World.setCell]; omega) _, ?_⟩, by simp only [intOf]; omega⟩
      have h1 := HO.out.set (by rw [il_len]) (A j + 1) (.int .i64 ((X : Int) + 1))
      rw [il_set] at h1
      have e : il (t + 1) (fun k => if k = A j + 1 then (X : Int) + 1 else ((cnt (fun r => A r + 1 == k) j : Nat) : Int)) = il (t + 1) (fun s => ((cnt (fun r => A r + 1 == s) (j + 1) : Nat) : Int)) := il_ext fun s _ => by
        have e9 := HX.out
        by_cases e : s = A j + 1
        · subst e
          simp only [if_true, cnt, beq_self_eq_true]; omega
        · have e' : (A j + 1 == s) = false := by simpa using fun h => e h.symm
          simp only [e, if_false, cnt, e']
          simp
      rw [e] at h1
      exact h1.frame fun g hg => Below.heap_alloc _ _ _ (h1.lt hg)
    · obtain rfl : R = j := by omega
      have hjR' : ¬ (R : Int) < (R : Int) := by omega
      clear hjR hj
      have HO2 : Hid (OwnV wr 3 (.slice (some ⟨w.heap.size, 0, none⟩) (t + 1) (t + 1)) (il (t + 1) fun s => ((if s ≤ 0 then F0 A R s else cnt (fun r => A r + 1 == s) R : Nat) : Int))) := by
        have e : (il (t + 1) fun s => ((cnt (fun r => A r + 1 == s) R : Nat) : Int)) = il (t + 1) fun s => ((if s ≤ 0 then F0 A R s else cnt (fun r => A r + 1 == s) R : Nat) : Int) := il_ext fun s _ => by
          by_cases h : s ≤ 0
          · obtain rfl : s = 0 := by omega
            rw [if_pos (Nat.le_refl _), F0_zero, (cnt_zero R).2 fun i _ => by simp]
          · rw [if_neg h]
        show OwnV _ _ _ _
        rw [← e]; exact HO.out
      clear HO
      go_wp2_with fail
      generalize hw2 : wr = w2 at *
      clear hw2
      go_loopw [8, 35] (fun x8 x35 wr => ∃ j : Nat, j ≤ t ∧ x35 = .int .i64 j ∧ Below w.heap.size w wr ∧ OwnV wr 3 (.slice (some ⟨w.heap.size, 0, none⟩) (t + 1) (t + 1)) (il (t + 1) fun s => ((if s ≤ j then F0 A R s else cnt (fun r => A r + 1 == s) R : Nat) : Int))) (fun _ j _ => t - (intOf j).toNat)
      case atStart => exact ⟨0, Nat.zero_le _, rfl, HB.out, HO2.out⟩
      case round =>
        clear HB HO2 w2
        obtain ⟨j, hj, rfl, hB, hO⟩ := hrel
        have HB := (show Hid _ from hB)
        have HO : Hid (OwnV wr 3 (.slice (some ⟨w.heap.size, 0, none⟩) (t + 1) (t + 1)) (il (t + 1) fun s => ((if s ≤ j then F0 A R s else cnt (fun r => A r + 1 == s) R : Nat) : Int))) := hO
        clear hB hO
        by_cases hjt : j < t
        · have hjt' : (j : Int) < (t : Int) := by omega
          have hjt1 : (j : Int) < (t : Int) + 1 := by omega
          have hjt2 : (j : Int) + 1 < (t : Int) + 1 := by omega
          have ej : ((j : Int) + 1).toNat = j + 1 := by omega
          obtain ⟨X, hX⟩ : ∃ X, cnt (fun r => A r + 1 == j + 1) R = X := ⟨_, rfl⟩
          obtain ⟨Y, hY⟩ : ∃ Y, F0 A R j = Y := ⟨_, rfl⟩
          have hXb : X ≤ 100000 := by rw [← hX]; exact Nat.le_trans (cnt_le_n _ _) hR
          have hYb : Y ≤ 100000 := by rw [← hY]; exact Nat.le_trans (cnt_le_n _ _) hR
          have hc1 : wr.cell? ⟨w.heap.size, j + 1, none⟩ = some (.int .i64 X) := by
            rw [HO.out.cell (by rw [il_len]) (by rw [il_len]; omega), il_get (by omega), if_neg (by omega), hX]
          have hc0 : wr.cell? ⟨w.heap.size, j, none⟩ = some (.int .i64 Y) := by
            rw [HO.out.cell (by rw [il_len]) (by rw [il_len]; omega), il_get (by omega), if_pos (by omega), hY]
          have hfi := HO.out.free (by rw [il_len]) (j + 1)
          have HXY : Hid (F0 A R (j + 1) = X + Y) := by
            show _ = _
            rw [F0_succ, hY, ← hX]
            unfold cA
            rw [cnt_ext (p := fun r => A r + 1 == j + 1) (q := fun r => A r == j) R fun i _ => by
              by_cases h : A i = j
              · simp [h]
              · simp]
            omega
          clear hX hY
          go_wp2_with fail
          go_big_region
          all_goals go_wp2_with fail
          all_goals
            refine ⟨⟨j + 1, by omega, by go_num, (HB.out.setCell (Nat.le_refl _) _).drew, ?_⟩, by simp only [intOf]; omega⟩
            have h1 := HO.out.set (by rw [il_len]) (j + 1) (.int .i64 ((X : Int) + (Y : Int)))
            rw [il_set] at h1
            have e : il (t + 1) (fun k => if k = j + 1 then (X : Int) + (Y : Int) else ((if k ≤ j then F0 A R k else cnt (fun r => A r + 1 == k) R : Nat) : Int)) = il (t + 1) fun s => ((if s ≤ j + 1 then F0 A R s else cnt (fun r => A r + 1 == s) R : Nat) : Int) := il_ext fun s _ => by
              have e9 := HXY.out
              by_cases e : s = j + 1
              · subst e
                rw [if_pos rfl, if_pos (Nat.le_refl _)]; omega
              · by_cases e2 : s ≤ j
                · rw [if_neg e, if_pos e2, if_pos (by omega)]
                · rw [if_neg e, if_neg e2, if_neg (by omega)]
            rw [e] at h1
            exact h1.frame fun _ _ => rfl
        · obtain rfl : t = j := by omega
          have hjt' : ¬ (t : Int) < (t : Int) := by omega
          clear hjt hj
          have HO2 : Hid (OwnV wr 3 (.slice (some ⟨w.heap.size, 0, none⟩) (t + 1) (t + 1)) (il (t + 1) fun s => (F0 A R s : Nat))) := by
            have e : (il (t + 1) fun s => ((if s ≤ t then F0 A R s else cnt (fun r => A r + 1 == s) R : Nat) : Int)) = il (t + 1) fun s => ((F0 A R s : Nat) : Int) := il_ext fun s hs => by rw [if_pos (by omega)]
            show OwnV _ _ _ _
            rw [← e]; exact HO.out
          clear HO
          have KC := (show Hid _ from clone_own wr w.heap.size (t + 1) (t + 1) t (t + 1) _ HO2.out (by omega) (by omega))
          have hte : (t : Int) ≤ (t : Int) + 1 := by omega
          go_wp2_with fail
          refine Calls.mono KC.out ?_
          rintro e w3 ⟨nb, cpn, rfl, hOn, hB3, hnb⟩
          have hfl := HO2.out.lt (g := w.heap.size) rfl
          have HB3 : Hid (Below w.heap.size w w3) := HB.out.trans (hB3.mono HB.out.size)
          have HO3 : Hid (OwnV w3 3 (.slice (some ⟨w.heap.size, 0, none⟩) (t + 1) (t + 1)) (il (t + 1) fun s => (F0 A R s : Nat))) := HO2.out.frame fun g hg => hB3.block g (HO2.out.lt hg)
          have HN3 : Hid (OwnV w3 3 (.slice (some ⟨nb, 0, none⟩) t cpn) (il t fun s => (F0 A R s : Nat))) := hOn
          have hnf : w.heap.size < nb := by omega
          clear hOn hB3 KC HO2 HB hnb
          go_wp2_with (at_make; refine wpList_make_v _ rfl _ _ 22 rfl 3 i3 (.int .i64 0) Yba.underlying22 J3.out.1 J3.out.2.1 J3.out.2.2.1 rfl _ _ _ _ R R rfl rfl rfl rfl (Nat.le_refl _) (by rw [J3.out.2.2.2]; omega) (by omega) ?_)
          have HS4 := (show Hid _ from made_il w3 R (by omega) (fun _ => 0) (fun _ _ => rfl))
          have HB4 : Hid (Below w.heap.size w (w3.alloc (Obj.cells (Array.replicate R (Value.int IntKind.i64 0)) 3))) := HB3.out.alloc HB3.out.size _
          have HO4 : Hid (OwnV (w3.alloc (Obj.cells (Array.replicate R (Value.int IntKind.i64 0)) 3)) 3 (.slice (some ⟨w.heap.size, 0, none⟩) (t + 1) (t + 1)) (il (t + 1) fun s => (F0 A R s : Nat))) := HO3.out.frame fun g hg => Below.heap_alloc _ _ _ (HO3.out.lt hg)
          have HN4 : Hid (OwnV (w3.alloc (Obj.cells (Array.replicate R (Value.int IntKind.i64 0)) 3)) 3 (.slice (some ⟨nb, 0, none⟩) t cpn) (il t fun s => ((F0 A R s + cA A s 0 : Nat) : Int))) := HN3.out.frame fun g hg => Below.heap_alloc _ _ _ (HN3.out.lt hg)
          have hsf : nb < w3.heap.size := HN3.out.lt rfl
          generalize w3.alloc (Obj.cells (Array.replicate R (Value.int IntKind.i64 0)) 3) = w4 at *
          obtain ⟨sb, hsb⟩ : ∃ sb, w3.heap.size = sb := ⟨_, rfl⟩
          rw [hsb] at HS4 hsf ⊢
          clear hsb HB3 HO3 HN3 w3
          go_loopw [12, 59] (fun x12 x59 wr => ∃ (j : Nat) (T : Nat → Int), j ≤ R ∧ x59 = .int .i64 j ∧ Below w.heap.size w wr ∧ OwnV wr 3 (.slice (some ⟨w.heap.size, 0, none⟩) (t + 1) (t + 1)) (il (t + 1) fun s => (F0 A R s : Nat)) ∧ OwnV wr 3 (.slice (some ⟨nb, 0, none⟩) t cpn) (il t fun s => ((F0 A R s + cA A s j : Nat) : Int)) ∧ OwnV wr 3 (.slice (some ⟨sb, 0, none⟩) R R) (il R T) ∧ ∀ r, r < j → T (pos A R r) = B r) (fun _ j _ => R - (intOf j).toNat)
          case atStart => exact ⟨0, _, Nat.zero_le _, rfl, HB4.out, HO4.out, HN4.out, HS4.out, fun r h => by omega⟩
          case round =>
            clear HB4 HO4 HN4 HS4 w4
            obtain ⟨j, T, hj, rfl, hB, hO, hN, hS, hT⟩ := hrel
            have HB := (show Hid _ from hB)
            have HO : Hid (OwnV wr 3 (.slice (some ⟨w.heap.size, 0, none⟩) (t + 1) (t + 1)) (il (t + 1) fun s => (F0 A R s : Nat))) := hO
            have HN : Hid (OwnV wr 3 (.slice (some ⟨nb, 0, none⟩) t cpn) (il t fun s => ((F0 A R s + cA A s j : Nat) : Int))) := hN
            have HS : Hid (OwnV wr 3 (.slice (some ⟨sb, 0, none⟩) R R) (il R T)) := hS
            have HT : Hid (∀ r, r < j → T (pos A R r) = B r) := hT
            clear hB hO hN hS hT
            by_cases hjR : j < R
            · have hjR' : (j : Int) < (R : Int) := by omega
              obtain ⟨ga, rfl, hgl, hgc⟩ := (HA.out.below HB.out).at' (by omega)
              have hc0 := (hgc j hjR).1
              have hc1 := (hgc j hjR).2
              have hAj := HAt.out j hjR
              have hAj' : (A j : Int) < (t : Int) := by omega
              have hpR := pos_R (A := A) hjR
              have hcn : wr.cell? ⟨nb, A j, none⟩ = some (.int .i64 ((pos A R j : Nat) : Int)) := by
                rw [HN.out.cell (by rw [il_len]) (by rw [il_len]; omega)]; exact il_get hAj
              obtain ⟨p, hp⟩ : ∃ p, pos A R j = p := ⟨_, rfl⟩
              rw [hp] at hcn hpR
              have HP := (show Hid _ from hp)
              have hpR' : (p : Int) < (R : Int) := by omega
              have hcs : wr.cell? ⟨sb, p, none⟩ = some (.int .i64 (T p)) := by
                rw [HS.out.cell (by rw [il_len]) (by rw [il_len]; omega)]; exact il_get hpR
              have hfn := HN.out.free (by rw [il_len]) (A j)
              have hfs := HS.out.free (by rw [il_len]) p
              have hsl := HS.out.lt (g := sb) rfl
              have hne1 : nb ≠ sb := by omega
              have hne2 : ga ≠ sb := by
                rcases HA.out.at' (by omega) with ⟨g', h1, h2, _⟩
                cases h1; omega
              have hne3 : ga ≠ nb := by
                rcases HA.out.at' (by omega) with ⟨g', h1, h2, _⟩
                cases h1; omega
              have hnl : nb < wr.heap.size := by omega
              clear hp hgc
              go_wp2_with fail
              go_big_region
              all_goals go_wp2_with fail
              all_goals
                have hS1 := HS.out.set (by rw [il_len]) p (.int .i64 (B j))
                rw [il_set] at hS1
                have hN1 := HN.out.frame (w' := wr.setCell ⟨sb, p, none⟩ (.int .i64 (B j))) fun g hg => Below.heap_setCell _ _ _ _ (by
                  obtain rfl : nb = g := by simpa [Value.ownBlock] using hg
                  exact hne1)
                have hN2 := hN1.set (by rw [il_len]) (A j) (.int .i64 ((p : Int) + 1))
                rw [il_set] at hN2
                have hS2 := hS1.frame (w' := (wr.setCell ⟨sb, p, none⟩ (.int .i64 (B j))).setCell ⟨nb, A j, none⟩ (.int .i64 ((p : Int) + 1))) fun g hg => Below.heap_setCell _ _ _ _ (by
                  obtain rfl : sb = g := by simpa [Value.ownBlock] using hg
                  exact Ne.symm hne1)
                have hO2 := (HO.out.frame (w' := wr.setCell ⟨sb, p, none⟩ (.int .i64 (B j))) fun g hg => Below.heap_setCell _ _ _ _ (by
                  obtain rfl : w.heap.size = g := by simpa [Value.ownBlock] using hg
                  exact (show w.heap.size ≠ sb by omega))).frame (w' := (wr.setCell ⟨sb, p, none⟩ (.int .i64 (B j))).setCell ⟨nb, A j, none⟩ (.int .i64 ((p : Int) + 1))) fun g hg => Below.heap_setCell _ _ _ _ (by
                  obtain rfl : w.heap.size = g := by simpa [Value.ownBlock] using hg
                  exact (show w.heap.size ≠ nb by omega))
                have eN : il t (fun k => if k = A j then (p : Int) + 1 else ((F0 A R k + cA A k j : Nat) : Int)) = il t fun s => ((F0 A R s + cA A s (j + 1) : Nat) : Int) := il_ext fun s _ => by
                  have e9 := HP.out
                  unfold pos at e9
                  by_cases e : s = A j
                  · subst e
                    have : cA A (A j) (j + 1) = cA A (A j) j + 1 := by unfold cA; rw [cnt]; simp
                    rw [if_pos rfl, this]; omega
                  · have : cA A s (j + 1) = cA A s j := by
                      unfold cA; rw [cnt]
                      have e' : (A j == s) = false := by simpa using fun h => e h.symm
                      simp [e']
                    rw [if_neg e, this]
                rw [eN] at hN2
                refine ⟨⟨j + 1, _, by omega, by go_num, (((HB.out.setCell (show w.heap.size ≤ sb by omega) _).setCell (show w.heap.size ≤ nb by omega) _).alloc (by simp [World.setCell]; omega) _).drew, (hO2.frame fun g hg => Below.heap_alloc _ _ _ (hO2.lt hg)).frame fun _ _ => rfl, (hN2.frame fun g hg => Below.heap_alloc _ _ _ (hN2.lt hg)).frame fun _ _ => rfl, (hS2.frame fun g hg => Below.heap_alloc _ _ _ (hS2.lt hg)).frame fun _ _ => rfl, fun r hr => ?_⟩, by simp only [intOf]; omega⟩
                have e9 := HP.out
                by_cases e : r = j
                · subst e
                  show (if pos A R r = p then ((B r : Nat) : Int) else T (pos A R r)) = _
                  rw [if_pos e9]
                · have e2 : pos A R r ≠ p := fun h => e (pos_inj (A := A) (by omega) hjR (by omega))
                  show (if pos A R r = p then ((B j : Nat) : Int) else T (pos A R r)) = _
                  rw [if_neg e2]
                  exact HT.out r (by omega)
            · obtain rfl : R = j := by omega
              have hjR' : ¬ (R : Int) < (R : Int) := by omega
              clear hjR hj HN
              go_wp2_with fail
              generalize hw5 : wr = w5 at *
              clear hw5
              have HO5 : Hid (OwnV w5 3 (.slice (some ⟨w.heap.size, 0, none⟩) (t + 1) (t + 1)) (il (t + 1) fun s => ((if s < 0 then (fun _ => 0) s else F0 A R s : Nat) : Int))) := by
                have e : (il (t + 1) fun s => ((F0 A R s : Nat) : Int)) = il (t + 1) fun s => ((if s < 0 then (fun _ => 0) s else F0 A R s : Nat) : Int) := il_ext fun s _ => by rw [if_neg (by omega)]
                show OwnV _ _ _ _
                rw [← e]; exact HO.out
              clear HO
              obtain ⟨T0, hT0⟩ : ∃ T0, T = T0 := ⟨_, rfl⟩
              rw [hT0] at HT HS
              clear hT0 T
              go_loopw [13, 14, 15, 81] (fun x13 x14 x15 x81 wr => ∃ (v : Nat) (F1 : Nat → Nat) (T : Nat → Int), v ≤ t ∧ x13 = .int .i64 (F1 v) ∧ x81 = .int .i64 v ∧ Below w.heap.size w wr ∧ OwnV wr 3 (.slice (some ⟨w.heap.size, 0, none⟩) (t + 1) (t + 1)) (il (t + 1) fun s => ((if s < v then F1 s else F0 A R s : Nat) : Int)) ∧ OwnV wr 3 (.slice (some ⟨sb, 0, none⟩) R R) (il R T) ∧ Cm R A B T0 v F1 T) (fun _ _ _ v _ => t - (intOf v).toNat)
              case atStart => exact ⟨0, _, T0, Nat.zero_le _, rfl, rfl, HB.out, HO5.out, HS.out, Cm.start⟩
              case round =>
                clear HB HO5 HS w5
                obtain ⟨v, F1, T, hv, rfl, rfl, hB, hO, hS, hC⟩ := hrel
                have HB := (show Hid _ from hB)
                have HO : Hid (OwnV wr 3 (.slice (some ⟨w.heap.size, 0, none⟩) (t + 1) (t + 1)) (il (t + 1) fun s => ((if s < v then F1 s else F0 A R s : Nat) : Int))) := hO
                have HS : Hid (OwnV wr 3 (.slice (some ⟨sb, 0, none⟩) R R) (il R T)) := hS
                have HC : Hid (Cm R A B T0 v F1 T) := hC
                clear hB hO hS hC
                have hfl := HO.out.lt (g := w.heap.size) rfl
                have hsl := HS.out.lt (g := sb) rfl
                have hkle : F1 v ≤ F0 A R v := HC.out.le
                obtain ⟨κ, hκ⟩ : ∃ κ, F1 v = κ := ⟨_, rfl⟩
                have Hκ := (show Hid _ from hκ)
                rw [hκ] at hkle ⊢
                clear hκ
                by_cases hvt : v < t
                · have hvt' : (v : Int) < (t : Int) := by omega
                  have hvt1 : (v : Int) < (t : Int) + 1 := by omega
                  have hvt2 : (v : Int) + 1 < (t : Int) + 1 := by omega
                  have ev : ((v : Int) + 1).toNat = v + 1 := by omega
                  have hab : F0 A R v ≤ F0 A R (v + 1) := F0_mono A R (by omega)
                  have hbR : F0 A R (v + 1) ≤ R := F0_le A R _
                  have hc0 : wr.cell? ⟨w.heap.size, v, none⟩ = some (.int .i64 (F0 A R v)) := by
                    rw [HO.out.cell (by rw [il_len]) (by rw [il_len]; omega), il_get (by omega), if_neg (by omega)]
                  have hc1 : wr.cell? ⟨w.heap.size, v + 1, none⟩ = some (.int .i64 (F0 A R (v + 1))) := by
                    rw [HO.out.cell (by rw [il_len]) (by rw [il_len]; omega), il_get (by omega), if_neg (by omega)]
                  obtain ⟨a, ha⟩ : ∃ a, F0 A R v = a := ⟨_, rfl⟩
                  obtain ⟨b, hb⟩ : ∃ b, F0 A R (v + 1) = b := ⟨_, rfl⟩
                  rw [ha] at hc0 hab hkle
                  rw [hb] at hc1 hab hbR
                  have Ha := (show Hid _ from ha)
                  have Hb := (show Hid _ from hb)
                  clear ha hb
                  have hab' : (a : Int) ≤ (b : Int) := by omega
                  have hbR' : (b : Int) ≤ (R : Int) := by omega
                  rcases (show κ = R ∨ (κ < R ∧ a = R) ∨ a < R by omega) with h3 | h3 | h3
                  · obtain rfl : R = a := by omega
                    obtain rfl : R = b := by omega
                    obtain rfl : R = κ := by omega
                    go_wp2_with fail
                    go_big_region
                    go_wp2_with fail
                    refine Calls.mono (sort_own wr.drew sb R R 0 0 _ T (HS.out.frame fun _ _ => rfl) (by omega) (by omega)) ?_
                    rintro e w6 ⟨rfl, T1, hS6, hn6, hg6, hi6⟩
                    have KC := (show Hid _ from compact_own w6 sb R R 0 0 0 T1 hS6 (by omega) (by omega) (by omega) hi6)
                    have HG6 := (show Hid _ from And.intro hn6 hg6)
                    clear hS6 hi6 hn6 hg6
                    go_wp2_with fail
                    refine Calls.mono KC.out ?_
                    rintro e w7 ⟨m, T2, rfl, hm, hS7, hn7, hg7, hi7⟩
                    have HS7 : Hid (OwnV w7 3 (.slice (some ⟨sb, 0, none⟩) R R) (il R T2)) := hS7
                    have HOnl : Hid (Only (fun k => k = sb) wr w7) := (((Only.refl _ wr).drew).trans HG6.out.1).trans hn7
                    have HSg : Hid (Seg R R 0 T T2 m) := Seg.move (HG6.out.2.trans hg7) (by omega)
                    have HIn : Hid (∀ k l, R ≤ k → k < l → l < R + m → T2 k < T2 l) := fun k l h1 h2 h3 => by omega
                    clear hS7 hn7 hg7 hi7 KC HG6
                    have HO7 : Hid (OwnV w7 3 (.slice (some ⟨w.heap.size, 0, none⟩) (t + 1) (t + 1)) (il (t + 1) fun s => ((if s < v then F1 s else F0 A R s : Nat) : Int))) := HO.out.frame fun g hg => HOnl.out.block g (HO.out.lt hg) (by
                      obtain rfl : w.heap.size = g := by simpa [Value.ownBlock] using hg
                      exact (show w.heap.size ≠ sb by omega))
                    have HB7 : Hid (Below w.heap.size w w7) := HB.out.trans (HOnl.out.below HB.out.size (fun k hk => by omega))
                    have hfc : w7.cell? ⟨w.heap.size, v, none⟩ = some (.int .i64 R) := by
                      rw [HO7.out.cell (by rw [il_len]) (by rw [il_len]; omega), il_get (by omega), if_neg (by omega), Ha.out]
                    have hff := HO7.out.free (by rw [il_len]) v
                    have HS8 : Hid (OwnV (w7.setCell ⟨w.heap.size, v, none⟩ (.int .i64 R)) 3 (.slice (some ⟨sb, 0, none⟩) R R) (il R T2)) := HS7.out.frame fun g hg => Below.heap_setCell _ _ _ _ (by
                      obtain rfl : sb = g := by simpa [Value.ownBlock] using hg
                      exact (show sb ≠ w.heap.size by omega))
                    have hsum : ((R : Nat) : Int) + (m : Int) ≤ 100000 := by omega
                    go_wp2_with ((refine wpList_copy_in rfl (.tmp 106) (.tmp 107) rfl sb R R R 0 m _ _ _ _ T2 HS8.out rfl rfl (fun h => by omega) (by omega) (by omega) (by omega) ?_))
                    obtain rfl : m = 0 := by omega
                    exact ⟨new_round HC.out HT.out Hκ.out Ha.out (by have := Hb.out; omega) hm rfl hvt (by omega) HB7.out HO7.out HS8.out HSg.out HIn.out, by simp only [intOf]; omega⟩
                  · obtain rfl : R = a := by omega
                    obtain rfl : R = b := by omega
                    have hRk : ¬ R = κ := by omega
                    have hkR : (κ : Int) ≤ (R : Int) := by omega
                    go_wp2_with fail
                    go_big_region
                    go_wp2_with fail
                    refine Calls.mono (sort_own wr.drew sb R R 0 0 _ T (HS.out.frame fun _ _ => rfl) (by omega) (by omega)) ?_
                    rintro e w6 ⟨rfl, T1, hS6, hn6, hg6, hi6⟩
                    have KC := (show Hid _ from compact_own w6 sb R R 0 0 0 T1 hS6 (by omega) (by omega) (by omega) hi6)
                    have HG6 := (show Hid _ from And.intro hn6 hg6)
                    clear hS6 hi6 hn6 hg6
                    go_wp2_with fail
                    refine Calls.mono KC.out ?_
                    rintro e w7 ⟨m, T2, rfl, hm, hS7, hn7, hg7, hi7⟩
                    have HS7 : Hid (OwnV w7 3 (.slice (some ⟨sb, 0, none⟩) R R) (il R T2)) := hS7
                    have HOnl : Hid (Only (fun k => k = sb) wr w7) := (((Only.refl _ wr).drew).trans HG6.out.1).trans hn7
                    have HSg : Hid (Seg R R 0 T T2 m) := Seg.move (HG6.out.2.trans hg7) (by omega)
                    have HIn : Hid (∀ k l, R ≤ k → k < l → l < R + m → T2 k < T2 l) := fun k l h1 h2 h3 => by omega
                    clear hS7 hn7 hg7 hi7 KC HG6
                    have HO7 : Hid (OwnV w7 3 (.slice (some ⟨w.heap.size, 0, none⟩) (t + 1) (t + 1)) (il (t + 1) fun s => ((if s < v then F1 s else F0 A R s : Nat) : Int))) := HO.out.frame fun g hg => HOnl.out.block g (HO.out.lt hg) (by
                      obtain rfl : w.heap.size = g := by simpa [Value.ownBlock] using hg
                      exact (show w.heap.size ≠ sb by omega))
                    have HB7 : Hid (Below w.heap.size w w7) := HB.out.trans (HOnl.out.below HB.out.size (fun k hk => by omega))
                    have hfc : w7.cell? ⟨w.heap.size, v, none⟩ = some (.int .i64 R) := by
                      rw [HO7.out.cell (by rw [il_len]) (by rw [il_len]; omega), il_get (by omega), if_neg (by omega), Ha.out]
                    have hff := HO7.out.free (by rw [il_len]) v
                    have HS8 : Hid (OwnV (w7.setCell ⟨w.heap.size, v, none⟩ (.int .i64 κ)) 3 (.slice (some ⟨sb, 0, none⟩) R R) (il R T2)) := HS7.out.frame fun g hg => Below.heap_setCell _ _ _ _ (by
                      obtain rfl : sb = g := by simpa [Value.ownBlock] using hg
                      exact (show sb ≠ w.heap.size by omega))
                    have hsum : ((κ : Nat) : Int) + (m : Int) ≤ 100000 := by omega
                    go_wp2_with ((refine wpList_copy_in rfl (.tmp 106) (.tmp 107) rfl sb R R κ 0 m _ _ _ _ T2 HS8.out rfl rfl (fun h => by omega) (by omega) (by omega) (by omega) ?_))
                    obtain rfl : m = 0 := by omega
                    exact ⟨new_round HC.out HT.out Hκ.out Ha.out (by have := Hb.out; omega) hm rfl hvt (by omega) HB7.out HO7.out HS8.out HSg.out HIn.out, by simp only [intOf]; omega⟩
                  · have hRa : ¬ R = a := by omega
                    have hRk : ¬ R = κ := by omega
                    have hkR : (κ : Int) ≤ (R : Int) := by omega
                    go_wp2_with fail
                    go_big_region
                    go_wp2_with fail
                    refine Calls.mono (sort_own wr.drew sb R R a (b - a) _ T (HS.out.frame fun _ _ => rfl) (by omega) (by omega)) ?_
                    rintro e w6 ⟨rfl, T1, hS6, hn6, hg6, hi6⟩
                    have KC := (show Hid _ from compact_own w6 sb R R a (b - a) (R - a) T1 hS6 (by omega) (by omega) (by omega) hi6)
                    have HG6 := (show Hid _ from And.intro hn6 hg6)
                    clear hS6 hi6 hn6 hg6
                    go_wp2_with fail
                    refine Calls.mono KC.out ?_
                    rintro e w7 ⟨m, T2, rfl, hm, hS7, hn7, hg7, hi7⟩
                    have HS7 : Hid (OwnV w7 3 (.slice (some ⟨sb, 0, none⟩) R R) (il R T2)) := hS7
                    have HOnl : Hid (Only (fun k => k = sb) wr w7) := (((Only.refl _ wr).drew).trans HG6.out.1).trans hn7
                    have HSg : Hid (Seg R a (b - a) T T2 m) := HG6.out.2.trans hg7
                    have HIn : Hid (∀ k l, a ≤ k → k < l → l < a + m → T2 k < T2 l) := hi7
                    clear hS7 hn7 hg7 hi7 KC HG6
                    have HO7 : Hid (OwnV w7 3 (.slice (some ⟨w.heap.size, 0, none⟩) (t + 1) (t + 1)) (il (t + 1) fun s => ((if s < v then F1 s else F0 A R s : Nat) : Int))) := HO.out.frame fun g hg => HOnl.out.block g (HO.out.lt hg) (by
                      obtain rfl : w.heap.size = g := by simpa [Value.ownBlock] using hg
                      exact (show w.heap.size ≠ sb by omega))
                    have HB7 : Hid (Below w.heap.size w w7) := HB.out.trans (HOnl.out.below HB.out.size (fun k hk => by omega))
                    have hfc : w7.cell? ⟨w.heap.size, v, none⟩ = some (.int .i64 a) := by
                      rw [HO7.out.cell (by rw [il_len]) (by rw [il_len]; omega), il_get (by omega), if_neg (by omega), Ha.out]
                    have hff := HO7.out.free (by rw [il_len]) v
                    have HS8 : Hid (OwnV (w7.setCell ⟨w.heap.size, v, none⟩ (.int .i64 κ)) 3 (.slice (some ⟨sb, 0, none⟩) R R) (il R T2)) := HS7.out.frame fun g hg => Below.heap_setCell _ _ _ _ (by
                      obtain rfl : sb = g := by simpa [Value.ownBlock] using hg
                      exact (show sb ≠ w.heap.size by omega))
                    have hsum : ((κ : Nat) : Int) + (m : Int) ≤ 100000 := by omega
                    go_wp2_with ((refine wpList_copy_in rfl (.tmp 106) (.tmp 107) rfl sb R R κ a m _ _ _ _ T2 HS8.out rfl rfl (fun h => by omega) (by omega) (by omega) (by omega) ?_))
                    exact ⟨new_round HC.out HT.out Hκ.out Ha.out (by have := Hb.out; omega) hm rfl hvt (by omega) HB7.out HO7.out HS8.out HSg.out HIn.out, by simp only [intOf]; omega⟩
                · obtain rfl : t = v := by omega
                  have hvt' : ¬ (t : Int) < (t : Int) := by omega
                  have htt : (t : Int) < (t : Int) + 1 := by omega
                  have hkR : (κ : Int) ≤ (R : Int) := by have := F0_le A R t; omega
                  have hc0 : wr.cell? ⟨w.heap.size, t, none⟩ = some (.int .i64 (F0 A R t)) := by
                    rw [HO.out.cell (by rw [il_len]) (by rw [il_len]; omega), il_get (by omega), if_neg (by omega)]
                  have hf0 := HO.out.free (by rw [il_len]) t
                  go_wp2_with fail
                  have hO1 := HO.out.set (by rw [il_len]) t (.int .i64 κ)
                  rw [il_set] at hO1
                  have hk := Hκ.out
                  have eo : il (t + 1) (fun k => if k = t then ((κ : Nat) : Int) else ((if k < t then F1 k else F0 A R k : Nat) : Int)) = il (t + 1) fun s => ((F1 s : Nat) : Int) := il_ext fun s hs => by
                    by_cases e : s = t
                    · subst e; rw [if_pos rfl, hk]
                    · rw [if_neg e, if_pos (by omega)]
                  rw [eo] at hO1
                  have hS1 := HS.out.frame (w' := wr.setCell ⟨w.heap.size, t, none⟩ (.int .i64 κ)) fun g hg => Below.heap_setCell _ _ _ _ (by
                    obtain rfl : sb = g := by simpa [Value.ownBlock] using hg
                    exact (show sb ≠ w.heap.size by omega))
                  have hsg := HC.out.sg HBt.out HM.out
                  rw [hk] at hsg
                  have hB1 : Below w.heap.size w (wr.setCell ⟨w.heap.size, t, none⟩ (.int .i64 κ)) := HB.out.setCell (Nat.le_refl _) _
                  have hsz : (wr.setCell ⟨w.heap.size, t, none⟩ (.int .i64 κ)).heap.size = wr.heap.size := by simp [World.setCell]
                  have hF := F0_le A R t
                  have HFN : Hid (Gr ((wr.setCell ⟨w.heap.size, t, none⟩ (.int .i64 κ)).alloc (Obj.cells #[Value.slice (some ⟨w.heap.size, 0, none⟩) (t + 1) (t + 1), Value.slice (some ⟨sb, 0, none⟩) κ κ] 102)) wr.heap.size w.heap.size sb t κ (t + 1) κ F1 (fun k => (T k).toNat)) := by
                    rw [← hsz] at hfl hsl ⊢
                    generalize wr.setCell ⟨w.heap.size, t, none⟩ (.int .i64 κ) = w9 at *
                    refine ⟨by simp, by simp, fun v hv => ?_, fun k hk1 => ?_, Nat.le_refl _, Nat.le_refl _, by simp, by simp; omega, by simp; omega⟩
                    · rw [cell_of_block (Below.heap_alloc _ _ _ hfl), hO1.cell (by rw [il_len]) (by rw [il_len]; omega)]
                      exact il_get (by omega)
                    · rw [cell_of_block (Below.heap_alloc _ _ _ hsl), hS1.cell (by rw [il_len]) (by rw [il_len]; omega), il_get (by omega)]
                      obtain ⟨r, _, e⟩ := HC.out.cell (k := k) (by omega)
                      have e2 : T k = (((T k).toNat : Nat) : Int) := by omega
                      rw [← e2]
                  have HBN := (show Hid _ from hB1.alloc (by rw [hsz]; exact HB.out.size) (Obj.cells #[Value.slice (some ⟨w.heap.size, 0, none⟩) (t + 1) (t + 1), Value.slice (some ⟨sb, 0, none⟩) κ κ] 102))
                  have HSG := (show Hid _ from hsg)
                  clear hO1 hS1 hsg hB1 eo hk
                  go_ret
                  exact ⟨wr.heap.size, rfl, _, _, _, _, _, _, _, HFN.out, HSG.out, by omega, HBN.out⟩
end Go.Proofs.Ybulkecis

/-
  The heap in memory: push and pop.
-/
import Derived.Test.YbulkecisHeap
import Derived.Test.YbulkecisOwn
import Derived.Test.YbulkecisRows
import Derived.Deep.CutRange
import Derived.Deep.CutBlock
import Derived.BigRegion
namespace Go.Proofs.Ybulkecis
open Go.RowKit _root_.Go.Proofs.Ybulkecis.Own
set_option linter.unusedVariables false
set_option maxRecDepth 100000

def il (n : Nat) (D : Nat → Int) : List Value := (List.range n).map fun i => Value.int .i64 (D i)
theorem il_len (n : Nat) (D : Nat → Int) : (il n D).length = n := by simp [il]
theorem il_get {n : Nat} {D : Nat → Int} {j : Nat} (h : j < n) : (il n D)[j]? = some (.int .i64 (D j)) := by simp [il, h]
theorem il_ext {n : Nat} {D E : Nat → Int} (h : ∀ i, i < n → D i = E i) : il n D = il n E := by
  unfold il
  exact List.map_congr_left fun i hi => by rw [h i (List.mem_range.1 hi)]
theorem il_set {n : Nat} {D : Nat → Int} {j : Nat} {x : Int} : (il n D).set j (.int .i64 x) = il n (fun k => if k = j then x else D k) := by
  apply List.ext_getElem?
  intro k
  rw [List.getElem?_set]
  by_cases e : j = k
  · subst e
    simp only [if_true, il_len]
    by_cases h : j < n
    · rw [if_pos h, il_get h]; simp
    · rw [if_neg h, List.getElem?_eq_none (by rw [il_len]; omega)]
  · rw [if_neg e]
    by_cases h : k < n
    · rw [il_get h, il_get h]; simp [Ne.symm e]
    · rw [List.getElem?_eq_none (by rw [il_len]; omega), List.getElem?_eq_none (by rw [il_len]; omega)]
theorem il_snoc (n : Nat) (D : Nat → Int) : il (n + 1) D = il n D ++ [.int .i64 (D n)] := by simp [il, List.range_succ]

theorem own_swap {w : World} {g cap m i j : Nat} {a : Nat → Int} (h : OwnV w 3 (.slice (some ⟨g, 0, none⟩) m cap) (il m a)) (hij : i ≠ j) : OwnV ((w.setCell ⟨g, i, none⟩ (.int .i64 (a j))).setCell ⟨g, j, none⟩ (.int .i64 (a i))) 3 (.slice (some ⟨g, 0, none⟩) m cap) (il m (sw a i j)) := by
  have h1 := h.set (by rw [il_len]) i (.int .i64 (a j))
  rw [il_set] at h1
  have h2 := h1.set (by rw [il_len]) j (.int .i64 (a i))
  rw [il_set] at h2
  refine (il_ext ?_) ▸ h2
  intro k _
  unfold sw
  by_cases e1 : k = i
  · rw [if_neg (by omega), if_pos e1, if_pos e1]
  · by_cases e2 : k = j
    · rw [if_pos e2, if_neg e1, if_pos e2]
    · rw [if_neg e2, if_neg e1, if_neg e1, if_neg e2]

theorem info3 : (Yba.prog.info? 3).map (fun i => (i.zero, i.size, i.bytes)) = some (some (.int .i64 0), 1, 8) := by kernel_rfl

/-- The heap's variable at hb, from v to v'. -/
structure Hq (w w' : World) (hb : Nat) (v v' : Value) (m : Nat) (a : Nat → Int) : Prop where
  own : OwnV w' 3 v' (il m a)
  c : w'.cell? ⟨hb, 0, none⟩ = some v'
  f : w'.frozen? ⟨hb, 0, none⟩ = false
  lt : hb < w'.heap.size
  ne : v'.ownBlock ≠ some hb
  onl : Only (fun k => k = hb ∨ v.ownBlock = some k) w w'
  blk : ∀ g, v'.ownBlock = some g → v.ownBlock = some g ∨ w.heap.size ≤ g

theorem Hq.drew {w w' : World} {hb : Nat} {v v' : Value} {m : Nat} {a : Nat → Int} (h : Hq w w' hb v v' m a) : Hq w w'.drew hb v v' m a := ⟨h.own.frame fun _ _ => rfl, h.c, h.f, h.lt, h.ne, h.onl.drew, h.blk⟩

set_option maxHeartbeats 4000000 in
theorem push_walk (w : World) (hb m : Nat) (v : Value) (a : Nat → Int) (x : Int) (hm : m ≤ 100000) (HO : Hid (OwnV w 3 v (il m a))) (hc : w.cell? ⟨hb, 0, none⟩ = some v) (hf : w.frozen? ⟨hb, 0, none⟩ = false) (hlt : hb < w.heap.size) (hne : v.ownBlock ≠ some hb) :
    Calls Yba.prog 33 #[.pointer (some ⟨hb, 0, none⟩), .int .i64 x] w fun e w' => e = .returned (.tuple #[]) ∧ ∃ v' b, Hq w w' hb v v' (m + 1) b ∧ (Hp a m → Hp b (m + 1)) ∧ ∀ P, Cov a m P → ¬ P x → Cov b (m + 1) (fun c => P c ∨ c = x) := by
  obtain ⟨i3, a3, b3, c3, d3⟩ := info_parts info3
  have J3 := (show Hid _ from And.intro a3 (And.intro b3 (And.intro c3 d3)))
  clear a3 b3 c3 d3
  obtain ⟨ao, cap, hform⟩ := HO.out.form'
  rw [il_len] at hform
  subst hform
  have HNE := (show Hid _ from hne)
  have HOW : Hid (OwnV (w.alloc (.cells #[.int .i64 x] 3)) 3 (.slice ao m cap) (il m a)) := HO.out.frame fun g hg => Below.heap_alloc _ _ _ (HO.out.lt hg)
  clear hne
  go_enter Yba.func33, Yba.ntmps33
  go_wp2_with (at_builtin; go_loud (refine wpList_append_n _ rfl (.tmp 9) (.tmp 11) 103 rfl 3 i3 (.int .i64 0) 8 Yba.underlying103 J3.out.1 J3.out.2.1 J3.out.2.2.1 J3.out.2.2.2 rfl (.slice ao m cap) (il m a) rfl HOW.out ⟨w.heap.size, 0, none⟩ 1 1 [.int .i64 x] rfl rfl (by decide) (one_new _ _ _ _ rfl) (by intro q hq; simp at hq; subst hq; rfl) (by rw [il_len]; unfold maxLen; omega) (by rw [il_len]; omega) ?_); intro g1 cap1 w1 hown hgrow hpl hcx; rw [il_len] at hown ⊢; have HG := (show Hid _ from And.intro hown (And.intro hgrow hpl)); clear hown hgrow hpl hcx)
  obtain ⟨b0, hb0⟩ : ∃ b0 : Nat → Int, b0 = fun k => if k = m then x else a k := ⟨_, rfl⟩
  have hbe : il m a ++ [.int .i64 x] = il (m + 1) b0 := by
    rw [il_snoc]
    have e1 : il m a = il m b0 := il_ext fun i hi => by rw [hb0]; simp [show i ≠ m by omega]
    have e2 : b0 m = x := by rw [hb0]; simp
    rw [e1, e2]
  have hO1 := HG.out.1
  rw [hbe] at hO1
  have HO1 : Hid (OwnV w1 3 (.slice (some ⟨g1, 0, none⟩) (m + 1) cap1) (il (m + 1) b0)) := hO1
  have hgb : g1 ≠ hb := by
    rcases HG.out.2.2 with h | h
    · intro e; subst e; exact HNE.out h
    · simp at h; omega
  have hX : Only (fun k => k = hb ∨ (Value.slice ao m cap).ownBlock = some k) w w1 := by
    have hg := HG.out.2.1
    exact ⟨hg.os, hg.tape, hg.output, Nat.le_trans (by simp) hg.size, fun k hk hn => (hg.block k (by simp; omega) (fun e => hn (.inr e.symm))).trans (Below.heap_alloc _ _ _ hk)⟩
  have HX := (show Hid _ from hX)
  have hblk1 : w1.heap[hb]? = w.heap[hb]? := by
    have hg := HG.out.2.1
    exact (hg.block hb (by simp; omega) (fun e => HNE.out e.symm)).trans (Below.heap_alloc _ _ _ hlt)
  have HBK := (show Hid _ from hblk1)
  have HPl := (show Hid _ from HG.out.2.2)
  have HU0 : Hid (Hp a m → HpUp b0 (m + 1) m) := fun h => h.push fun k hk => by rw [hb0]; simp [show k ≠ m by omega]
  have HC0 : Hid (∀ P, Cov a m P → ¬ P x → Cov b0 (m + 1) (fun c => P c ∨ c = x)) := fun P h hx => h.push hx (fun k hk => by rw [hb0]; simp [show k ≠ m by omega]) (by rw [hb0]; simp)
  clear hO1 hbe hb0 hX hblk1 HG HOW
  go_loopw [5, 6] (fun x5 x6 wr => ∃ (i : Nat) (b : Nat → Int), x5 = .int .i64 i ∧ i ≤ m ∧ OwnV wr 3 (.slice (some ⟨g1, 0, none⟩) (m + 1) cap1) (il (m + 1) b) ∧ Only (fun k => k = g1) w1 wr ∧ (Hp a m → HpUp b (m + 1) i) ∧ ∀ P, Cov a m P → ¬ P x → Cov b (m + 1) (fun c => P c ∨ c = x)) (fun i _ _ => (intOf i).toNat)
  case atStart => exact ⟨m, b0, by go_num, Nat.le_refl _, HO1.out, Only.refl _ _, HU0.out, HC0.out⟩
  case round =>
    obtain ⟨i, b, rfl, hi, hO, hon, hU, hC⟩ := hrel
    have HOb : Hid (OwnV wr 3 (.slice (some ⟨g1, 0, none⟩) (m + 1) cap1) (il (m + 1) b)) := hO
    have HON := (show Hid _ from hon)
    have HUb := (show Hid _ from hU)
    have HCb := (show Hid _ from hC)
    have hcb : wr.cell? ⟨hb, 0, none⟩ = some (.slice ao m cap) := by
      rw [← hc]; simp only [World.cell?]
      have h1 : wr.heap[hb]? = w.heap[hb]? := (hon.block hb (Nat.lt_of_lt_of_le hlt HX.out.size) (fun e => hgb e.symm)).trans HBK.out
      rw [h1]
    have hfb : wr.frozen? ⟨hb, 0, none⟩ = false := by
      have h1 : wr.heap[hb]? = w.heap[hb]? := (hon.block hb (Nat.lt_of_lt_of_le hlt HX.out.size) (fun e => hgb e.symm)).trans HBK.out
      exact (World.frozen?_of_block h1).trans hf
    have FIN : Hid (Hp b (m + 1) ∨ ¬ Hp a m → ∃ v' b', Hq w (wr.setCell ⟨hb, 0, none⟩ (.slice (some ⟨g1, 0, none⟩) (m + 1) cap1)) hb (.slice ao m cap) v' (m + 1) b' ∧ (Hp a m → Hp b' (m + 1)) ∧ ∀ P, Cov a m P → ¬ P x → Cov b' (m + 1) (fun c => P c ∨ c = x)) := by
      intro hfin
      refine ⟨_, b, ⟨HOb.out.frame fun g hg => Below.heap_setCell _ _ _ _ (fun e => hgb (by subst e; simpa [Value.ownBlock] using hg)), World.cell?_setCell_same _ _ _ hcb, by simp [hfb], ?_, fun e => hgb (by simpa [Value.ownBlock] using e), ?_, fun g hg => ?_⟩, fun h => hfin.elim id (fun h' => absurd h h'), HCb.out⟩
      · have : hb < wr.heap.size := Nat.lt_of_lt_of_le hlt (Nat.le_trans HX.out.size HON.out.size)
        simpa [World.setCell] using this
      · have h1 : Only (fun k => k = hb ∨ (Value.slice ao m cap).ownBlock = some k) w wr := by
          refine ⟨HON.out.os.trans HX.out.os, HON.out.tape.trans HX.out.tape, HON.out.output.trans HX.out.output, Nat.le_trans HX.out.size HON.out.size, fun k hk hn => ?_⟩
          refine (HON.out.block k (Nat.lt_of_lt_of_le hk HX.out.size) (fun e => ?_)).trans (HX.out.block k hk hn)
          rcases HPl.out with h | h
          · exact hn (.inr (by rw [e]; exact h))
          · simp at h; omega
        exact h1.setCell _ _ (fun _ => .inl rfl)
      · obtain rfl : g1 = g := by simpa [Value.ownBlock] using hg
        rcases HPl.out with h | h
        · exact .inl h
        · exact .inr (by simp at h; omega)
    clear hO hon hU hC HU0 HC0 HO1
    by_cases hi0 : i = 0
    · subst hi0
      have hz : ¬ (0 : Int) < ((0 : Nat) : Int) := by omega
      go_wp2_with fail
      go_end0
      exact ⟨rfl, FIN.out (by
        by_cases h : Hp a m
        · exact .inl (HUb.out h).stop0
        · exact .inr h)⟩
    · have hz : (0 : Int) < (i : Int) := by omega
      obtain ⟨p, hp⟩ : ∃ p, (i - 1) / 2 = p := ⟨_, rfl⟩
      have e1 : ((i : Int) - 1).tdiv 2 = (p : Int) := by rw [Int.tdiv_eq_ediv_of_nonneg (by omega)]; omega
      have hpi : p ≠ i := by omega
      have hpm : (p : Int) < (m : Int) + 1 := by omega
      have him : (i : Int) < (m : Int) + 1 := by omega
      have h1 : wr.cell? ⟨g1, p, none⟩ = some (.int .i64 (b p)) := by
        rw [HOb.out.cell (by rw [il_len]) (by rw [il_len]; omega)]; exact il_get (by omega)
      have h2 : wr.cell? ⟨g1, i, none⟩ = some (.int .i64 (b i)) := by
        rw [HOb.out.cell (by rw [il_len]) (by rw [il_len]; omega)]; exact il_get (by omega)
      have hf1 := HOb.out.free (by rw [il_len]) p
      have hf2 := HOb.out.free (by rw [il_len]) i
      by_cases hle : b p ≤ b i
      · go_wp2_with fail
        go_big_region
        go_wp2_with fail
        go_end0
        exact ⟨rfl, by
          obtain ⟨v', b', hq, h2, h3⟩ := FIN.out (by
            by_cases h : Hp a m
            · exact .inl ((HUb.out h).stop (by rw [hp]; exact hle))
            · exact .inr h)
          exact ⟨v', b', hq.drew, h2, h3⟩⟩
      · go_wp2_with fail
        go_big_region
        go_wp2_with fail
        go_big_region
        all_goals go_wp2_with fail
        all_goals
          refine ⟨⟨p, sw b p i, rfl, by omega, (own_swap HOb.out hpi).frame fun _ _ => rfl, (((HON.out.setCell ⟨g1, p, none⟩ _ (fun _ => rfl)).setCell ⟨g1, i, none⟩ _ (fun _ => rfl)).drew).drew, fun h => ?_, fun P h hx => (HCb.out P h hx).swap (by omega) (by omega)⟩, by simp [intOf]; omega⟩
          have h9 := (HUb.out h).step (by omega) (by omega) (by rw [hp]; omega)
          rw [hp] at h9
          exact h9

theorem idx0 (x0 x1 : Value) (w : World) : (Instr.index 113 (.agg #[x0, x1]) (.int .i64 0)).run Yba.prog w = .ok x0 w := by kernel_rfl
theorem idx1 (x0 x1 : Value) (w : World) : (Instr.index 113 (.agg #[x0, x1]) (.int .i64 1)).run Yba.prog w = .ok x1 w := by kernel_rfl
/-- Which of i and its first k children is the least. -/
structure Lst (b : Nat → Int) (m i k l : Nat) : Prop where
  mem : l = i ∨ ((l = 2 * i + 1 ∨ l = 2 * i + 2) ∧ l < m ∧ b l < b i)
  c1 : 1 ≤ k → 2 * i + 1 < m → b l ≤ b (2 * i + 1)
  c2 : 2 ≤ k → 2 * i + 2 < m → b l ≤ b (2 * i + 2)

set_option maxHeartbeats 4000000 in
theorem pop_walk (w : World) (hb m g cap : Nat) (a : Nat → Int) (hm : m ≤ 100000) (HO : Hid (OwnV w 3 (.slice (some ⟨g, 0, none⟩) (m + 1) cap) (il (m + 1) a))) (hc : w.cell? ⟨hb, 0, none⟩ = some (.slice (some ⟨g, 0, none⟩) (m + 1) cap)) (hf : w.frozen? ⟨hb, 0, none⟩ = false) (hlt : hb < w.heap.size) (hne : g ≠ hb) (hcap : m + 1 ≤ cap) :
    Calls Yba.prog 31 #[.pointer (some ⟨hb, 0, none⟩)] w fun e w' => e = .returned (.int .i64 (a 0)) ∧ ∃ b, Hq w w' hb (.slice (some ⟨g, 0, none⟩) (m + 1) cap) (.slice (some ⟨g, 0, none⟩) m cap) m b ∧ (Hp a (m + 1) → Hp b m) ∧ ∀ P, Cov a (m + 1) P → Cov b m (fun c => P c ∧ c ≠ a 0) := by
  have h0 : w.cell? ⟨g, 0, none⟩ = some (.int .i64 (a 0)) := by
    rw [HO.out.cell (by rw [il_len]) (by rw [il_len]; omega)]; exact il_get (by omega)
  have hl : w.cell? ⟨g, m, none⟩ = some (.int .i64 (a m)) := by
    rw [HO.out.cell (by rw [il_len]) (by rw [il_len]; omega)]; exact il_get (by omega)
  have hfg := HO.out.free (by rw [il_len]) 0
  have hm1 : (m : Int) < (m : Int) + 1 := by omega
  have hm2 : (0 : Int) < (m : Int) + 1 := by omega
  have hm3 : (m : Int) ≤ (m : Int) + 1 := by omega
  have hm4 : (m : Int) ≤ cap := by omega
  obtain ⟨a1, ha1⟩ : ∃ a1 : Nat → Int, a1 = fun k => if k = 0 then a m else a k := ⟨_, rfl⟩
  have hO1 : OwnV (w.setCell ⟨g, 0, none⟩ (.int .i64 (a m))) 3 (.slice (some ⟨g, 0, none⟩) m cap) (il m a1) := by
    have h1 := HO.out.set (by rw [il_len]) 0 (.int .i64 (a m))
    rw [il_set, il_snoc] at h1
    have h2 := h1.pop (by rw [il_len])
    rw [il_len] at h2
    rw [ha1]; exact h2
  have HO1 : Hid (OwnV (w.setCell ⟨g, 0, none⟩ (.int .i64 (a m))) 3 (.slice (some ⟨g, 0, none⟩) m cap) (il m a1)) := hO1
  have HU0 : Hid (Hp a (m + 1) → HpDn a1 m 0) := fun h => by rw [ha1]; exact h.pop
  have HC0 : Hid (∀ P, Cov a (m + 1) P → Cov a1 m (fun c => P c ∧ c ≠ a 0)) := fun P h => by rw [ha1]; exact h.pop
  clear hO1 ha1
  go_enter Yba.func31, Yba.ntmps31
  go_wp2_with fail
  go_loopw [6, 7, 9] (fun x6 x7 x9 wr => ∃ (i : Nat) (b : Nat → Int), x6 = .int .i64 i ∧ i ≤ m ∧ OwnV wr 3 (.slice (some ⟨g, 0, none⟩) m cap) (il m b) ∧ Only (fun k => k = g) w wr ∧ (Hp a (m + 1) → HpDn b m i) ∧ ∀ P, Cov a (m + 1) P → Cov b m (fun c => P c ∧ c ≠ a 0)) (fun i _ _ _ => m + 1 - (intOf i).toNat)
  case atStart => exact ⟨0, a1, by go_num, Nat.zero_le _, HO1.out, (Only.refl _ w).setCell _ _ (fun _ => rfl), HU0.out, HC0.out⟩
  case round =>
    obtain ⟨i, b, rfl, hi, hO, hon, hU, hC⟩ := hrel
    have HOb : Hid (OwnV wr 3 (.slice (some ⟨g, 0, none⟩) m cap) (il m b)) := hO
    have HON := (show Hid _ from hon)
    have HUb := (show Hid _ from hU)
    have HCb := (show Hid _ from hC)
    have hi' : (i : Int) ≤ 100000 := by omega
    have I0 := fun w => idx0 (.int .i64 ((2 : Int) * (i : Int) + 1)) (.int .i64 ((2 : Int) * (i : Int) + 2)) w
    have I1 := fun w => idx1 (.int .i64 ((2 : Int) * (i : Int) + 1)) (.int .i64 ((2 : Int) * (i : Int) + 2)) w
    clear hO hon hU hC HU0 HC0 HO1 h0 hl hfg
    go_wp2_with fail
    generalize hwcx : wr = w3 at *
    clear hwcx
    go_loopw [7, 9, 36] (fun x7 x9 x36 wr => ∃ k l : Nat, k ≤ 2 ∧ x36 = .int .i64 k ∧ x7 = .int .i64 l ∧ Lst b m i k l ∧ ∃ q, wr = w3.drewN q) (fun _ _ k _ => 2 - (intOf k).toNat)
    case atStart => exact ⟨0, i, by omega, rfl, rfl, ⟨.inl rfl, fun h => by omega, fun h => by omega⟩, 0, rfl⟩
    case round =>
      obtain ⟨k, l, hk, rfl, rfl, hL, q, hq⟩ := hrel
      have hk3 : k = 0 ∨ k = 1 ∨ k = 2 := by omega
      rcases hk3 with rfl | rfl | rfl
      · skip
        have hct : ((2 : Int) * (i : Int) + 1).toNat = 2 * i + 1 := by omega
        by_cases hcm : 2 * i + 1 < m
        · have hcm' : (2 : Int) * (i : Int) + 1 < (m : Int) := by omega
          have hlm : l < m := by rcases hL.mem with h | h <;> omega
          have hlm' : (l : Int) < (m : Int) := by omega
          have g1 : wr.cell? ⟨g, 2 * i + 1, none⟩ = some (.int .i64 (b (2 * i + 1))) := by
            rw [hq, show (w3.drewN q).cell? ⟨g, 2 * i + 1, none⟩ = w3.cell? ⟨g, 2 * i + 1, none⟩ from rfl, HOb.out.cell (by rw [il_len]) (by rw [il_len]; omega)]; exact il_get hcm
          have g2 : wr.cell? ⟨g, l, none⟩ = some (.int .i64 (b l)) := by
            rw [hq, show (w3.drewN q).cell? ⟨g, l, none⟩ = w3.cell? ⟨g, l, none⟩ from rfl, HOb.out.cell (by rw [il_len]) (by rw [il_len]; omega)]; exact il_get hlm
          have HQ := (show Hid _ from hq)
          have HLs := (show Hid _ from hL)
          clear hq hL
          by_cases hlt2 : b (2 * i + 1) < b l
          · have HL2 : Hid (Lst b m i (0 + 1) (2 * i + 1)) := by
              have h := HLs.out
              refine ⟨.inr ⟨by omega, hcm, ?_⟩, fun _ h1 => ?_, fun h2 h3 => ?_⟩
              · rcases h.mem with e | ⟨_, _, e⟩
                · have h9 := hlt2; rw [e] at h9; exact h9
                · omega
              · first | exact Int.le_refl _ | (have := h.c1 (by omega) h1; omega)
              · first | omega | exact Int.le_refl _
            go_wp2_with fail
            go_big_region
            go_wp2_with fail
            go_roundw
            case rel => exact ⟨0 + 1, 2 * i + 1, by omega, by go_num, by go_num, HL2.out, q + 1, by rw [HQ.out]; rfl⟩
            case measure => simp [intOf]
          · have HL2 : Hid (Lst b m i (0 + 1) l) := by
              have h := HLs.out
              refine ⟨h.mem, fun _ h1 => ?_, fun h2 h3 => ?_⟩
              · first | omega | exact h.c1 (by omega) h1
              · first | omega | exact h.c2 (by omega) h3
            go_wp2_with fail
            go_big_region
            go_wp2_with fail
            go_roundw
            case rel => exact ⟨0 + 1, l, by omega, by go_num, rfl, HL2.out, q + 1, by rw [HQ.out]; rfl⟩
            case measure => simp [intOf]
        · have hcm' : ¬ (2 : Int) * (i : Int) + 1 < (m : Int) := by omega
          have hcd : decide ((2 : Int) * (i : Int) + 1 < (m : Int)) = false := decide_eq_false hcm'
          clear hcm'
          have HQ := (show Hid _ from hq)
          have HL2 : Hid (Lst b m i (0 + 1) l) := ⟨hL.mem, fun _ h1 => by first | omega | exact hL.c1 (by omega) h1, fun h2 h3 => by first | omega | exact hL.c2 (by omega) h3⟩
          clear hq hL
          go_wp2_with fail
          go_big_region
          go_wp2_with fail
          go_roundw
          case rel => exact ⟨0 + 1, l, by omega, by go_num, rfl, HL2.out, q + 1, by rw [HQ.out]; rfl⟩
          case measure => simp [intOf]
      · skip
        have hct : ((2 : Int) * (i : Int) + 2).toNat = 2 * i + 2 := by omega
        by_cases hcm : 2 * i + 2 < m
        · have hcm' : (2 : Int) * (i : Int) + 2 < (m : Int) := by omega
          have hlm : l < m := by rcases hL.mem with h | h <;> omega
          have hlm' : (l : Int) < (m : Int) := by omega
          have g1 : wr.cell? ⟨g, 2 * i + 2, none⟩ = some (.int .i64 (b (2 * i + 2))) := by
            rw [hq, show (w3.drewN q).cell? ⟨g, 2 * i + 2, none⟩ = w3.cell? ⟨g, 2 * i + 2, none⟩ from rfl, HOb.out.cell (by rw [il_len]) (by rw [il_len]; omega)]; exact il_get hcm
          have g2 : wr.cell? ⟨g, l, none⟩ = some (.int .i64 (b l)) := by
            rw [hq, show (w3.drewN q).cell? ⟨g, l, none⟩ = w3.cell? ⟨g, l, none⟩ from rfl, HOb.out.cell (by rw [il_len]) (by rw [il_len]; omega)]; exact il_get hlm
          have HQ := (show Hid _ from hq)
          have HLs := (show Hid _ from hL)
          clear hq hL
          by_cases hlt2 : b (2 * i + 2) < b l
          · have HL2 : Hid (Lst b m i (1 + 1) (2 * i + 2)) := by
              have h := HLs.out
              refine ⟨.inr ⟨by omega, hcm, ?_⟩, fun _ h1 => ?_, fun h2 h3 => ?_⟩
              · rcases h.mem with e | ⟨_, _, e⟩
                · have h9 := hlt2; rw [e] at h9; exact h9
                · omega
              · first | exact Int.le_refl _ | (have := h.c1 (by omega) h1; omega)
              · first | omega | exact Int.le_refl _
            go_wp2_with fail
            go_big_region
            go_wp2_with fail
            go_roundw
            case rel => exact ⟨1 + 1, 2 * i + 2, by omega, by go_num, by go_num, HL2.out, q + 1, by rw [HQ.out]; rfl⟩
            case measure => simp [intOf]
          · have HL2 : Hid (Lst b m i (1 + 1) l) := by
              have h := HLs.out
              refine ⟨h.mem, fun _ h1 => ?_, fun h2 h3 => ?_⟩
              · first | omega | exact h.c1 (by omega) h1
              · first | omega | exact h.c2 (by omega) h3
            go_wp2_with fail
            go_big_region
            go_wp2_with fail
            go_roundw
            case rel => exact ⟨1 + 1, l, by omega, by go_num, rfl, HL2.out, q + 1, by rw [HQ.out]; rfl⟩
            case measure => simp [intOf]
        · have hcm' : ¬ (2 : Int) * (i : Int) + 2 < (m : Int) := by omega
          have hcd : decide ((2 : Int) * (i : Int) + 2 < (m : Int)) = false := decide_eq_false hcm'
          clear hcm'
          have HQ := (show Hid _ from hq)
          have HL2 : Hid (Lst b m i (1 + 1) l) := ⟨hL.mem, fun _ h1 => by first | omega | exact hL.c1 (by omega) h1, fun h2 h3 => by first | omega | exact hL.c2 (by omega) h3⟩
          clear hq hL
          go_wp2_with fail
          go_big_region
          go_wp2_with fail
          go_roundw
          case rel => exact ⟨1 + 1, l, by omega, by go_num, rfl, HL2.out, q + 1, by rw [HQ.out]; rfl⟩
          case measure => simp [intOf]
      · have HQ := (show Hid _ from hq)
        have HLs := (show Hid _ from hL)
        clear hq hL
        have hcb : wr.cell? ⟨hb, 0, none⟩ = some (.slice (some ⟨g, 0, none⟩) (m + 1) cap) := by
          rw [HQ.out, show (w3.drewN q).cell? ⟨hb, 0, none⟩ = w3.cell? ⟨hb, 0, none⟩ from rfl, ← hc]
          simp only [World.cell?]
          rw [HON.out.block hb hlt (fun e => hne e.symm)]
        have hfb : wr.frozen? ⟨hb, 0, none⟩ = false := by
          rw [HQ.out, show (w3.drewN q).frozen? ⟨hb, 0, none⟩ = w3.frozen? ⟨hb, 0, none⟩ from rfl]
          exact (World.frozen?_of_block (HON.out.block hb hlt (fun e => hne e.symm))).trans hf
        have HOw : Hid (OwnV wr 3 (.slice (some ⟨g, 0, none⟩) m cap) (il m b)) := by show OwnV _ _ _ _; rw [HQ.out]; exact HOb.out.frame fun _ _ => rfl
        have HOn : Hid (Only (fun k => k = g) w wr) := by show Only _ _ _; rw [HQ.out]; exact HON.out.drewN q
        by_cases hli : l = i
        · have hli' : ((l : Int) == (i : Int)) = true := by rw [hli]; simp
          have HLI := (show Hid _ from hli)
          clear hli
          go_wp2_with fail
          go_ret
          refine ⟨rfl, b, ⟨HOw.out.frame fun g' hg => Below.heap_setCell _ _ _ _ (fun e => hne (by subst e; simpa [Value.ownBlock] using hg)), World.cell?_setCell_same _ _ _ hcb, by simp [hfb], ?_, fun e => hne (by simpa [Value.ownBlock] using e), ?_, fun g' hg => .inl hg⟩, fun h => ?_, HCb.out⟩
          · have : hb < wr.heap.size := Nat.lt_of_lt_of_le hlt HOn.out.size
            simpa [World.setCell] using this
          · exact (HOn.out.mono (fun k _ e => .inr (by rw [e]; rfl))).setCell _ _ (fun _ => .inl rfl)
          · have hL := HLs.out
            rw [HLI.out] at hL
            exact (HUb.out h).stop (fun h1 => hL.c1 (by omega) h1) (fun h2 => hL.c2 (by omega) h2)
        · have hli' : ((l : Int) == (i : Int)) = false := beq_false_of_ne (by omega)
          have hL := HLs.out
          have hLm : (l = 2 * i + 1 ∨ l = 2 * i + 2) ∧ l < m ∧ b l < b i := by
            rcases hL.mem with e | e
            · exact absurd e hli
            · exact e
          have HLM := (show Hid _ from hLm)
          have hlm' : (l : Int) < (m : Int) := by omega
          have him' : (i : Int) < (m : Int) := by omega
          have hil : i ≠ l := by omega
          have HIM : Hid (i < m ∧ l < m ∧ i < l) := ⟨by omega, by omega, by omega⟩
          have g1 : wr.cell? ⟨g, i, none⟩ = some (.int .i64 (b i)) := by
            rw [HOw.out.cell (by rw [il_len]) (by rw [il_len]; omega)]; exact il_get (by omega)
          have g2 : wr.cell? ⟨g, l, none⟩ = some (.int .i64 (b l)) := by
            rw [HOw.out.cell (by rw [il_len]) (by rw [il_len]; omega)]; exact il_get (by omega)
          have f1 := HOw.out.free (by rw [il_len]) i
          have f2 := HOw.out.free (by rw [il_len]) l
          clear hL hLm hli
          go_wp2_with fail
          go_big_region
          all_goals go_wp2_with fail
          all_goals
            refine ⟨⟨l, sw b i l, rfl, Nat.le_of_lt HIM.out.2.1, (own_swap HOw.out hil).frame fun _ _ => rfl, ((HOn.out.setCell ⟨g, i, none⟩ _ (fun _ => rfl)).setCell ⟨g, l, none⟩ _ (fun _ => rfl)).drew, fun h => (HUb.out h).step HLM.out.1 HLM.out.2.1 HLM.out.2.2 (fun h1 => HLs.out.c1 (by omega) h1) (fun h2 => HLs.out.c2 (by omega) h2), fun P h => (HCb.out P h).swap HIM.out.1 HIM.out.2.1⟩, by have h9 := HIM.out; simp [intOf]; omega⟩
end Go.Proofs.Ybulkecis

/-
  graph.NewNodeSet: what it builds.
-/
import Derived.Test.YbulkecisRows
import Derived.Test.YbulkecisOwn
import Derived.BigQuiet
import Derived.Deep.QuietTactic
import Derived.BigRegion
import Derived.Deep.CutRange
import Derived.WalkSpells
namespace Go.Proofs.Ybulkecis
open Go.RowKit Own
set_option linter.unusedVariables false
theorem info34 : (Yba.prog.info? 34).map (fun i => (i.zero, i.size, i.bytes)) = some (some (.slice none 0 0), 1, 24) := by kernel_rfl
theorem mk1 (w : World) : (Instr.makeSlice 34 (.int .i64 1) (.int .i64 1)).run Yba.prog w = .ok (.slice (some ⟨w.heap.size, 0, none⟩) 1 1) (w.alloc (.cells #[.int .u64 0] 73)) := by kernel_rfl
theorem mk2 (w : World) : (Instr.makeSlice 34 (.int .i64 2) (.int .i64 2)).run Yba.prog w = .ok (.slice (some ⟨w.heap.size, 0, none⟩) 2 2) (w.alloc (.cells #[.int .u64 0, .int .u64 0] 73)) := by kernel_rfl
theorem mk3 (w : World) : (Instr.makeSlice 34 (.int .i64 3) (.int .i64 3)).run Yba.prog w = .ok (.slice (some ⟨w.heap.size, 0, none⟩) 3 3) (w.alloc (.cells #[.int .u64 0, .int .u64 0, .int .u64 0] 73)) := by kernel_rfl
theorem mk4 (w : World) : (Instr.makeSlice 34 (.int .i64 4) (.int .i64 4)).run Yba.prog w = .ok (.slice (some ⟨w.heap.size, 0, none⟩) 4 4) (w.alloc (.cells #[.int .u64 0, .int .u64 0, .int .u64 0, .int .u64 0] 73)) := by kernel_rfl
attribute [local go_sem] mk1 mk2 mk3 mk4

def lvl (p : Nat × Nat) : Value := .slice (some ⟨p.1, 0, none⟩) p.2 p.2
def LevOk (w : World) (p : Nat × Nat) : Prop := ∃ zs : List Int, w.heap[p.1]? = some (.cells (zs.map (Value.int .u64)).toArray 73 (0, 0)) ∧ zs.length = p.2 ∧ ∀ z ∈ zs, 0 ≤ z ∧ z < 18446744073709551616
theorem LevOk.frame {w w' : World} {p : Nat × Nat} (h : LevOk w p) (hb : w'.heap[p.1]? = w.heap[p.1]?) : LevOk w' p := by
  obtain ⟨zs, h1, h2⟩ := h
  exact ⟨zs, by rw [hb]; exact h1, h2⟩

/-- What NewNodeSet has built so far: s lies in block B + 1, the result in block B; w: the world ahead of the call. -/
structure NB (w : World) (ls : List (Nat × Nat)) (v : Value) (wc : World) : Prop where
  cell : wc.cell? ⟨w.heap.size + 1, 0, none⟩ = some v
  free : wc.frozen? ⟨w.heap.size + 1, 0, none⟩ = false
  own : OwnV wc 34 v (ls.map lvl)
  far : ∀ g, v.ownBlock = some g → w.heap.size + 1 < g
  levs : ∀ p ∈ ls, LevOk wc p ∧ w.heap.size + 1 < p.1
  res : wc.cell? ⟨w.heap.size, 0, none⟩ = some (.slice none 0 0)
  resfree : wc.frozen? ⟨w.heap.size, 0, none⟩ = false
  only : Only (fun _ => False) w wc
  size : w.heap.size + 1 < wc.heap.size

theorem nb_step {w wc X w1 : World} {ls : List (Nat × Nat)} {v : Value} (h : NB w ls v wc) (zs : List Int) (hz : ∀ z ∈ zs, 0 ≤ z ∧ z < 18446744073709551616) (n : Nat) {g cap : Nat}
    (hX : X = ((wc.alloc (.cells (zs.map (Value.int .u64)).toArray 73)).alloc (.cells #[lvl (wc.heap.size, zs.length)] 34)).drewN n)
    (hown : OwnV w1 34 (.slice (some ⟨g, 0, none⟩) (ls.length + 1) cap) (ls.map lvl ++ [lvl (wc.heap.size, zs.length)])) (hgrow : X.grownBy w1 v.ownBlock) (hpl : v.ownBlock = some g ∨ X.heap.size ≤ g) :
    NB w (ls ++ [(wc.heap.size, zs.length)]) (.slice (some ⟨g, 0, none⟩) (ls.length + 1) cap) (w1.setCell ⟨w.heap.size + 1, 0, none⟩ (.slice (some ⟨g, 0, none⟩) (ls.length + 1) cap)) := by
  have hsX : X.heap.size = wc.heap.size + 1 + 1 := by rw [hX]; simp [World.drewN]
  have hXb : ∀ k, k < wc.heap.size → X.heap[k]? = wc.heap[k]? := by
    intro k hk
    rw [hX]
    show ((wc.alloc _).alloc _).heap[k]? = _
    rw [Below.heap_alloc _ _ _ (by simp; omega), Below.heap_alloc _ _ _ hk]
  have hnew : X.heap[wc.heap.size]? = some (.cells (zs.map (Value.int .u64)).toArray 73 (0, 0)) := by
    rw [hX]
    show ((wc.alloc _).alloc _).heap[wc.heap.size]? = _
    rw [Below.heap_alloc _ _ _ (by simp), heap_alloc_new]
  have hg1 : w.heap.size + 1 < g := by
    rcases hpl with hp | hp
    · exact h.far g hp
    · have := h.size; omega
  have hw1 : ∀ k, k < wc.heap.size → v.ownBlock ≠ some k → w1.heap[k]? = wc.heap[k]? := fun k hk hn => (hgrow.block k (by omega) (fun e => hn e.symm)).trans (hXb k hk)
  have hvS : v.ownBlock ≠ some (w.heap.size + 1) := fun e => by have := h.far _ e; omega
  have hvB : v.ownBlock ≠ some w.heap.size := fun e => by have := h.far _ e; omega
  have hs := h.size
  have bS : w1.heap[w.heap.size + 1]? = wc.heap[w.heap.size + 1]? := hw1 _ hs hvS
  have bB : w1.heap[w.heap.size]? = wc.heap[w.heap.size]? := hw1 _ (by omega) hvB
  have hset : ∀ k, k ≠ w.heap.size + 1 → (w1.setCell ⟨w.heap.size + 1, 0, none⟩ (.slice (some ⟨g, 0, none⟩) (ls.length + 1) cap)).heap[k]? = w1.heap[k]? := fun k hk => Below.heap_setCell _ _ _ _ hk
  refine ⟨?_, ?_, ?_, ?_, ?_, ?_, ?_, ?_, ?_⟩
  · exact World.cell?_setCell_same _ _ _ ((World.cell?_of_block (w := wc) bS).trans h.cell)
  · rw [World.frozen?_setCell]; exact (World.frozen?_of_block (w := wc) bS).trans h.free
  · rw [List.map_append]
    exact hown.frame fun k hk => hset k (by simp [Value.ownBlock] at hk; omega)
  · intro g' hg'; simp [Value.ownBlock] at hg'; omega
  · intro p hp
    rcases List.mem_append.1 hp with hp | hp
    · obtain ⟨l1, l2⟩ := h.levs p hp
      refine ⟨l1.frame ?_, l2⟩
      have hlt : p.1 < wc.heap.size := by obtain ⟨_, hh, _⟩ := l1; exact lt_of_block hh
      rw [hset _ (by omega)]
      refine hw1 _ hlt fun e => ?_
      -- a level's block is no row of slices
      obtain ⟨zs', hh, _⟩ := l1
      rcases h.own.2 with ⟨hv, _⟩ | ⟨g', cap', cur, hv, _, hh', _⟩
      · rw [hv] at e; cases e
      · rw [hv] at e; cases e; rw [hh'] at hh; simp at hh
    · simp only [List.mem_singleton] at hp
      subst hp
      refine ⟨⟨zs, ?_, rfl, hz⟩, hs⟩
      show (w1.setCell _ _).heap[wc.heap.size]? = _
      rw [hset _ (by omega), hgrow.block _ (by omega) (fun e => ?_)]
      · exact hnew
      · have := h.own.lt (g := wc.heap.size) e.symm; omega
  · rw [World.cell?_setCell_other _ _ _ _ (fun e => by have := congrArg Addr.block e; simp at this)]
    exact (World.cell?_of_block (w := wc) bB).trans h.res
  · rw [World.frozen?_setCell]; exact (World.frozen?_of_block (w := wc) bB).trans h.resfree
  · have o1 : Only (fun _ => False) w X := by rw [hX]; exact ((h.only.alloc _).alloc _).drewN n
    have o2 : Only (fun _ => False) w w1 := ⟨hgrow.os.trans o1.os, hgrow.tape.trans o1.tape, hgrow.output.trans o1.output, Nat.le_trans o1.size hgrow.size, fun k hk _ =>
      (hgrow.block k (by omega) (fun e => by have := h.far k e.symm; omega)).trans (o1.block k hk (by simp))⟩
    exact o2.setCell _ _ (fun e => by simp at e; omega)
  · have := hgrow.size; simp [World.setCell]; omega
theorem two_drew (wc : World) (o1 o2 : Obj) : Below wc.heap.size wc ((wc.alloc o1).alloc o2).drew := (((Below.refl _ wc).alloc (Nat.le_refl _) _).alloc (by simp) _).drew
theorem NB.row {w wc : World} {ls : List (Nat × Nat)} {v : Value} (h : NB w ls v wc) (o : Nat) : some ((⟨w.heap.size + 1, o, none⟩ : Addr)).block ≠ v.ownBlock := fun e => by have := h.far _ e.symm; simp at this
theorem OwnV.two {wc : World} {o1 o2 : Obj} {e : TypeId} {v : Value} {xs : List Value} (h : OwnV wc e v xs) : OwnV ((wc.alloc o1).alloc o2).drew e v xs :=
  h.frame fun g hg => (two_drew wc o1 o2).block g (h.lt hg)
theorem nb_start (w : World) (t : TypeId) : NB w [] (.slice none 0 0) ((w.alloc (.cells #[.slice none 0 0] 45)).alloc (.cells #[.slice none 0 0] 45)) := by
  refine ⟨(by simp), (by simp), OwnV.nil _ _, (by intro g h; cases h), (by intro p hp; cases hp), (by simp), (by simp), ?_, (by simp)⟩
  exact ((Only.refl _ _).alloc _).alloc _
set_option maxHeartbeats 1000000 in
theorem nset1 (n : Int) (w : World) (h0 : 0 < n) (h1 : (n + 63) / 64 = 1) (h2 : n ≤ 200) :
    Calls Yba.prog 13 #[.int .i64 n] w fun e w' => ∃ (ls : List (Nat × Nat)) (v : Value), e = .returned (.agg #[v]) ∧ ls.map Prod.snd = [1] ∧ OwnV w' 34 v (ls.map lvl) ∧ (∀ p ∈ ls, LevOk w' p ∧ w.heap.size ≤ p.1) ∧ (∀ g, v.ownBlock = some g → w.heap.size ≤ g) ∧ Only (fun _ => False) w w' := by
  obtain ⟨i0, hi, hz0, hz1, hz2⟩ := info_parts info34
  have HN := (show Hid _ from nb_start w 45)
  go_enter Yba.func13, Yba.ntmps13
  go_wp2_with fail
  refine wp_loop_rounds 1 ?_
  rw [rounds_succ]
  generalize (w.alloc (.cells #[.slice none 0 0] 45)).alloc (.cells #[.slice none 0 0] 45) = wa at *
  have c1 := HN.out.cell
  have f1 := HN.out.free
  have hsz := HN.out.size
  have hsz2 : w.heap.size + 1 < wa.heap.size + 1 := by omega
  have hsz3 : w.heap.size + 1 < wa.heap.size + 1 + 1 := by omega
  go_wp2_with fail
  go_cut [2, 3, 4] from 5 (fun x2 x3 x4 w2 => x2 = .pointer (some ⟨w.heap.size, 0, none⟩) ∧ x3 = .pointer (some ⟨w.heap.size + 1, 0, none⟩) ∧ x4 = .int .i64 1 ∧ ∃ g cap, NB w [(wa.heap.size, 1)] (.slice (some ⟨g, 0, none⟩) 1 cap) w2)
  case first =>
    go_region_law (refine step_append_n _ rfl (.tmp 12) (.tmp 16) 43 rfl 34 i0 (.slice none 0 0) 24 Yba.underlying43 hi hz0 hz1 hz2 rfl (.slice none 0 0) [] rfl (OwnV.nil _ _) ⟨wa.heap.size + 1, 0, none⟩ 1 1 [lvl (wa.heap.size, 1)] rfl rfl (by decide) (one_new _ _ _ _ (by simp)) (by intro u hu; simp at hu; subst hu; rfl) (by decide) (by decide) ?_; intro g1 cap1 w1 hown hgrow hpl hcap; have c1 : w1.cell? ⟨w.heap.size + 1, 0, none⟩ = some (.slice none 0 0) := hgrow.cell (cell_later (two_drew wa _ _) c1) (HN.out.row _); have f1 : w1.frozen? ⟨w.heap.size + 1, 0, none⟩ = false := grown_frozen hgrow (by simp; omega) ((Below.frozen (two_drew wa _ _) (by exact hsz)).trans f1) (HN.out.row _); have HO := (show Hid _ from And.intro hown (And.intro hgrow hpl)); clear hown hgrow hpl hcap)
    all_goals (go_wp2_with fail; go_meet)
    all_goals (case rel => exact ⟨rfl, rfl, rfl, _, _, nb_step HN.out [0] (by simp) 1 rfl HO.out.1 HO.out.2.1 HO.out.2.2⟩)
  case rest =>
    obtain ⟨rfl, rfl, rfl, g1, cap1, hN2⟩ := hcut
    clear c1 f1 hsz hsz2 hsz3 HN
    have HN := (show Hid _ from hN2)
    clear hN2
    have c1 := HN.out.cell
    have f1 := HN.out.free
    have c0 := HN.out.res
    have f0 := HN.out.resfree
    have hsz := HN.out.size
    generalize wa.heap.size = l0 at *
    clear wa
    go_wp2
    refine bodyPost_ret (v := .agg #[.slice (some ⟨g1, 0, none⟩) 1 cap1]) (by simp [results, Yba.results13, go_sem, c0]) rfl ?_
    refine ⟨[(l0, 1)], _, rfl, rfl, ?_, ?_, ?_, ?_⟩
    · exact HN.out.own.frame fun g hg => Below.heap_setCell _ _ _ _ (fun e => by have := HN.out.far g hg; simp at e; omega)
    · intro p hp
      obtain ⟨l1, l2⟩ := HN.out.levs p hp
      exact ⟨l1.frame (Below.heap_setCell _ _ _ _ (fun e => by simp at e; omega)), by omega⟩
    · intro g hg; have := HN.out.far g hg; omega
    · exact HN.out.only.setCell _ _ (fun e => by simp at e)
set_option maxHeartbeats 1000000 in
theorem nset2 (n : Int) (w : World) (h0 : 0 < n) (h1 : (n + 63) / 64 = 2) (h2 : n ≤ 200) :
    Calls Yba.prog 13 #[.int .i64 n] w fun e w' => ∃ (ls : List (Nat × Nat)) (v : Value), e = .returned (.agg #[v]) ∧ ls.map Prod.snd = [2, 1] ∧ OwnV w' 34 v (ls.map lvl) ∧ (∀ p ∈ ls, LevOk w' p ∧ w.heap.size ≤ p.1) ∧ (∀ g, v.ownBlock = some g → w.heap.size ≤ g) ∧ Only (fun _ => False) w w' := by
  obtain ⟨i0, hi, hz0, hz1, hz2⟩ := info_parts info34
  have HN := (show Hid _ from nb_start w 45)
  go_enter Yba.func13, Yba.ntmps13
  go_wp2_with fail
  refine wp_loop_rounds 2 ?_
  rw [rounds_succ]
  generalize (w.alloc (.cells #[.slice none 0 0] 45)).alloc (.cells #[.slice none 0 0] 45) = wa at *
  have c1 := HN.out.cell
  have f1 := HN.out.free
  have hsz := HN.out.size
  have hsz2 : w.heap.size + 1 < wa.heap.size + 1 := by omega
  have hsz3 : w.heap.size + 1 < wa.heap.size + 1 + 1 := by omega
  go_wp2_with fail
  go_cut [2, 3, 4] from 5 (fun x2 x3 x4 w2 => x2 = .pointer (some ⟨w.heap.size, 0, none⟩) ∧ x3 = .pointer (some ⟨w.heap.size + 1, 0, none⟩) ∧ x4 = .int .i64 2 ∧ ∃ g cap, NB w [(wa.heap.size, 2)] (.slice (some ⟨g, 0, none⟩) 1 cap) w2)
  case first =>
    go_region_law (refine step_append_n _ rfl (.tmp 12) (.tmp 16) 43 rfl 34 i0 (.slice none 0 0) 24 Yba.underlying43 hi hz0 hz1 hz2 rfl (.slice none 0 0) [] rfl (OwnV.nil _ _) ⟨wa.heap.size + 1, 0, none⟩ 1 1 [lvl (wa.heap.size, 2)] rfl rfl (by decide) (one_new _ _ _ _ (by simp)) (by intro u hu; simp at hu; subst hu; rfl) (by decide) (by decide) ?_; intro g1 cap1 w1 hown hgrow hpl hcap; have c1 : w1.cell? ⟨w.heap.size + 1, 0, none⟩ = some (.slice none 0 0) := hgrow.cell (cell_later (two_drew wa _ _) c1) (HN.out.row _); have f1 : w1.frozen? ⟨w.heap.size + 1, 0, none⟩ = false := grown_frozen hgrow (by simp; omega) ((Below.frozen (two_drew wa _ _) (by exact hsz)).trans f1) (HN.out.row _); have HO := (show Hid _ from And.intro hown (And.intro hgrow hpl)); clear hown hgrow hpl hcap)
    all_goals (go_wp2_with fail; go_meet)
    all_goals (case rel => exact ⟨rfl, rfl, rfl, _, _, nb_step HN.out [0, 0] (by simp) 1 rfl HO.out.1 HO.out.2.1 HO.out.2.2⟩)
  case rest =>
    obtain ⟨rfl, rfl, rfl, g1, cap1, hN2⟩ := hcut
    clear c1 f1 hsz hsz2 hsz3 HN
    have HN := (show Hid _ from hN2)
    clear hN2
    have c1 := HN.out.cell
    have f1 := HN.out.free
    have c0 := HN.out.res
    have f0 := HN.out.resfree
    have hsz := HN.out.size
    generalize wa.heap.size = l0 at *
    clear wa
    go_wp2_with fail
    rw [rounds_succ]
    obtain ⟨wb, hwb⟩ : ∃ wb, wb = wc := ⟨_, rfl⟩
    rw [← hwb] at HN c1 f1 hsz ⊢
    clear hwb c0 f0
    have hsz2 : w.heap.size + 1 < wb.heap.size + 1 := by omega
    have hsz3 : w.heap.size + 1 < wb.heap.size + 1 + 1 := by omega
    go_wp2_with fail
    go_cut [2, 3, 4] from 5 (fun x2 x3 x4 w2 => x2 = .pointer (some ⟨w.heap.size, 0, none⟩) ∧ x3 = .pointer (some ⟨w.heap.size + 1, 0, none⟩) ∧ x4 = .int .i64 1 ∧ ∃ l1 g cap, NB w [(l0, 2), (l1, 1)] (.slice (some ⟨g, 0, none⟩) 2 cap) w2)
    case first =>
      go_region_law (refine step_append_n _ rfl (.tmp 12) (.tmp 16) 43 rfl 34 i0 (.slice none 0 0) 24 Yba.underlying43 hi hz0 hz1 hz2 rfl (.slice (some ⟨g1, 0, none⟩) 1 cap1) ([(l0, 2)].map lvl) rfl (OwnV.two HN.out.own) ⟨wb.heap.size + 1, 0, none⟩ 1 1 [lvl (wb.heap.size, 1)] rfl rfl (by decide) (one_new _ _ _ _ (by simp)) (by intro u hu; simp at hu; subst hu; rfl) (by simp [maxLen]) (by simp) ?_; intro g2 cap2 w1 hown hgrow hpl hcap; have c1 : w1.cell? ⟨w.heap.size + 1, 0, none⟩ = some (.slice (some ⟨g1, 0, none⟩) 1 cap1) := hgrow.cell (cell_later (two_drew wb _ _) c1) (HN.out.row _); have f1 : w1.frozen? ⟨w.heap.size + 1, 0, none⟩ = false := grown_frozen hgrow (by simp; omega) ((Below.frozen (two_drew wb _ _) (by exact hsz)).trans f1) (HN.out.row _); have HO := (show Hid _ from And.intro hown (And.intro hgrow hpl)); clear hown hgrow hpl hcap)
      all_goals (go_wp2_with fail; go_meet)
      all_goals (case rel => exact ⟨rfl, rfl, rfl, wb.heap.size, _, _, nb_step HN.out [0] (by simp) 1 rfl HO.out.1 HO.out.2.1 HO.out.2.2⟩)
    case rest =>
      obtain ⟨rfl, rfl, rfl, l1, g2, cap2, hN2⟩ := hcut
      clear c1 f1 hsz hsz2 hsz3 HN wb
      have HN := (show Hid _ from hN2)
      clear hN2
      have c1 := HN.out.cell
      have f1 := HN.out.free
      have c0 := HN.out.res
      have f0 := HN.out.resfree
      have hsz := HN.out.size
      go_wp2
      refine bodyPost_ret (v := .agg #[.slice (some ⟨g2, 0, none⟩) 2 cap2]) (by simp [results, Yba.results13, go_sem, c0]) rfl ?_
      refine ⟨[(l0, 2), (l1, 1)], _, rfl, rfl, ?_, ?_, ?_, ?_⟩
      · exact HN.out.own.frame fun g hg => Below.heap_setCell _ _ _ _ (fun e => by have := HN.out.far g hg; simp at e; omega)
      · intro p hp
        obtain ⟨l1, l2⟩ := HN.out.levs p hp
        exact ⟨l1.frame (Below.heap_setCell _ _ _ _ (fun e => by simp at e; omega)), by omega⟩
      · intro g hg; have := HN.out.far g hg; omega
      · exact HN.out.only.setCell _ _ (fun e => by simp at e)
set_option maxHeartbeats 1000000 in
theorem nset3 (n : Int) (w : World) (h0 : 0 < n) (h1 : (n + 63) / 64 = 3) (h2 : n ≤ 200) :
    Calls Yba.prog 13 #[.int .i64 n] w fun e w' => ∃ (ls : List (Nat × Nat)) (v : Value), e = .returned (.agg #[v]) ∧ ls.map Prod.snd = [3, 1] ∧ OwnV w' 34 v (ls.map lvl) ∧ (∀ p ∈ ls, LevOk w' p ∧ w.heap.size ≤ p.1) ∧ (∀ g, v.ownBlock = some g → w.heap.size ≤ g) ∧ Only (fun _ => False) w w' := by
  obtain ⟨i0, hi, hz0, hz1, hz2⟩ := info_parts info34
  have HN := (show Hid _ from nb_start w 45)
  go_enter Yba.func13, Yba.ntmps13
  go_wp2_with fail
  refine wp_loop_rounds 2 ?_
  rw [rounds_succ]
  generalize (w.alloc (.cells #[.slice none 0 0] 45)).alloc (.cells #[.slice none 0 0] 45) = wa at *
  have c1 := HN.out.cell
  have f1 := HN.out.free
  have hsz := HN.out.size
  have hsz2 : w.heap.size + 1 < wa.heap.size + 1 := by omega
  have hsz3 : w.heap.size + 1 < wa.heap.size + 1 + 1 := by omega
  go_wp2_with fail
  go_cut [2, 3, 4] from 5 (fun x2 x3 x4 w2 => x2 = .pointer (some ⟨w.heap.size, 0, none⟩) ∧ x3 = .pointer (some ⟨w.heap.size + 1, 0, none⟩) ∧ x4 = .int .i64 3 ∧ ∃ g cap, NB w [(wa.heap.size, 3)] (.slice (some ⟨g, 0, none⟩) 1 cap) w2)
  case first =>
    go_region_law (refine step_append_n _ rfl (.tmp 12) (.tmp 16) 43 rfl 34 i0 (.slice none 0 0) 24 Yba.underlying43 hi hz0 hz1 hz2 rfl (.slice none 0 0) [] rfl (OwnV.nil _ _) ⟨wa.heap.size + 1, 0, none⟩ 1 1 [lvl (wa.heap.size, 3)] rfl rfl (by decide) (one_new _ _ _ _ (by simp)) (by intro u hu; simp at hu; subst hu; rfl) (by decide) (by decide) ?_; intro g1 cap1 w1 hown hgrow hpl hcap; have c1 : w1.cell? ⟨w.heap.size + 1, 0, none⟩ = some (.slice none 0 0) := hgrow.cell (cell_later (two_drew wa _ _) c1) (HN.out.row _); have f1 : w1.frozen? ⟨w.heap.size + 1, 0, none⟩ = false := grown_frozen hgrow (by simp; omega) ((Below.frozen (two_drew wa _ _) (by exact hsz)).trans f1) (HN.out.row _); have HO := (show Hid _ from And.intro hown (And.intro hgrow hpl)); clear hown hgrow hpl hcap)
    all_goals (go_wp2_with fail; go_meet)
    all_goals (case rel => exact ⟨rfl, rfl, rfl, _, _, nb_step HN.out [0, 0, 0] (by simp) 1 rfl HO.out.1 HO.out.2.1 HO.out.2.2⟩)
  case rest =>
    obtain ⟨rfl, rfl, rfl, g1, cap1, hN2⟩ := hcut
    clear c1 f1 hsz hsz2 hsz3 HN
    have HN := (show Hid _ from hN2)
    clear hN2
    have c1 := HN.out.cell
    have f1 := HN.out.free
    have c0 := HN.out.res
    have f0 := HN.out.resfree
    have hsz := HN.out.size
    generalize wa.heap.size = l0 at *
    clear wa
    go_wp2_with fail
    rw [rounds_succ]
    obtain ⟨wb, hwb⟩ : ∃ wb, wb = wc := ⟨_, rfl⟩
    rw [← hwb] at HN c1 f1 hsz ⊢
    clear hwb c0 f0
    have hsz2 : w.heap.size + 1 < wb.heap.size + 1 := by omega
    have hsz3 : w.heap.size + 1 < wb.heap.size + 1 + 1 := by omega
    go_wp2_with fail
    go_cut [2, 3, 4] from 5 (fun x2 x3 x4 w2 => x2 = .pointer (some ⟨w.heap.size, 0, none⟩) ∧ x3 = .pointer (some ⟨w.heap.size + 1, 0, none⟩) ∧ x4 = .int .i64 1 ∧ ∃ l1 g cap, NB w [(l0, 3), (l1, 1)] (.slice (some ⟨g, 0, none⟩) 2 cap) w2)
    case first =>
      go_region_law (refine step_append_n _ rfl (.tmp 12) (.tmp 16) 43 rfl 34 i0 (.slice none 0 0) 24 Yba.underlying43 hi hz0 hz1 hz2 rfl (.slice (some ⟨g1, 0, none⟩) 1 cap1) ([(l0, 3)].map lvl) rfl (OwnV.two HN.out.own) ⟨wb.heap.size + 1, 0, none⟩ 1 1 [lvl (wb.heap.size, 1)] rfl rfl (by decide) (one_new _ _ _ _ (by simp)) (by intro u hu; simp at hu; subst hu; rfl) (by simp [maxLen]) (by simp) ?_; intro g2 cap2 w1 hown hgrow hpl hcap; have c1 : w1.cell? ⟨w.heap.size + 1, 0, none⟩ = some (.slice (some ⟨g1, 0, none⟩) 1 cap1) := hgrow.cell (cell_later (two_drew wb _ _) c1) (HN.out.row _); have f1 : w1.frozen? ⟨w.heap.size + 1, 0, none⟩ = false := grown_frozen hgrow (by simp; omega) ((Below.frozen (two_drew wb _ _) (by exact hsz)).trans f1) (HN.out.row _); have HO := (show Hid _ from And.intro hown (And.intro hgrow hpl)); clear hown hgrow hpl hcap)
      all_goals (go_wp2_with fail; go_meet)
      all_goals (case rel => exact ⟨rfl, rfl, rfl, wb.heap.size, _, _, nb_step HN.out [0] (by simp) 1 rfl HO.out.1 HO.out.2.1 HO.out.2.2⟩)
    case rest =>
      obtain ⟨rfl, rfl, rfl, l1, g2, cap2, hN2⟩ := hcut
      clear c1 f1 hsz hsz2 hsz3 HN wb
      have HN := (show Hid _ from hN2)
      clear hN2
      have c1 := HN.out.cell
      have f1 := HN.out.free
      have c0 := HN.out.res
      have f0 := HN.out.resfree
      have hsz := HN.out.size
      go_wp2
      refine bodyPost_ret (v := .agg #[.slice (some ⟨g2, 0, none⟩) 2 cap2]) (by simp [results, Yba.results13, go_sem, c0]) rfl ?_
      refine ⟨[(l0, 3), (l1, 1)], _, rfl, rfl, ?_, ?_, ?_, ?_⟩
      · exact HN.out.own.frame fun g hg => Below.heap_setCell _ _ _ _ (fun e => by have := HN.out.far g hg; simp at e; omega)
      · intro p hp
        obtain ⟨l1, l2⟩ := HN.out.levs p hp
        exact ⟨l1.frame (Below.heap_setCell _ _ _ _ (fun e => by simp at e; omega)), by omega⟩
      · intro g hg; have := HN.out.far g hg; omega
      · exact HN.out.only.setCell _ _ (fun e => by simp at e)
set_option maxHeartbeats 1000000 in
theorem nset4 (n : Int) (w : World) (h0 : 0 < n) (h1 : (n + 63) / 64 = 4) (h2 : n ≤ 200) :
    Calls Yba.prog 13 #[.int .i64 n] w fun e w' => ∃ (ls : List (Nat × Nat)) (v : Value), e = .returned (.agg #[v]) ∧ ls.map Prod.snd = [4, 1] ∧ OwnV w' 34 v (ls.map lvl) ∧ (∀ p ∈ ls, LevOk w' p ∧ w.heap.size ≤ p.1) ∧ (∀ g, v.ownBlock = some g → w.heap.size ≤ g) ∧ Only (fun _ => False) w w' := by
  obtain ⟨i0, hi, hz0, hz1, hz2⟩ := info_parts info34
  have HN := (show Hid _ from nb_start w 45)
  go_enter Yba.func13, Yba.ntmps13
  go_wp2_with fail
  refine wp_loop_rounds 2 ?_
  rw [rounds_succ]
  generalize (w.alloc (.cells #[.slice none 0 0] 45)).alloc (.cells #[.slice none 0 0] 45) = wa at *
  have c1 := HN.out.cell
  have f1 := HN.out.free
  have hsz := HN.out.size
  have hsz2 : w.heap.size + 1 < wa.heap.size + 1 := by omega
  have hsz3 : w.heap.size + 1 < wa.heap.size + 1 + 1 := by omega
  go_wp2_with fail
  go_cut [2, 3, 4] from 5 (fun x2 x3 x4 w2 => x2 = .pointer (some ⟨w.heap.size, 0, none⟩) ∧ x3 = .pointer (some ⟨w.heap.size + 1, 0, none⟩) ∧ x4 = .int .i64 4 ∧ ∃ g cap, NB w [(wa.heap.size, 4)] (.slice (some ⟨g, 0, none⟩) 1 cap) w2)
  case first =>
    go_region_law (refine step_append_n _ rfl (.tmp 12) (.tmp 16) 43 rfl 34 i0 (.slice none 0 0) 24 Yba.underlying43 hi hz0 hz1 hz2 rfl (.slice none 0 0) [] rfl (OwnV.nil _ _) ⟨wa.heap.size + 1, 0, none⟩ 1 1 [lvl (wa.heap.size, 4)] rfl rfl (by decide) (one_new _ _ _ _ (by simp)) (by intro u hu; simp at hu; subst hu; rfl) (by decide) (by decide) ?_; intro g1 cap1 w1 hown hgrow hpl hcap; have c1 : w1.cell? ⟨w.heap.size + 1, 0, none⟩ = some (.slice none 0 0) := hgrow.cell (cell_later (two_drew wa _ _) c1) (HN.out.row _); have f1 : w1.frozen? ⟨w.heap.size + 1, 0, none⟩ = false := grown_frozen hgrow (by simp; omega) ((Below.frozen (two_drew wa _ _) (by exact hsz)).trans f1) (HN.out.row _); have HO := (show Hid _ from And.intro hown (And.intro hgrow hpl)); clear hown hgrow hpl hcap)
    all_goals (go_wp2_with fail; go_meet)
    all_goals (case rel => exact ⟨rfl, rfl, rfl, _, _, nb_step HN.out [0, 0, 0, 0] (by simp) 1 rfl HO.out.1 HO.out.2.1 HO.out.2.2⟩)
  case rest =>
    obtain ⟨rfl, rfl, rfl, g1, cap1, hN2⟩ := hcut
    clear c1 f1 hsz hsz2 hsz3 HN
    have HN := (show Hid _ from hN2)
    clear hN2
    have c1 := HN.out.cell
    have f1 := HN.out.free
    have c0 := HN.out.res
    have f0 := HN.out.resfree
    have hsz := HN.out.size
    generalize wa.heap.size = l0 at *
    clear wa
    go_wp2_with fail
    rw [rounds_succ]
    obtain ⟨wb, hwb⟩ : ∃ wb, wb = wc := ⟨_, rfl⟩
    rw [← hwb] at HN c1 f1 hsz ⊢
    clear hwb c0 f0
    have hsz2 : w.heap.size + 1 < wb.heap.size + 1 := by omega
    have hsz3 : w.heap.size + 1 < wb.heap.size + 1 + 1 := by omega
    go_wp2_with fail
    go_cut [2, 3, 4] from 5 (fun x2 x3 x4 w2 => x2 = .pointer (some ⟨w.heap.size, 0, none⟩) ∧ x3 = .pointer (some ⟨w.heap.size + 1, 0, none⟩) ∧ x4 = .int .i64 1 ∧ ∃ l1 g cap, NB w [(l0, 4), (l1, 1)] (.slice (some ⟨g, 0, none⟩) 2 cap) w2)
    case first =>
      go_region_law (refine step_append_n _ rfl (.tmp 12) (.tmp 16) 43 rfl 34 i0 (.slice none 0 0) 24 Yba.underlying43 hi hz0 hz1 hz2 rfl (.slice (some ⟨g1, 0, none⟩) 1 cap1) ([(l0, 4)].map lvl) rfl (OwnV.two HN.out.own) ⟨wb.heap.size + 1, 0, none⟩ 1 1 [lvl (wb.heap.size, 1)] rfl rfl (by decide) (one_new _ _ _ _ (by simp)) (by intro u hu; simp at hu; subst hu; rfl) (by simp [maxLen]) (by simp) ?_; intro g2 cap2 w1 hown hgrow hpl hcap; have c1 : w1.cell? ⟨w.heap.size + 1, 0, none⟩ = some (.slice (some ⟨g1, 0, none⟩) 1 cap1) := hgrow.cell (cell_later (two_drew wb _ _) c1) (HN.out.row _); have f1 : w1.frozen? ⟨w.heap.size + 1, 0, none⟩ = false := grown_frozen hgrow (by simp; omega) ((Below.frozen (two_drew wb _ _) (by exact hsz)).trans f1) (HN.out.row _); have HO := (show Hid _ from And.intro hown (And.intro hgrow hpl)); clear hown hgrow hpl hcap)
      all_goals (go_wp2_with fail; go_meet)
      all_goals (case rel => exact ⟨rfl, rfl, rfl, wb.heap.size, _, _, nb_step HN.out [0] (by simp) 1 rfl HO.out.1 HO.out.2.1 HO.out.2.2⟩)
    case rest =>
      obtain ⟨rfl, rfl, rfl, l1, g2, cap2, hN2⟩ := hcut
      clear c1 f1 hsz hsz2 hsz3 HN wb
      have HN := (show Hid _ from hN2)
      clear hN2
      have c1 := HN.out.cell
      have f1 := HN.out.free
      have c0 := HN.out.res
      have f0 := HN.out.resfree
      have hsz := HN.out.size
      go_wp2
      refine bodyPost_ret (v := .agg #[.slice (some ⟨g2, 0, none⟩) 2 cap2]) (by simp [results, Yba.results13, go_sem, c0]) rfl ?_
      refine ⟨[(l0, 4), (l1, 1)], _, rfl, rfl, ?_, ?_, ?_, ?_⟩
      · exact HN.out.own.frame fun g hg => Below.heap_setCell _ _ _ _ (fun e => by have := HN.out.far g hg; simp at e; omega)
      · intro p hp
        obtain ⟨l1, l2⟩ := HN.out.levs p hp
        exact ⟨l1.frame (Below.heap_setCell _ _ _ _ (fun e => by simp at e; omega)), by omega⟩
      · intro g hg; have := HN.out.far g hg; omega
      · exact HN.out.only.setCell _ _ (fun e => by simp at e)

/-- The levels fit the nodes 0 to n-1. -/
def Fits : Nat → List Nat → Prop
  | _, [] => True
  | n, k :: r => n ≤ 64 * k ∧ Fits k r

/-- A node set: its levels' slice v, the levels ls. -/
structure NSet (w : World) (n : Nat) (v : Value) (ls : List (Nat × Nat)) : Prop where
  own : OwnV w 34 v (ls.map lvl)
  levs : ∀ p ∈ ls, LevOk w p
  fits : Fits n (ls.map Prod.snd)
  short : 0 < ls.length ∧ ls.length ≤ 2

theorem nset_any (n : Nat) (w : World) (h0 : 0 < n) (h2 : n ≤ 200) :
    Calls Yba.prog 13 #[.int .i64 n] w fun e w' => ∃ (ls : List (Nat × Nat)) (v : Value), e = .returned (.agg #[v]) ∧ NSet w' n v ls ∧ (∀ p ∈ ls, w.heap.size ≤ p.1) ∧ (∀ g, v.ownBlock = some g → w.heap.size ≤ g) ∧ Only (fun _ => False) w w' := by
  have hc : ((n : Int) + 63) / 64 = 1 ∨ ((n : Int) + 63) / 64 = 2 ∨ ((n : Int) + 63) / 64 = 3 ∨ ((n : Int) + 63) / 64 = 4 := by omega
  have fin : ∀ (ks : List Nat) (e : Ending) (w' : World), Fits n ks → 0 < ks.length ∧ ks.length ≤ 2 →
      (∃ (ls : List (Nat × Nat)) (v : Value), e = .returned (.agg #[v]) ∧ ls.map Prod.snd = ks ∧ OwnV w' 34 v (ls.map lvl) ∧ (∀ p ∈ ls, LevOk w' p ∧ w.heap.size ≤ p.1) ∧ (∀ g, v.ownBlock = some g → w.heap.size ≤ g) ∧ Only (fun _ => False) w w') →
      ∃ (ls : List (Nat × Nat)) (v : Value), e = .returned (.agg #[v]) ∧ NSet w' n v ls ∧ (∀ p ∈ ls, w.heap.size ≤ p.1) ∧ (∀ g, v.ownBlock = some g → w.heap.size ≤ g) ∧ Only (fun _ => False) w w' := by
    rintro ks e w' hf hk ⟨ls, v, he, hs, ho, hl, hg, hn⟩
    refine ⟨ls, v, he, ⟨ho, fun p hp => (hl p hp).1, by rw [hs]; exact hf, ?_⟩, fun p hp => (hl p hp).2, hg, hn⟩
    rw [← hs, List.length_map] at hk; exact hk
  rcases hc with h | h | h | h
  · exact (nset1 n w (by omega) h (by omega)).mono fun e w' hp => fin [1] e w' ⟨by omega, trivial⟩ (by decide) hp
  · exact (nset2 n w (by omega) h (by omega)).mono fun e w' hp => fin [2, 1] e w' ⟨by omega, by omega, trivial⟩ (by decide) hp
  · exact (nset3 n w (by omega) h (by omega)).mono fun e w' hp => fin [3, 1] e w' ⟨by omega, by omega, trivial⟩ (by decide) hp
  · exact (nset4 n w (by omega) h (by omega)).mono fun e w' hp => fin [4, 1] e w' ⟨by omega, by omega, trivial⟩ (by decide) hp
end Go.Proofs.Ybulkecis

/-
  Walks of the law itself: six ways.
-/
import Derived.Test.YbulkecieFmtWalks3
namespace Go.Proofs.YbulkecieFmt
open Go.ChangeShapes Go.WideShapes Go.ChangeAt Go.RowKit
open Go.Extern.Stop Go.Stop Go.Extern
theorem fresh_frozen (X : World) (cs : Array Value) (t : TypeId) (g j : Nat) (hg : g = X.heap.size) : (X.alloc (.cells cs t)).frozen? ⟨g, j, none⟩ = false := by
  subst hg
  exact frozen_of_row _ _ j cs t (heap_alloc_new X _)
theorem cell_under (X : World) (cs : Array Value) (t : TypeId) (o : Obj) (g j : Nat) (v : Value) (hg : g = X.heap.size) (hj : cs[j]? = some v) : ((X.alloc (.cells cs t)).alloc o).cell? ⟨g, j, none⟩ = some v := by
  rw [World.cell?_alloc_past _ _ _ (by subst hg; simp)]
  exact cell_fresh X cs t g j v hg hj
theorem frozen_under (X : World) (cs : Array Value) (t : TypeId) (o : Obj) (g j : Nat) (hg : g = X.heap.size) : ((X.alloc (.cells cs t)).alloc o).frozen? ⟨g, j, none⟩ = false := by
  have h := (Below.refl (X.alloc (.cells cs t)).heap.size (X.alloc (.cells cs t))).alloc (Nat.le_refl _) o
  rw [h.frozen (p := ⟨g, j, none⟩) (by subst hg; simp)]
  exact fresh_frozen X cs t g j hg
theorem set_other (W : World) (a : Addr) (u : Value) (g j : Nat) (h : a.block ≠ g) : (W.setCell a u).cell? ⟨g, j, none⟩ = W.cell? ⟨g, j, none⟩ :=
  World.cell?_setCell_other _ _ _ _ (fun e => h (by rw [e]))
theorem neq28 (w : World) : (binOp .neq 25 (.iface 28 (.agg #[])) (.iface 28 (.agg #[]))).run Ybaf.prog w = .ok (.bool false) w := by kernel_rfl
theorem neq29 (w : World) : (binOp .neq 25 (.iface 29 (.agg #[])) (.iface 29 (.agg #[]))).run Ybaf.prog w = .ok (.bool false) w := by kernel_rfl
theorem neq26 (a : Addr) (w : World) : (binOp .neq 25 (.iface 26 (.pointer (some a))) (.iface 26 (.pointer (some a)))).run Ybaf.prog w = .ok (.bool false) w := by
  have h1 : (Ybaf.prog.info? 26).map (·.comparable) = some true := by kernel_rfl
  have h2 : (Ybaf.prog.info? 31).map (·.size) = some 2 := by kernel_rfl
  obtain ⟨i, hi, hc⟩ := Option.map_eq_some_iff.1 h1
  obtain ⟨j, hj, _⟩ := Option.map_eq_some_iff.1 h2
  simp only [binOp]
  simp [Op.equal, Op.maxDepth, run_equalIn_iface_ptr_same w 9998 a Ybaf.underlying25 Ybaf.underlying26 hi hc hj]
theorem neq35 (w : World) : (binOp .neq 35 (.slice none 0 0) (.slice none 0 0)).run Ybaf.prog w = .ok (.bool false) w := by kernel_rfl
theorem neq36 (w : World) : (binOp .neq 36 (.slice none 0 0) (.slice none 0 0)).run Ybaf.prog w = .ok (.bool false) w := by kernel_rfl
attribute [local go_sem] neq28 neq29 neq26 neq35 neq36
set_option maxHeartbeats 1000000 in
theorem law0_good (b0 b1 b2 b3 b4 b5 b6 b7 mn sel key L : Int) (w : World)
  (r4 : 0 ≤ b4 ∧ b4 ≤ 255) (r5 : 0 ≤ b5 ∧ b5 ≤ 255) (r6 : 0 ≤ b6 ∧ b6 ≤ 255) (r7 : 0 ≤ b7 ∧ b7 ≤ 255) (s0 : 0 ≤ sel) (s1 : sel ≤ 255) (hs : sel % 3 = 0)
  (HL : Hid (L = b4 + 256 * b5 + 65536 * b6 + 16777216 * b7)) (L0 : 0 ≤ L) (L1 : L < 4294967296) (hg1 : (L % 4 != 0) = false) (hg2 : ¬ L < mn) :
    Calls Ybaf.prog 3 #[.agg #[.int .u8 b0, .int .u8 b1, .int .u8 b2, .int .u8 b3, .int .u8 b4, .int .u8 b5, .int .u8 b6, .int .u8 b7], .int .u32 mn, .int .u8 sel, .int .u32 key] w fun e w' =>
      e = .returned (.bool true) ∧ Below w.heap.size w w' := by
  go_enter Ybaf.func3, Ybaf.ntmps3
  go_wp2_with fail
  rw [← HL.out]
  refine (bl_le_good (w.heap.size + 1) b0 b1 b2 b3 b4 b5 b6 b7 mn L _ (by simp) (by simp) r4 r5 r6 r7 HL L0 L1 hg1 (by omega)).mono ?_
  rintro e w' ⟨rfl, hB⟩
  have c0 := hB.cell (p := ⟨w.heap.size + 1, 0, none⟩) (by simp)
  have c1 := hB.cell (p := ⟨w.heap.size + 1, 1, none⟩) (by simp)
  have c2 := hB.cell (p := ⟨w.heap.size + 1, 2, none⟩) (by simp)
  have c3 := hB.cell (p := ⟨w.heap.size + 1, 3, none⟩) (by simp)
  simp at c0 c1 c2 c3
  have HB := (show Hid _ from hB)
  clear hB
  have hq : L - L / 4 * 4 = 0 := by simp at hg1; omega
  go_wp2
  go_ret
  exact ⟨rfl, (((Below.refl _ _).alloc (Nat.le_refl _) _).alloc (by simp) _).trans (HB.out.mono (by simp; try omega))⟩
set_option maxHeartbeats 1000000 in
theorem law0_bad (F : Interp) (b0 b1 b2 b3 b4 b5 b6 b7 mn sel key L : Int) (w : World) (hF : F.answers w.tape)
  (r0 : 0 ≤ b0 ∧ b0 ≤ 255) (r1 : 0 ≤ b1 ∧ b1 ≤ 255) (r2 : 0 ≤ b2 ∧ b2 ≤ 255) (r3 : 0 ≤ b3 ∧ b3 ≤ 255) (r4 : 0 ≤ b4 ∧ b4 ≤ 255) (r5 : 0 ≤ b5 ∧ b5 ≤ 255) (r6 : 0 ≤ b6 ∧ b6 ≤ 255) (r7 : 0 ≤ b7 ∧ b7 ≤ 255) (s0 : 0 ≤ sel) (s1 : sel ≤ 255) (hs : sel % 3 = 0)
  (HL : Hid (L = b4 + 256 * b5 + 65536 * b6 + 16777216 * b7)) (L0 : 0 ≤ L) (L1 : L < 4294967296) (hg1 : (L % 4 != 0) = true ∨ ((L % 4 != 0) = false ∧ L < mn)) :
    Calls Ybaf.prog 3 #[.agg #[.int .u8 b0, .int .u8 b1, .int .u8 b2, .int .u8 b3, .int .u8 b4, .int .u8 b5, .int .u8 b6, .int .u8 b7], .int .u32 mn, .int .u8 sel, .int .u32 key] w fun e w' =>
      e = .returned (.bool true) ∧ Below w.heap.size w w' := by
  have HG := (show Hid _ from hg1)
  rcases hg1 with hm | ⟨hm, hlt⟩
  · go_enter Ybaf.func3, Ybaf.ntmps3
    go_wp2_with fail
    rw [← HL.out]
    refine (bl_le_bad F (w.heap.size + 1) b0 b1 b2 b3 b4 b5 b6 b7 mn L _ (by exact hF) (by simp) (by simp) r0 r1 r2 r3 r4 r5 r6 r7 HL L0 L1 HG.out).mono ?_
    rintro e w' ⟨⟨a, rfl⟩, hB⟩
    have c0 := hB.cell (p := ⟨w.heap.size + 1, 0, none⟩) (by simp)
    have c1 := hB.cell (p := ⟨w.heap.size + 1, 1, none⟩) (by simp)
    have c2 := hB.cell (p := ⟨w.heap.size + 1, 2, none⟩) (by simp)
    have c3 := hB.cell (p := ⟨w.heap.size + 1, 3, none⟩) (by simp)
    simp at c0 c1 c2 c3
    have HB := (show Hid _ from hB)
    clear hB
    have hq : (L - L / 4 * 4 == 0) = false := by simp at hm ⊢; omega
    go_wp2
    go_ret
    exact ⟨rfl, (((Below.refl _ _).alloc (Nat.le_refl _) _).alloc (by simp) _).trans (HB.out.mono (by simp; try omega))⟩
  · go_enter Ybaf.func3, Ybaf.ntmps3
    go_wp2_with fail
    rw [← HL.out]
    refine (bl_le_bad F (w.heap.size + 1) b0 b1 b2 b3 b4 b5 b6 b7 mn L _ (by exact hF) (by simp) (by simp) r0 r1 r2 r3 r4 r5 r6 r7 HL L0 L1 HG.out).mono ?_
    rintro e w' ⟨⟨a, rfl⟩, hB⟩
    have c0 := hB.cell (p := ⟨w.heap.size + 1, 0, none⟩) (by simp)
    have c1 := hB.cell (p := ⟨w.heap.size + 1, 1, none⟩) (by simp)
    have c2 := hB.cell (p := ⟨w.heap.size + 1, 2, none⟩) (by simp)
    have c3 := hB.cell (p := ⟨w.heap.size + 1, 3, none⟩) (by simp)
    simp at c0 c1 c2 c3
    have HB := (show Hid _ from hB)
    clear hB
    have hq : L - L / 4 * 4 = 0 := by simp at hm; omega
    go_wp2
    go_ret
    exact ⟨rfl, (((Below.refl _ _).alloc (Nat.le_refl _) _).alloc (by simp) _).trans (HB.out.mono (by simp; try omega))⟩
set_option maxHeartbeats 1000000 in
theorem law1_good (b0 b1 b2 b3 b4 b5 b6 b7 mn sel key L : Int) (w : World)
  (r4 : 0 ≤ b4 ∧ b4 ≤ 255) (r5 : 0 ≤ b5 ∧ b5 ≤ 255) (r6 : 0 ≤ b6 ∧ b6 ≤ 255) (r7 : 0 ≤ b7 ∧ b7 ≤ 255) (s0 : 0 ≤ sel) (s1 : sel ≤ 255) (hs : sel % 3 = 1)
  (HL : Hid (L = b7 + 256 * b6 + 65536 * b5 + 16777216 * b4)) (L0 : 0 ≤ L) (L1 : L < 4294967296) (hg1 : (L % 4 != 0) = false) (hg2 : ¬ L < mn) :
    Calls Ybaf.prog 3 #[.agg #[.int .u8 b0, .int .u8 b1, .int .u8 b2, .int .u8 b3, .int .u8 b4, .int .u8 b5, .int .u8 b6, .int .u8 b7], .int .u32 mn, .int .u8 sel, .int .u32 key] w fun e w' =>
      e = .returned (.bool true) ∧ Below w.heap.size w w' := by
  go_enter Ybaf.func3, Ybaf.ntmps3
  go_wp2_with fail
  rw [← HL.out]
  refine (bl_be_good (w.heap.size + 1) b0 b1 b2 b3 b4 b5 b6 b7 mn L _ (by simp) (by simp) r4 r5 r6 r7 HL L0 L1 hg1 (by omega)).mono ?_
  rintro e w' ⟨rfl, hB⟩
  have c0 := hB.cell (p := ⟨w.heap.size + 1, 0, none⟩) (by simp)
  have c1 := hB.cell (p := ⟨w.heap.size + 1, 1, none⟩) (by simp)
  have c2 := hB.cell (p := ⟨w.heap.size + 1, 2, none⟩) (by simp)
  have c3 := hB.cell (p := ⟨w.heap.size + 1, 3, none⟩) (by simp)
  simp at c0 c1 c2 c3
  have HB := (show Hid _ from hB)
  clear hB
  have hq : L - L / 4 * 4 = 0 := by simp at hg1; omega
  go_wp2
  go_ret
  exact ⟨rfl, (((Below.refl _ _).alloc (Nat.le_refl _) _).alloc (by simp) _).trans (HB.out.mono (by simp; try omega))⟩
set_option maxHeartbeats 1000000 in
theorem law1_bad (F : Interp) (b0 b1 b2 b3 b4 b5 b6 b7 mn sel key L : Int) (w : World) (hF : F.answers w.tape)
  (r0 : 0 ≤ b0 ∧ b0 ≤ 255) (r1 : 0 ≤ b1 ∧ b1 ≤ 255) (r2 : 0 ≤ b2 ∧ b2 ≤ 255) (r3 : 0 ≤ b3 ∧ b3 ≤ 255) (r4 : 0 ≤ b4 ∧ b4 ≤ 255) (r5 : 0 ≤ b5 ∧ b5 ≤ 255) (r6 : 0 ≤ b6 ∧ b6 ≤ 255) (r7 : 0 ≤ b7 ∧ b7 ≤ 255) (s0 : 0 ≤ sel) (s1 : sel ≤ 255) (hs : sel % 3 = 1)
  (HL : Hid (L = b7 + 256 * b6 + 65536 * b5 + 16777216 * b4)) (L0 : 0 ≤ L) (L1 : L < 4294967296) (hg1 : (L % 4 != 0) = true ∨ ((L % 4 != 0) = false ∧ L < mn)) :
    Calls Ybaf.prog 3 #[.agg #[.int .u8 b0, .int .u8 b1, .int .u8 b2, .int .u8 b3, .int .u8 b4, .int .u8 b5, .int .u8 b6, .int .u8 b7], .int .u32 mn, .int .u8 sel, .int .u32 key] w fun e w' =>
      e = .returned (.bool true) ∧ Below w.heap.size w w' := by
  have HG := (show Hid _ from hg1)
  rcases hg1 with hm | ⟨hm, hlt⟩
  · go_enter Ybaf.func3, Ybaf.ntmps3
    go_wp2_with fail
    rw [← HL.out]
    refine (bl_be_bad F (w.heap.size + 1) b0 b1 b2 b3 b4 b5 b6 b7 mn L _ (by exact hF) (by simp) (by simp) r0 r1 r2 r3 r4 r5 r6 r7 HL L0 L1 HG.out).mono ?_
    rintro e w' ⟨⟨a, rfl⟩, hB⟩
    have c0 := hB.cell (p := ⟨w.heap.size + 1, 0, none⟩) (by simp)
    have c1 := hB.cell (p := ⟨w.heap.size + 1, 1, none⟩) (by simp)
    have c2 := hB.cell (p := ⟨w.heap.size + 1, 2, none⟩) (by simp)
    have c3 := hB.cell (p := ⟨w.heap.size + 1, 3, none⟩) (by simp)
    simp at c0 c1 c2 c3
    have HB := (show Hid _ from hB)
    clear hB
    have hq : (L - L / 4 * 4 == 0) = false := by simp at hm ⊢; omega
    go_wp2
    go_ret
    exact ⟨rfl, (((Below.refl _ _).alloc (Nat.le_refl _) _).alloc (by simp) _).trans (HB.out.mono (by simp; try omega))⟩
  · go_enter Ybaf.func3, Ybaf.ntmps3
    go_wp2_with fail
    rw [← HL.out]
    refine (bl_be_bad F (w.heap.size + 1) b0 b1 b2 b3 b4 b5 b6 b7 mn L _ (by exact hF) (by simp) (by simp) r0 r1 r2 r3 r4 r5 r6 r7 HL L0 L1 HG.out).mono ?_
    rintro e w' ⟨⟨a, rfl⟩, hB⟩
    have c0 := hB.cell (p := ⟨w.heap.size + 1, 0, none⟩) (by simp)
    have c1 := hB.cell (p := ⟨w.heap.size + 1, 1, none⟩) (by simp)
    have c2 := hB.cell (p := ⟨w.heap.size + 1, 2, none⟩) (by simp)
    have c3 := hB.cell (p := ⟨w.heap.size + 1, 3, none⟩) (by simp)
    simp at c0 c1 c2 c3
    have HB := (show Hid _ from hB)
    clear hB
    have hq : L - L / 4 * 4 = 0 := by simp at hm; omega
    go_wp2
    go_ret
    exact ⟨rfl, (((Below.refl _ _).alloc (Nat.le_refl _) _).alloc (by simp) _).trans (HB.out.mono (by simp; try omega))⟩
set_option maxHeartbeats 1000000 in
theorem law2_good (b0 b1 b2 b3 b4 b5 b6 b7 mn sel key L : Int) (w : World)
  (r4 : 0 ≤ b4 ∧ b4 ≤ 255) (r5 : 0 ≤ b5 ∧ b5 ≤ 255) (r6 : 0 ≤ b6 ∧ b6 ≤ 255) (r7 : 0 ≤ b7 ∧ b7 ≤ 255) (s0 : 0 ≤ sel) (s1 : sel ≤ 255) (hs : sel % 3 = 2)
  (HL : Hid (L = bits .xor .u32 (b4 + 256 * b5 + 65536 * b6 + 16777216 * b7) key)) (L0 : 0 ≤ L) (L1 : L < 4294967296) (hg1 : (L % 4 != 0) = false) (hg2 : ¬ L < mn) :
    Calls Ybaf.prog 3 #[.agg #[.int .u8 b0, .int .u8 b1, .int .u8 b2, .int .u8 b3, .int .u8 b4, .int .u8 b5, .int .u8 b6, .int .u8 b7], .int .u32 mn, .int .u8 sel, .int .u32 key] w fun e w' =>
      e = .returned (.bool true) ∧ Below w.heap.size w w' := by
  go_enter Ybaf.func3, Ybaf.ntmps3
  go_wp2_with fail
  rw [← HL.out]
  refine (bl_own_good (w.heap.size + 1) key 0 (w.heap.size + 1 + 1) b0 b1 b2 b3 b4 b5 b6 b7 mn L _ (by simp) (by simp) (cell_fresh _ _ _ _ _ _ (by simp) rfl) (cell_under _ _ _ _ _ _ _ (by simp) rfl) (cell_under _ _ _ _ _ _ _ (by simp) rfl) (frozen_under _ _ _ _ _ _ (by simp)) (by omega) (by omega) r4 r5 r6 r7 HL L0 L1 hg1 (by omega)).mono ?_
  rintro e w' ⟨rfl, hB⟩
  have c0 : w'.cell? ⟨w.heap.size + 1 + 1, 0, none⟩ = some (.nilIface) := (hB.cell (p := ⟨w.heap.size + 1 + 1, 0, none⟩) (by simp)).trans ((set_other _ _ _ _ _ (by simp)).trans (cell_fresh _ _ _ _ _ _ (by simp) rfl))
  have c1 : w'.cell? ⟨w.heap.size + 1 + 1, 1, none⟩ = some (.iface 26 (.pointer (some ⟨w.heap.size + 1, 0, none⟩))) := (hB.cell (p := ⟨w.heap.size + 1 + 1, 1, none⟩) (by simp)).trans ((set_other _ _ _ _ _ (by simp)).trans (cell_fresh _ _ _ _ _ _ (by simp) rfl))
  have c2 : w'.cell? ⟨w.heap.size + 1 + 1, 2, none⟩ = some (.slice none 0 0) := (hB.cell (p := ⟨w.heap.size + 1 + 1, 2, none⟩) (by simp)).trans ((set_other _ _ _ _ _ (by simp)).trans (cell_fresh _ _ _ _ _ _ (by simp) rfl))
  have c3 : w'.cell? ⟨w.heap.size + 1 + 1, 3, none⟩ = some (.slice none 0 0) := (hB.cell (p := ⟨w.heap.size + 1 + 1, 3, none⟩) (by simp)).trans ((set_other _ _ _ _ _ (by simp)).trans (cell_fresh _ _ _ _ _ _ (by simp) rfl))
  have c4 : w'.cell? ⟨w.heap.size + 1, 1, none⟩ = some (.int .i64 (0 + 1)) := (hB.cell (p := ⟨w.heap.size + 1, 1, none⟩) (by simp)).trans (World.cell?_setCell_same _ _ _ (cell_under _ _ _ _ _ _ _ (by simp) rfl))
  have HB := (show Hid _ from hB)
  clear hB
  have hq : L - L / 4 * 4 = 0 := by simp at hg1; omega
  go_wp2
  go_ret
  refine ⟨rfl, Below.trans ?_ (HB.out.mono (by simp; try omega))⟩
  repeat (first | exact Below.refl _ _ | refine Below.setCell ?_ (by simp; try omega) _ | refine Below.alloc ?_ (by simp; try omega) _)
set_option maxHeartbeats 1000000 in
theorem law2_bad (F : Interp) (b0 b1 b2 b3 b4 b5 b6 b7 mn sel key L : Int) (w : World) (hF : F.answers w.tape)
  (r0 : 0 ≤ b0 ∧ b0 ≤ 255) (r1 : 0 ≤ b1 ∧ b1 ≤ 255) (r2 : 0 ≤ b2 ∧ b2 ≤ 255) (r3 : 0 ≤ b3 ∧ b3 ≤ 255) (r4 : 0 ≤ b4 ∧ b4 ≤ 255) (r5 : 0 ≤ b5 ∧ b5 ≤ 255) (r6 : 0 ≤ b6 ∧ b6 ≤ 255) (r7 : 0 ≤ b7 ∧ b7 ≤ 255) (s0 : 0 ≤ sel) (s1 : sel ≤ 255) (hs : sel % 3 = 2)
  (HL : Hid (L = bits .xor .u32 (b4 + 256 * b5 + 65536 * b6 + 16777216 * b7) key)) (L0 : 0 ≤ L) (L1 : L < 4294967296) (hg1 : (L % 4 != 0) = true ∨ ((L % 4 != 0) = false ∧ L < mn)) :
    Calls Ybaf.prog 3 #[.agg #[.int .u8 b0, .int .u8 b1, .int .u8 b2, .int .u8 b3, .int .u8 b4, .int .u8 b5, .int .u8 b6, .int .u8 b7], .int .u32 mn, .int .u8 sel, .int .u32 key] w fun e w' =>
      e = .returned (.bool true) ∧ Below w.heap.size w w' := by
  have HG := (show Hid _ from hg1)
  rcases hg1 with hm | ⟨hm, hlt⟩
  · go_enter Ybaf.func3, Ybaf.ntmps3
    go_wp2_with fail
    rw [← HL.out]
    refine (bl_own_bad F (w.heap.size + 1) key 0 (w.heap.size + 1 + 1) b0 b1 b2 b3 b4 b5 b6 b7 mn L _ (by exact hF) (by simp) (by simp) (by omega) (cell_fresh _ _ _ _ _ _ (by simp) rfl) (cell_under _ _ _ _ _ _ _ (by simp) rfl) (cell_under _ _ _ _ _ _ _ (by simp) rfl) (frozen_under _ _ _ _ _ _ (by simp)) (by omega) (by omega) r0 r1 r2 r3 r4 r5 r6 r7 HL L0 L1 HG.out).mono ?_
    rintro e w' ⟨⟨a, rfl⟩, hB⟩
    have c0 : w'.cell? ⟨w.heap.size + 1 + 1, 0, none⟩ = some (.nilIface) := (hB.cell (p := ⟨w.heap.size + 1 + 1, 0, none⟩) (by simp)).trans ((set_other _ _ _ _ _ (by simp)).trans ((set_other _ _ _ _ _ (by simp)).trans (cell_fresh _ _ _ _ _ _ (by simp) rfl)))
    have c1 : w'.cell? ⟨w.heap.size + 1 + 1, 1, none⟩ = some (.iface 26 (.pointer (some ⟨w.heap.size + 1, 0, none⟩))) := (hB.cell (p := ⟨w.heap.size + 1 + 1, 1, none⟩) (by simp)).trans ((set_other _ _ _ _ _ (by simp)).trans ((set_other _ _ _ _ _ (by simp)).trans (cell_fresh _ _ _ _ _ _ (by simp) rfl)))
    have c2 : w'.cell? ⟨w.heap.size + 1 + 1, 2, none⟩ = some (.slice none 0 0) := (hB.cell (p := ⟨w.heap.size + 1 + 1, 2, none⟩) (by simp)).trans ((set_other _ _ _ _ _ (by simp)).trans ((set_other _ _ _ _ _ (by simp)).trans (cell_fresh _ _ _ _ _ _ (by simp) rfl)))
    have c3 : w'.cell? ⟨w.heap.size + 1 + 1, 3, none⟩ = some (.slice none 0 0) := (hB.cell (p := ⟨w.heap.size + 1 + 1, 3, none⟩) (by simp)).trans ((set_other _ _ _ _ _ (by simp)).trans ((set_other _ _ _ _ _ (by simp)).trans (cell_fresh _ _ _ _ _ _ (by simp) rfl)))
    have c4 : w'.cell? ⟨w.heap.size + 1, 1, none⟩ = some (.int .i64 (0 + 1 + 1)) := (hB.cell (p := ⟨w.heap.size + 1, 1, none⟩) (by simp)).trans (World.cell?_setCell_same _ _ _ (World.cell?_setCell_same _ _ _ (cell_under _ _ _ _ _ _ _ (by simp) rfl)))
    have HB := (show Hid _ from hB)
    clear hB
    have hq : (L - L / 4 * 4 == 0) = false := by simp at hm ⊢; omega
    go_wp2
    go_ret
    refine ⟨rfl, Below.trans ?_ (HB.out.mono (by simp; try omega))⟩
    repeat (first | exact Below.refl _ _ | refine Below.setCell ?_ (by simp; try omega) _ | refine Below.alloc ?_ (by simp; try omega) _)
  · go_enter Ybaf.func3, Ybaf.ntmps3
    go_wp2_with fail
    rw [← HL.out]
    refine (bl_own_bad F (w.heap.size + 1) key 0 (w.heap.size + 1 + 1) b0 b1 b2 b3 b4 b5 b6 b7 mn L _ (by exact hF) (by simp) (by simp) (by omega) (cell_fresh _ _ _ _ _ _ (by simp) rfl) (cell_under _ _ _ _ _ _ _ (by simp) rfl) (cell_under _ _ _ _ _ _ _ (by simp) rfl) (frozen_under _ _ _ _ _ _ (by simp)) (by omega) (by omega) r0 r1 r2 r3 r4 r5 r6 r7 HL L0 L1 HG.out).mono ?_
    rintro e w' ⟨⟨a, rfl⟩, hB⟩
    have c0 : w'.cell? ⟨w.heap.size + 1 + 1, 0, none⟩ = some (.nilIface) := (hB.cell (p := ⟨w.heap.size + 1 + 1, 0, none⟩) (by simp)).trans ((set_other _ _ _ _ _ (by simp)).trans ((set_other _ _ _ _ _ (by simp)).trans (cell_fresh _ _ _ _ _ _ (by simp) rfl)))
    have c1 : w'.cell? ⟨w.heap.size + 1 + 1, 1, none⟩ = some (.iface 26 (.pointer (some ⟨w.heap.size + 1, 0, none⟩))) := (hB.cell (p := ⟨w.heap.size + 1 + 1, 1, none⟩) (by simp)).trans ((set_other _ _ _ _ _ (by simp)).trans ((set_other _ _ _ _ _ (by simp)).trans (cell_fresh _ _ _ _ _ _ (by simp) rfl)))
    have c2 : w'.cell? ⟨w.heap.size + 1 + 1, 2, none⟩ = some (.slice none 0 0) := (hB.cell (p := ⟨w.heap.size + 1 + 1, 2, none⟩) (by simp)).trans ((set_other _ _ _ _ _ (by simp)).trans ((set_other _ _ _ _ _ (by simp)).trans (cell_fresh _ _ _ _ _ _ (by simp) rfl)))
    have c3 : w'.cell? ⟨w.heap.size + 1 + 1, 3, none⟩ = some (.slice none 0 0) := (hB.cell (p := ⟨w.heap.size + 1 + 1, 3, none⟩) (by simp)).trans ((set_other _ _ _ _ _ (by simp)).trans ((set_other _ _ _ _ _ (by simp)).trans (cell_fresh _ _ _ _ _ _ (by simp) rfl)))
    have c4 : w'.cell? ⟨w.heap.size + 1, 1, none⟩ = some (.int .i64 (0 + 1 + 1)) := (hB.cell (p := ⟨w.heap.size + 1, 1, none⟩) (by simp)).trans (World.cell?_setCell_same _ _ _ (World.cell?_setCell_same _ _ _ (cell_under _ _ _ _ _ _ _ (by simp) rfl)))
    have HB := (show Hid _ from hB)
    clear hB
    have hq : L - L / 4 * 4 = 0 := by simp at hm; omega
    go_wp2
    go_ret
    refine ⟨rfl, Below.trans ?_ (HB.out.mono (by simp; try omega))⟩
    repeat (first | exact Below.refl _ _ | refine Below.setCell ?_ (by simp; try omega) _ | refine Below.alloc ?_ (by simp; try omega) _)

theorem xor_bounds (a b : Int) : 0 ≤ bits .xor .u32 a b ∧ bits .xor .u32 a b < 4294967296 := by
  show 0 ≤ IntKind.u32.wrap _ ∧ IntKind.u32.wrap _ < _
  rw [IntKind.wrap_u32']
  exact ⟨Int.emod_nonneg _ (by decide), Int.emod_lt_of_pos _ (by decide)⟩
theorem law_any (F : Interp) (b0 b1 b2 b3 b4 b5 b6 b7 mn sel key : Int) (w : World) (hF : F.answers w.tape)
  (r0 : 0 ≤ b0 ∧ b0 ≤ 255) (r1 : 0 ≤ b1 ∧ b1 ≤ 255) (r2 : 0 ≤ b2 ∧ b2 ≤ 255) (r3 : 0 ≤ b3 ∧ b3 ≤ 255) (r4 : 0 ≤ b4 ∧ b4 ≤ 255) (r5 : 0 ≤ b5 ∧ b5 ≤ 255) (r6 : 0 ≤ b6 ∧ b6 ≤ 255) (r7 : 0 ≤ b7 ∧ b7 ≤ 255) (s0 : 0 ≤ sel) (s1 : sel ≤ 255) :
    Calls Ybaf.prog 3 #[.agg #[.int .u8 b0, .int .u8 b1, .int .u8 b2, .int .u8 b3, .int .u8 b4, .int .u8 b5, .int .u8 b6, .int .u8 b7], .int .u32 mn, .int .u8 sel, .int .u32 key] w fun e w' =>
      e = .returned (.bool true) ∧ Below w.heap.size w w' := by
  have key3 : ∀ L : Int, ((L % 4 != 0) = false ∧ ¬ L < mn) ∨ ((L % 4 != 0) = true ∨ ((L % 4 != 0) = false ∧ L < mn)) := by
    intro L
    cases h : (L % 4 != 0) <;> by_cases h2 : L < mn <;> simp [h2]
  rcases (show sel % 3 = 0 ∨ sel % 3 = 1 ∨ sel % 3 = 2 by omega) with hs | hs | hs
  · rcases key3 (b4 + 256 * b5 + 65536 * b6 + 16777216 * b7) with ⟨g1, g2⟩ | g
    · exact law0_good b0 b1 b2 b3 b4 b5 b6 b7 mn sel key _ w r4 r5 r6 r7 s0 s1 hs rfl (by omega) (by omega) g1 g2
    · exact law0_bad F b0 b1 b2 b3 b4 b5 b6 b7 mn sel key _ w hF r0 r1 r2 r3 r4 r5 r6 r7 s0 s1 hs rfl (by omega) (by omega) g
  · rcases key3 (b7 + 256 * b6 + 65536 * b5 + 16777216 * b4) with ⟨g1, g2⟩ | g
    · exact law1_good b0 b1 b2 b3 b4 b5 b6 b7 mn sel key _ w r4 r5 r6 r7 s0 s1 hs rfl (by omega) (by omega) g1 g2
    · exact law1_bad F b0 b1 b2 b3 b4 b5 b6 b7 mn sel key _ w hF r0 r1 r2 r3 r4 r5 r6 r7 s0 s1 hs rfl (by omega) (by omega) g
  · have hx := xor_bounds (b4 + 256 * b5 + 65536 * b6 + 16777216 * b7) key
    rcases key3 (bits .xor .u32 (b4 + 256 * b5 + 65536 * b6 + 16777216 * b7) key) with ⟨g1, g2⟩ | g
    · exact law2_good b0 b1 b2 b3 b4 b5 b6 b7 mn sel key _ w r4 r5 r6 r7 s0 s1 hs rfl hx.1 hx.2 g1 g2
    · exact law2_bad F b0 b1 b2 b3 b4 b5 b6 b7 mn sel key _ w hF r0 r1 r2 r3 r4 r5 r6 r7 s0 s1 hs rfl hx.1 hx.2 g
end Go.Proofs.YbulkecieFmt

/-
  Walks of blockLength at the law's own byte order.
-/
import Derived.Test.YbulkecieFmtWalks2
namespace Go.Proofs.YbulkecieFmt
open Go.ChangeShapes Go.WideShapes Go.ChangeAt Go.RowKit
open Go.Extern.Stop Go.Stop Go.Extern
attribute [local go_sem] meth28 meth29 meth26
theorem Below.setBoth {B : Nat} {a b : World} (h : Below B a b) (p : Addr) (u : Value) : Below B (a.setCell p u) (b.setCell p u) :=
  ⟨h.os, h.tape, h.output, by simpa [World.setCell] using h.size, fun k hk => by
    simp only [World.setCell, Array.getElem?_modify]
    rw [h.block k hk]⟩
set_option maxHeartbeats 400000 in
theorem bl_own_good (q : Nat) (key n : Int) (f : Nat) (b0 b1 b2 b3 b4 b5 b6 b7 mn L : Int) (w : World) (hf : f < w.heap.size) (hq : q < w.heap.size)
  (ho : w.cell? ⟨f, 0 + 1, none⟩ = some (.iface 26 (.pointer (some ⟨q, 0, none⟩))))
  (hk : w.cell? ⟨q, 0, none⟩ = some (.int .u32 key)) (hn : w.cell? ⟨q, 0 + 1, none⟩ = some (.int .i64 n)) (hfr : w.frozen? ⟨q, 0 + 1, none⟩ = false) (hn0 : 0 ≤ n) (hn1 : n < 5)
  (r4 : 0 ≤ b4 ∧ b4 ≤ 255) (r5 : 0 ≤ b5 ∧ b5 ≤ 255) (r6 : 0 ≤ b6 ∧ b6 ≤ 255) (r7 : 0 ≤ b7 ∧ b7 ≤ 255)
  (HL : Hid (L = bits .xor .u32 (b4 + 256 * b5 + 65536 * b6 + 16777216 * b7) key)) (L0 : 0 ≤ L) (L1 : L < 4294967296) (hg1 : (L % 4 != 0) = false) (hg2 : ¬ L < mn) :
    Calls Ybaf.prog 4 #[.pointer (some ⟨f, 0, none⟩), .agg #[.int .u8 b0, .int .u8 b1, .int .u8 b2, .int .u8 b3, .int .u8 b4, .int .u8 b5, .int .u8 b6, .int .u8 b7], .int .u32 mn] w fun e w' =>
      e = .returned (.tuple #[.int .u32 L, .nilIface]) ∧ Below w.heap.size (w.setCell ⟨q, 1, none⟩ (.int .i64 (n + 1))) w' := by
  have hB1 := (Below.refl w.heap.size w).alloc (Nat.le_refl _) (Obj.cells #[Value.int IntKind.u8 b0, Value.int IntKind.u8 b1, Value.int IntKind.u8 b2, Value.int IntKind.u8 b3, Value.int IntKind.u8 b4, Value.int IntKind.u8 b5, Value.int IntKind.u8 b6, Value.int IntKind.u8 b7] 22)
  have hqn : q ≠ w.heap.size := by omega
  have HB1 := (show Hid _ from hB1)
  clear hB1
  go_enter Ybaf.func4, Ybaf.ntmps4
  go_wp2_with fail
  go_region_with (go_at_call 28; go_must (refine (own32 q key n w.heap.size 4 4 b4 b5 b6 b7 _ hqn (by exact (HB1.out.cell (p := ⟨q, 0, none⟩) hq).trans hk) (by exact (HB1.out.cell (p := ⟨q, 0 + 1, none⟩) hq).trans hn) (by exact (HB1.out.frozen (p := ⟨q, 0 + 1, none⟩) hq).trans hfr) hn0 (by omega) (by simp) (by simp) (by simp) (by simp) r4 r5 r6 r7).mono ?_; rintro e w' ⟨rfl, m, rfl⟩; rw [← HL.out]))
  go_wp2
  go_ret2
  exact ⟨rfl, by repeat (first | exact Below.refl _ _ | apply below_drewN | apply Below.drew | refine Below.alloc ?_ (by simp; try omega) _)⟩
set_option maxHeartbeats 1000000 in
theorem bl_own_bad (F : Interp) (q : Nat) (key n : Int) (f : Nat) (b0 b1 b2 b3 b4 b5 b6 b7 mn L : Int) (w : World) (hF : F.answers w.tape) (hf : f < w.heap.size) (hq : q < w.heap.size) (hfq : f ≠ q)
  (ho : w.cell? ⟨f, 0 + 1, none⟩ = some (.iface 26 (.pointer (some ⟨q, 0, none⟩))))
  (hk : w.cell? ⟨q, 0, none⟩ = some (.int .u32 key)) (hn : w.cell? ⟨q, 0 + 1, none⟩ = some (.int .i64 n)) (hfr : w.frozen? ⟨q, 0 + 1, none⟩ = false) (hn0 : 0 ≤ n) (hn1 : n < 5)
  (r0 : 0 ≤ b0 ∧ b0 ≤ 255) (r1 : 0 ≤ b1 ∧ b1 ≤ 255) (r2 : 0 ≤ b2 ∧ b2 ≤ 255) (r3 : 0 ≤ b3 ∧ b3 ≤ 255)
  (r4 : 0 ≤ b4 ∧ b4 ≤ 255) (r5 : 0 ≤ b5 ∧ b5 ≤ 255) (r6 : 0 ≤ b6 ∧ b6 ≤ 255) (r7 : 0 ≤ b7 ∧ b7 ≤ 255)
  (HL : Hid (L = bits .xor .u32 (b4 + 256 * b5 + 65536 * b6 + 16777216 * b7) key)) (L0 : 0 ≤ L) (L1 : L < 4294967296) (hg1 : (L % 4 != 0) = true ∨ ((L % 4 != 0) = false ∧ L < mn)) :
    Calls Ybaf.prog 4 #[.pointer (some ⟨f, 0, none⟩), .agg #[.int .u8 b0, .int .u8 b1, .int .u8 b2, .int .u8 b3, .int .u8 b4, .int .u8 b5, .int .u8 b6, .int .u8 b7], .int .u32 mn] w fun e w' =>
      (∃ a, e = .returned (.tuple #[.int .u32 0, .iface 49 (.pointer (some a))])) ∧ Below w.heap.size ((w.setCell ⟨q, 1, none⟩ (.int .i64 (n + 1))).setCell ⟨q, 1, none⟩ (.int .i64 (n + 1 + 1))) w' := by
  have hB1 := (Below.refl w.heap.size w).alloc (Nat.le_refl _) (Obj.cells #[Value.int IntKind.u8 b0, Value.int IntKind.u8 b1, Value.int IntKind.u8 b2, Value.int IntKind.u8 b3, Value.int IntKind.u8 b4, Value.int IntKind.u8 b5, Value.int IntKind.u8 b6, Value.int IntKind.u8 b7] 22)
  have hqn : q ≠ w.heap.size := by omega
  have HB1 := (show Hid _ from hB1)
  clear hB1
  have hb1 : f < w.heap.size + 1 := by omega
  have hb2 : f < w.heap.size + 1 + 1 := by omega
  have hn2 : n + 1 < 10 := by omega
  have HQ : Hid (∀ (o : Obj) (m : Nat), (((w.setCell ⟨q, 1, none⟩ (.int .i64 (n + 1))).alloc o).drewN m).cell? ⟨q, 0, none⟩ = some (.int .u32 key) ∧ (((w.setCell ⟨q, 1, none⟩ (.int .i64 (n + 1))).alloc o).drewN m).cell? ⟨q, 0 + 1, none⟩ = some (.int .i64 (n + 1)) ∧ (((w.setCell ⟨q, 1, none⟩ (.int .i64 (n + 1))).alloc o).drewN m).frozen? ⟨q, 0 + 1, none⟩ = false) := by
    show ∀ (o : Obj) (m : Nat), _ ∧ _ ∧ _
    intro o m
    have hY := below_drewN (((Below.refl w.heap.size (w.setCell ⟨q, 1, none⟩ (.int .i64 (n + 1)))).alloc (by simp) o)) m
    refine ⟨(hY.cell (p := ⟨q, 0, none⟩) hq).trans ?_, (hY.cell (p := ⟨q, 0 + 1, none⟩) hq).trans ?_, (hY.frozen (p := ⟨q, 0 + 1, none⟩) hq).trans ?_⟩
    · rw [World.cell?_setCell_other _ _ _ _ (by simp)]; exact hk
    · exact World.cell?_setCell_same _ _ _ hn
    · rw [World.frozen?_setCell]; exact hfr
  have HH : Hid (∀ (m j : Nat) (v : Value), #[Value.int IntKind.u8 b0, Value.int IntKind.u8 b1, Value.int IntKind.u8 b2, Value.int IntKind.u8 b3, Value.int IntKind.u8 b4, Value.int IntKind.u8 b5, Value.int IntKind.u8 b6, Value.int IntKind.u8 b7][j]? = some v → (((w.setCell ⟨q, 1, none⟩ (.int .i64 (n + 1))).alloc (Obj.cells #[Value.int IntKind.u8 b0, Value.int IntKind.u8 b1, Value.int IntKind.u8 b2, Value.int IntKind.u8 b3, Value.int IntKind.u8 b4, Value.int IntKind.u8 b5, Value.int IntKind.u8 b6, Value.int IntKind.u8 b7] 22)).drewN m).cell? ⟨w.heap.size, j, none⟩ = some v) :=
    fun m j v hj => cell_fresh _ _ _ _ _ _ (by simp) hj
  rcases hg1 with hm | ⟨hm, hlt⟩
  all_goals
    go_enter Ybaf.func4, Ybaf.ntmps4
    go_wp2_with fail
    go_region_with (go_at_call 28; go_must (refine (own32 q key n w.heap.size 4 4 b4 b5 b6 b7 _ hqn (by exact (HB1.out.cell (p := ⟨q, 0, none⟩) hq).trans hk) (by exact (HB1.out.cell (p := ⟨q, 0 + 1, none⟩) hq).trans hn) (by exact (HB1.out.frozen (p := ⟨q, 0 + 1, none⟩) hq).trans hfr) hn0 (by omega) (by simp) (by simp) (by simp) (by simp) r4 r5 r6 r7).mono ?_; rintro e w' ⟨rfl, m, rfl⟩; rw [← HL.out]))
    go_wp2_with fail
    go_region_with (first | (go_at_call 28; go_must (refine (own32 q key (n + 1) w.heap.size 0 8 b0 b1 b2 b3 _ hqn (HQ.out _ _).1 (HQ.out _ _).2.1 (HQ.out _ _).2.2 (by omega) hn2 (HH.out _ _ _ rfl) (HH.out _ _ _ rfl) (HH.out _ _ _ rfl) (HH.out _ _ _ rfl) r0 r1 r2 r3).mono ?_; rintro e w' ⟨rfl, m, rfl⟩)) | (go_at_call 5; go_must (refine (errorf_any F _ (bits .xor .u32 (b0 + 256 * b1 + 65536 * b2 + 16777216 * b3) key) L _ (by exact hF) (cell_fresh _ _ _ _ _ _ (by simp) rfl) (cell_fresh _ _ _ _ _ _ (by simp) rfl)).mono ?_; rintro e w' ⟨rfl, s, rfl⟩)))
    go_wp2
    go_ret2
    refine ⟨⟨_, rfl⟩, ?_⟩
    repeat (first | exact Below.refl _ _ | apply below_drewN | apply Below.drew | refine Below.alloc ?_ (by simp; try omega) _ | refine Below.setBoth ?_ _ _)
end Go.Proofs.YbulkecieFmt

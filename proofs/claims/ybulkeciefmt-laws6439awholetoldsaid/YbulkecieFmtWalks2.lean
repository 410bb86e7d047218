/-
  Walks of blockLength at the three byte orders.
-/
import Derived.Test.YbulkecieFmtWalks1
import Derived.WalkSpells
namespace Go.Proofs.YbulkecieFmt
open Go.ChangeShapes Go.WideShapes Go.ChangeAt Go.RowKit
open Go.Extern.Stop Go.Stop Go.Extern
theorem cell_fresh (X : World) (cs : Array Value) (t : TypeId) (g j : Nat) (v : Value) (hg : g = X.heap.size) (hj : cs[j]? = some v) : (X.alloc (.cells cs t)).cell? ⟨g, j, none⟩ = some v := by
  subst hg
  rw [cell_of_row _ _ j cs t (0, 0) (heap_alloc_new X _)]
  simpa using hj
theorem tapeOf (F : Interp) {B : Nat} {w w' : World} (hF : F.answers w.tape) (hB : Below B w w') : F.answers w'.tape := by rw [hB.tape]; exact hF
theorem meth28 (w : World) : (method 197 28 (.agg #[]) "Uint32").run Ybaf.prog w = .ok (36, .agg #[]) w := by kernel_rfl
theorem meth29 (w : World) : (method 197 29 (.agg #[]) "Uint32").run Ybaf.prog w = .ok (44, .agg #[]) w := by kernel_rfl
theorem meth26 (a : Addr) (w : World) : (method 197 26 (.pointer (some a)) "Uint32").run Ybaf.prog w = .ok (28, .pointer (some a)) w := by kernel_rfl
attribute [local go_sem] meth28 meth29 meth26
set_option maxHeartbeats 400000 in
theorem bl_le_good (f : Nat) (b0 b1 b2 b3 b4 b5 b6 b7 mn L : Int) (w : World) (hf : f < w.heap.size)
  (ho : w.cell? ⟨f, 0 + 1, none⟩ = some (.iface 28 (.agg #[])))
  (r4 : 0 ≤ b4 ∧ b4 ≤ 255) (r5 : 0 ≤ b5 ∧ b5 ≤ 255) (r6 : 0 ≤ b6 ∧ b6 ≤ 255) (r7 : 0 ≤ b7 ∧ b7 ≤ 255) 
  (HL : Hid (L = b4 + 256 * b5 + 65536 * b6 + 16777216 * b7)) (L0 : 0 ≤ L) (L1 : L < 4294967296) (hg1 : (L % 4 != 0) = false) (hg2 : ¬ L < mn) :
    Calls Ybaf.prog 4 #[.pointer (some ⟨f, 0, none⟩), .agg #[.int .u8 b0, .int .u8 b1, .int .u8 b2, .int .u8 b3, .int .u8 b4, .int .u8 b5, .int .u8 b6, .int .u8 b7], .int .u32 mn] w fun e w' => 
      e = .returned (.tuple #[.int .u32 L, .nilIface]) ∧ Below w.heap.size w w' := by
  have hB1 := (Below.refl w.heap.size w).alloc (Nat.le_refl _) (Obj.cells #[Value.int IntKind.u8 b0, Value.int IntKind.u8 b1, Value.int IntKind.u8 b2, Value.int IntKind.u8 b3, Value.int IntKind.u8 b4, Value.int IntKind.u8 b5, Value.int IntKind.u8 b6, Value.int IntKind.u8 b7] 22)
  go_enter Ybaf.func4, Ybaf.ntmps4
  go_wp2_with fail
  go_region_with (go_at_call 36; refine (le32 w.heap.size 4 4 b4 b5 b6 b7 _ (by simp) (by simp) (by simp) (by simp) (by simp) r4 r5 r6 r7).mono ?_; rintro e w' ⟨rfl, n, rfl⟩; rw [← HL.out])
  go_wp2
  go_ret2
  exact ⟨rfl, by repeat (first | exact Below.refl _ _ | apply below_drewN | apply Below.drew | refine Below.alloc ?_ (by simp; try omega) _)⟩
set_option maxHeartbeats 400000 in
theorem bl_le_bad (F : Interp) (f : Nat) (b0 b1 b2 b3 b4 b5 b6 b7 mn L : Int) (w : World) (hF : F.answers w.tape) (hf : f < w.heap.size)
  (ho : w.cell? ⟨f, 0 + 1, none⟩ = some (.iface 28 (.agg #[])))
  (r0 : 0 ≤ b0 ∧ b0 ≤ 255) (r1 : 0 ≤ b1 ∧ b1 ≤ 255) (r2 : 0 ≤ b2 ∧ b2 ≤ 255) (r3 : 0 ≤ b3 ∧ b3 ≤ 255) 
  (r4 : 0 ≤ b4 ∧ b4 ≤ 255) (r5 : 0 ≤ b5 ∧ b5 ≤ 255) (r6 : 0 ≤ b6 ∧ b6 ≤ 255) (r7 : 0 ≤ b7 ∧ b7 ≤ 255) 
  (HL : Hid (L = b4 + 256 * b5 + 65536 * b6 + 16777216 * b7)) (L0 : 0 ≤ L) (L1 : L < 4294967296) (hg1 : (L % 4 != 0) = true ∨ ((L % 4 != 0) = false ∧ L < mn)) :
    Calls Ybaf.prog 4 #[.pointer (some ⟨f, 0, none⟩), .agg #[.int .u8 b0, .int .u8 b1, .int .u8 b2, .int .u8 b3, .int .u8 b4, .int .u8 b5, .int .u8 b6, .int .u8 b7], .int .u32 mn] w fun e w' => 
      (∃ a, e = .returned (.tuple #[.int .u32 0, .iface 49 (.pointer (some a))])) ∧ Below w.heap.size w w' := by
  have hb1 : f < w.heap.size + 1 := by omega
  have hb2 : f < w.heap.size + 1 + 1 := by omega
  rcases hg1 with hm | ⟨hm, hlt⟩
  all_goals
    go_enter Ybaf.func4, Ybaf.ntmps4
    go_wp2_with fail
    go_region_with (go_at_call 36; refine (le32 w.heap.size 4 4 b4 b5 b6 b7 _ (by simp) (by simp) (by simp) (by simp) (by simp) r4 r5 r6 r7).mono ?_; rintro e w' ⟨rfl, n, rfl⟩; rw [← HL.out])
    go_wp2_with fail
    go_region_with (first | (go_at_call 36; refine (le32 w.heap.size 0 8 b0 b1 b2 b3 _ (by simp; omega) (by simp) (by simp) (by simp) (by simp) r0 r1 r2 r3).mono ?_; rintro e w' ⟨rfl, n, rfl⟩) | (go_at_call 5; go_must (refine (errorf_any F _ (b0 + 256 * b1 + 65536 * b2 + 16777216 * b3) L _ (by exact hF) (cell_fresh _ _ _ _ _ _ (by simp) rfl) (cell_fresh _ _ _ _ _ _ (by simp) rfl)).mono ?_; rintro e w' ⟨rfl, s, rfl⟩)))
    go_wp2
    go_ret2
    exact ⟨⟨_, rfl⟩, by repeat (first | exact Below.refl _ _ | apply below_drewN | apply Below.drew | refine Below.alloc ?_ (by simp; try omega) _)⟩
set_option maxHeartbeats 400000 in
theorem bl_be_good (f : Nat) (b0 b1 b2 b3 b4 b5 b6 b7 mn L : Int) (w : World) (hf : f < w.heap.size)
  (ho : w.cell? ⟨f, 0 + 1, none⟩ = some (.iface 29 (.agg #[])))
  (r4 : 0 ≤ b4 ∧ b4 ≤ 255) (r5 : 0 ≤ b5 ∧ b5 ≤ 255) (r6 : 0 ≤ b6 ∧ b6 ≤ 255) (r7 : 0 ≤ b7 ∧ b7 ≤ 255) 
  (HL : Hid (L = b7 + 256 * b6 + 65536 * b5 + 16777216 * b4)) (L0 : 0 ≤ L) (L1 : L < 4294967296) (hg1 : (L % 4 != 0) = false) (hg2 : ¬ L < mn) :
    Calls Ybaf.prog 4 #[.pointer (some ⟨f, 0, none⟩), .agg #[.int .u8 b0, .int .u8 b1, .int .u8 b2, .int .u8 b3, .int .u8 b4, .int .u8 b5, .int .u8 b6, .int .u8 b7], .int .u32 mn] w fun e w' => 
      e = .returned (.tuple #[.int .u32 L, .nilIface]) ∧ Below w.heap.size w w' := by
  have hB1 := (Below.refl w.heap.size w).alloc (Nat.le_refl _) (Obj.cells #[Value.int IntKind.u8 b0, Value.int IntKind.u8 b1, Value.int IntKind.u8 b2, Value.int IntKind.u8 b3, Value.int IntKind.u8 b4, Value.int IntKind.u8 b5, Value.int IntKind.u8 b6, Value.int IntKind.u8 b7] 22)
  go_enter Ybaf.func4, Ybaf.ntmps4
  go_wp2_with fail
  go_region_with (go_at_call 44; refine (be32 w.heap.size 4 4 b4 b5 b6 b7 _ (by simp) (by simp) (by simp) (by simp) (by simp) r4 r5 r6 r7).mono ?_; rintro e w' ⟨rfl, n, rfl⟩; rw [← HL.out])
  go_wp2
  go_ret2
  exact ⟨rfl, by repeat (first | exact Below.refl _ _ | apply below_drewN | apply Below.drew | refine Below.alloc ?_ (by simp; try omega) _)⟩
set_option maxHeartbeats 400000 in
theorem bl_be_bad (F : Interp) (f : Nat) (b0 b1 b2 b3 b4 b5 b6 b7 mn L : Int) (w : World) (hF : F.answers w.tape) (hf : f < w.heap.size)
  (ho : w.cell? ⟨f, 0 + 1, none⟩ = some (.iface 29 (.agg #[])))
  (r0 : 0 ≤ b0 ∧ b0 ≤ 255) (r1 : 0 ≤ b1 ∧ b1 ≤ 255) (r2 : 0 ≤ b2 ∧ b2 ≤ 255) (r3 : 0 ≤ b3 ∧ b3 ≤ 255) 
  (r4 : 0 ≤ b4 ∧ b4 ≤ 255) (r5 : 0 ≤ b5 ∧ b5 ≤ 255) (r6 : 0 ≤ b6 ∧ b6 ≤ 255) (r7 : 0 ≤ b7 ∧ b7 ≤ 255) 
  (HL : Hid (L = b7 + 256 * b6 + 65536 * b5 + 16777216 * b4)) (L0 : 0 ≤ L) (L1 : L < 4294967296) (hg1 : (L % 4 != 0) = true ∨ ((L % 4 != 0) = false ∧ L < mn)) :
    Calls Ybaf.prog 4 #[.pointer (some ⟨f, 0, none⟩), .agg #[.int .u8 b0, .int .u8 b1, .int .u8 b2, .int .u8 b3, .int .u8 b4, .int .u8 b5, .int .u8 b6, .int .u8 b7], .int .u32 mn] w fun e w' => 
      (∃ a, e = .returned (.tuple #[.int .u32 0, .iface 49 (.pointer (some a))])) ∧ Below w.heap.size w w' := by
  have hb1 : f < w.heap.size + 1 := by omega
  have hb2 : f < w.heap.size + 1 + 1 := by omega
  rcases hg1 with hm | ⟨hm, hlt⟩
  all_goals
    go_enter Ybaf.func4, Ybaf.ntmps4
    go_wp2_with fail
    go_region_with (go_at_call 44; refine (be32 w.heap.size 4 4 b4 b5 b6 b7 _ (by simp) (by simp) (by simp) (by simp) (by simp) r4 r5 r6 r7).mono ?_; rintro e w' ⟨rfl, n, rfl⟩; rw [← HL.out])
    go_wp2_with fail
    go_region_with (first | (go_at_call 44; refine (be32 w.heap.size 0 8 b0 b1 b2 b3 _ (by simp; omega) (by simp) (by simp) (by simp) (by simp) r0 r1 r2 r3).mono ?_; rintro e w' ⟨rfl, n, rfl⟩) | (go_at_call 5; go_must (refine (errorf_any F _ (b3 + 256 * b2 + 65536 * b1 + 16777216 * b0) L _ (by exact hF) (cell_fresh _ _ _ _ _ _ (by simp) rfl) (cell_fresh _ _ _ _ _ _ (by simp) rfl)).mono ?_; rintro e w' ⟨rfl, s, rfl⟩)))
    go_wp2
    go_ret2
    exact ⟨⟨_, rfl⟩, by repeat (first | exact Below.refl _ _ | apply below_drewN | apply Below.drew | refine Below.alloc ?_ (by simp; try omega) _)⟩
end Go.Proofs.YbulkecieFmt

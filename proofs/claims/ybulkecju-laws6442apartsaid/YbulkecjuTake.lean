/-
  (*outbox).take where it need not wait.
-/
import Derived.Test.YbulkecjuRest
import Derived.BigRegion
import Derived.Defers
namespace Go.Proofs.Ybulkecju
open Go.RowKit Go.MuLone Own
set_option linter.unusedVariables false

set_option maxHeartbeats 2000000 in
set_option maxRecDepth 100000 in
theorem take_closed (w : World) (ob : Nat) (h0 : w.cell? ⟨ob, 0, none⟩ = some (.int .i32 0)) (f : ∀ k, w.frozen? ⟨ob, k, none⟩ = false) (h13 : w.cell? ⟨ob, 13, none⟩ = some (.bool true)) :
    Calls Yba.prog 6 #[.pointer (some ⟨ob, 0, none⟩)] w fun e w' => e = .returned (.tuple #[.slice none 0 0, .bool false]) ∧ w' = (w.setCell ⟨ob, 0, none⟩ (.int .i32 1)).setCell ⟨ob, 0, none⟩ (.int .i32 0) := by
  have f0 := f 0
  have hl := lock_free Yba.muLib ⟨ob, 0, none⟩ w h0 f0
  have c13 : (w.setCell ⟨ob, 0, none⟩ (.int .i32 1)).cell? ⟨ob, 13, none⟩ = some (.bool true) := (World.cell?_setCell_other _ _ _ _ (by simp)).trans h13
  have HL := (show Hid _ from hl)
  clear hl
  go_enter_defers Yba.func6, Yba.ntmps6
  go_wp2_with fail
  refine Calls.mono HL.out ?_
  rintro e w' ⟨rfl, rfl⟩
  go_wp2_with fail
  refine wp_loop_rounds 1 ?_
  rw [rounds_succ]
  go_wp2_with fail
  show Leaves _ _ _ _ _ _ _
  refine leaves_cons (f := 8) (args := #[.pointer (some ⟨ob, 0, none⟩)]) (by simp) (by simp [go_sem]) ?_
  refine (unlock_deferred Yba.muLib ⟨ob, 0, none⟩ .returning _ ?_ ?_).mono ?_
  · exact World.cell?_setCell_same w ⟨ob, 0, none⟩ (.int .i32 1) h0
  · simp [f0]
  rintro e u' w'' ⟨rfl, rfl, rfl⟩
  exact ⟨_, results_tmp2 rfl _ _ _, rfl, rfl⟩

/-- take's first case with a message: the world behind it. -/
def ownWorld (w : World) (ob g n : Nat) : World :=
  (((((w.setCell ⟨ob, 0, none⟩ (.int .i32 1)).setCell ⟨g, 0, none⟩ (.slice none 0 0)).setCell ⟨ob, 9, none⟩ (.slice (if n = 1 then some ⟨g, 0, none⟩ else some ⟨g, 1, none⟩) (n - 1) (n - 1))).drew).setCell ⟨ob, 8, none⟩ (.pointer (some ⟨ob, 8, none⟩))).setCell ⟨ob, 0, none⟩ (.int .i32 0)

set_option maxHeartbeats 2000000 in
set_option maxRecDepth 100000 in
theorem take_own (w : World) (ob g n : Nat) (x : Value) (ao : Option Addr) (l c : Nat) (hx : x = .slice ao l c) (hn : 0 < n) (hnm : n ≤ 1048576) (hog : ob ≠ g) (h0 : w.cell? ⟨ob, 0, none⟩ = some (.int .i32 0)) (f : ∀ k, w.frozen? ⟨ob, k, none⟩ = false) (fg : w.frozen? ⟨g, 0, none⟩ = false)
    (h13 : w.cell? ⟨ob, 13, none⟩ = some (.bool false)) (h9 : w.cell? ⟨ob, 9, none⟩ = some (.slice (some ⟨g, 0, none⟩) n n)) (hg : w.cell? ⟨g, 0, none⟩ = some x)
    (h3 : w.cell? ⟨ob, 3, none⟩ = some (.int .u32 0)) (h4 : w.cell? ⟨ob, 4, none⟩ = some (.int .u32 0)) (h8 : w.cell? ⟨ob, 8, none⟩ = some (.int .u64 0)) :
    Calls Yba.prog 6 #[.pointer (some ⟨ob, 0, none⟩)] w fun e w' => e = .returned (.tuple #[x, .bool true]) ∧ w' = ownWorld w ob g n := by
  subst hx
  have f0 := f 0
  have f9 := f 9
  have hl := lock_free Yba.muLib ⟨ob, 0, none⟩ w h0 f0
  have HL := (show Hid _ from hl)
  clear hl
  have hgo : g ≠ ob := fun e => hog e.symm
  have c13 : (w.setCell ⟨ob, 0, none⟩ (.int .i32 1)).cell? ⟨ob, 13, none⟩ = some (.bool false) := (World.cell?_setCell_other _ _ _ _ (by simp)).trans h13
  have c9 : (w.setCell ⟨ob, 0, none⟩ (.int .i32 1)).cell? ⟨ob, 9, none⟩ = some (.slice (some ⟨g, 0, none⟩) n n) := (World.cell?_setCell_other _ _ _ _ (by simp)).trans h9
  have cg : (w.setCell ⟨ob, 0, none⟩ (.int .i32 1)).cell? ⟨g, 0, none⟩ = some (.slice ao l c) := (World.cell?_setCell_other _ _ _ _ (by simp)).trans hg
  have z9 : (w.setCell ⟨ob, 0, none⟩ (.int .i32 1)).frozen? ⟨ob, 9, none⟩ = false := by simp [f9]
  have zg : (w.setCell ⟨ob, 0, none⟩ (.int .i32 1)).frozen? ⟨g, 0, none⟩ = false := by simp [fg]
  have hn1 : (0 : Int) < n := by omega
  have hn2 : (1 : Int) ≤ n := by omega
  go_enter_defers Yba.func6, Yba.ntmps6
  go_wp2_with fail
  refine Calls.mono HL.out ?_
  rintro e w' ⟨rfl, rfl⟩
  have HH : Hid (ownWorld w ob g n = ((((((w.setCell ⟨ob, 0, none⟩ (.int .i32 1)).setCell ⟨g, 0, none⟩ (.slice none 0 0)).setCell ⟨ob, 9, none⟩ (.slice (if n = 1 then some ⟨g, 0, none⟩ else some ⟨g, 1, none⟩) (n - 1) (n - 1))).drew).setCell ⟨ob, 8, none⟩ (.pointer (some ⟨ob, 8, none⟩))).setCell ⟨ob, 0, none⟩ (.int .i32 0))) := rfl
  have k0 : (w.setCell ⟨ob, 0, none⟩ (.int .i32 1)).cell? ⟨ob, 0, none⟩ = some (.int .i32 1) := World.cell?_setCell_same w ⟨ob, 0, none⟩ (.int .i32 1) h0
  have k3 : (w.setCell ⟨ob, 0, none⟩ (.int .i32 1)).cell? ⟨ob, 3, none⟩ = some (.int .u32 0) := (World.cell?_setCell_other _ _ _ _ (by simp)).trans h3
  have k4 : (w.setCell ⟨ob, 0, none⟩ (.int .i32 1)).cell? ⟨ob, 4, none⟩ = some (.int .u32 0) := (World.cell?_setCell_other _ _ _ _ (by simp)).trans h4
  have k8 : (w.setCell ⟨ob, 0, none⟩ (.int .i32 1)).cell? ⟨ob, 8, none⟩ = some (.int .u64 0) := (World.cell?_setCell_other _ _ _ _ (by simp)).trans h8
  have zk : ∀ k, (w.setCell ⟨ob, 0, none⟩ (.int .i32 1)).frozen? ⟨ob, k, none⟩ = false := fun k => by simp [f k]
  generalize hgen : (w.setCell ⟨ob, 0, none⟩ (.int .i32 1)) = w1 at *
  clear hgen
  have hz0 := zk 0
  have ZK := (show Hid _ from zk)
  have K0 := (show Hid _ from k0)
  have K3 := (show Hid _ from k3)
  have K4 := (show Hid _ from k4)
  have K8 := (show Hid _ from k8)
  clear zk k0 k3 k4 k8 hz0 h0 h3 h4 h8 f0 f9 fg h13 h9 hg f
  go_wp2_with fail
  refine wp_loop_rounds 1 ?_
  rw [rounds_succ]
  go_wp2_with fail
  go_big_region
  have oth : ∀ k, k ≠ 9 → ((w1.setCell ⟨g, 0, none⟩ (.slice none 0 0)).setCell ⟨ob, 9, none⟩ (.slice (if n = 1 then some ⟨g, 0, none⟩ else some ⟨g, 1, none⟩) (n - 1) (n - 1))).drew.cell? ⟨ob, k, none⟩ = w1.cell? ⟨ob, k, none⟩ := fun k hk =>
    ((World.cell?_setCell_other _ _ _ _ (by first | (simp; done) | (simp; omega))).trans (World.cell?_setCell_other _ _ _ _ (by simp)))
  have ofz : ∀ k, ((w1.setCell ⟨g, 0, none⟩ (.slice none 0 0)).setCell ⟨ob, 9, none⟩ (.slice (if n = 1 then some ⟨g, 0, none⟩ else some ⟨g, 1, none⟩) (n - 1) (n - 1))).drew.frozen? ⟨ob, k, none⟩ = false := fun k => by simp [ZK.out k]
  have HBC := (show Hid _ from broadcast_first ob 2 _ ((oth 8 (by omega)).trans K8.out) (ofz 8) ((oth 3 (by omega)).trans K3.out) ((oth 4 (by omega)).trans K4.out))
  have J0 := (show Hid _ from (oth 0 (by omega)).trans K0.out)
  have JZ := (show Hid _ from ofz 0)
  clear oth ofz
  generalize ((w1.setCell ⟨g, 0, none⟩ (.slice none 0 0)).setCell ⟨ob, 9, none⟩ (.slice (if n = 1 then some ⟨g, 0, none⟩ else some ⟨g, 1, none⟩) (n - 1) (n - 1))).drew = w2 at *
  go_wp2_with fail
  all_goals (refine Calls.mono HBC.out ?_; rintro e w' ⟨rfl, rfl⟩; go_wp2_with fail)
  all_goals show Leaves _ _ _ _ _ _ _
  all_goals refine leaves_cons (f := 8) (args := #[.pointer (some ⟨ob, 0, none⟩)]) (by simp) (by simp [go_sem]) ?_
  all_goals refine (unlock_deferred Yba.muLib ⟨ob, 0, none⟩ .returning _ ((World.cell?_setCell_other _ _ _ _ (by simp)).trans J0.out) (by simp [JZ.out])).mono ?_
  all_goals rintro e u' w'' ⟨rfl, rfl, rfl⟩
  all_goals exact ⟨_, results_tmp2 rfl _ _ _, rfl, HH.out.symm⟩
set_option maxHeartbeats 2000000 in
set_option maxRecDepth 100000 in
theorem take_tell (w : World) (ob : Nat) (r : Int) (ov : Option Addr) (oc : Nat) (h0 : w.cell? ⟨ob, 0, none⟩ = some (.int .i32 0)) (f : ∀ k, w.frozen? ⟨ob, k, none⟩ = false)
    (hr : 0 ≤ r ∧ r < 18446744073709551616) (td : Int)
    (h13 : w.cell? ⟨ob, 13, none⟩ = some (.bool false)) (h9 : w.cell? ⟨ob, 9, none⟩ = some (.slice ov 0 oc)) (h12 : w.cell? ⟨ob, 12, none⟩ = some (.bool true)) (h16 : w.cell? ⟨ob, 16, none⟩ = some (.bool true))
    (h14 : w.cell? ⟨ob, 14, none⟩ = some (.int .u64 r)) (h15 : w.cell? ⟨ob, 15, none⟩ = some (.int .u64 td)) :
    Calls Yba.prog 6 #[.pointer (some ⟨ob, 0, none⟩)] w fun e w' => ∃ g1 c1 w3, e = .returned (.tuple #[.slice (some ⟨g1, 0, none⟩) 9 c1, .bool true]) ∧ Byt w3 (.slice (some ⟨g1, 0, none⟩) 9 c1) (takenB r) ∧
      Below w.heap.size (((w.setCell ⟨ob, 0, none⟩ (.int .i32 1)).setCell ⟨ob, 16, none⟩ (.bool false)).setCell ⟨ob, 15, none⟩ (.int .u64 r)) w3 ∧ w' = w3.setCell ⟨ob, 0, none⟩ (.int .i32 0) := by
  have hob : ob < w.heap.size := World.block_lt_of_cell? w _ h0
  have f0 := f 0
  have f15 := f 15
  have f16 := f 16
  have hl := lock_free Yba.muLib ⟨ob, 0, none⟩ w h0 f0
  have HL := (show Hid _ from hl)
  clear hl
  go_enter_defers Yba.func6, Yba.ntmps6
  go_wp2_with fail
  refine Calls.mono HL.out ?_
  rintro e w' ⟨rfl, rfl⟩
  have c13 : (w.setCell ⟨ob, 0, none⟩ (.int .i32 1)).cell? ⟨ob, 13, none⟩ = some (.bool false) := (World.cell?_setCell_other _ _ _ _ (by simp)).trans h13
  go_wp2_with fail
  refine wp_loop_rounds 1 ?_
  rw [rounds_succ]
  go_wp2_with fail
  refine Calls.mono (encode_any r _ hr) ?_
  rintro e w3 ⟨g1, c1, rfl, hb, hB⟩
  have hB' : Below w.heap.size (((w.setCell ⟨ob, 0, none⟩ (.int .i32 1)).setCell ⟨ob, 16, none⟩ (.bool false)).setCell ⟨ob, 15, none⟩ (.int .u64 r)) w3 := by
    have e : (((w.setCell ⟨ob, 0, none⟩ (.int .i32 1)).setCell ⟨ob, 16, none⟩ (.bool false)).setCell ⟨ob, 15, none⟩ (.int .u64 r)).heap.size = w.heap.size := by simp [World.setCell]
    rw [e] at hB; exact hB
  have j0 : w3.cell? ⟨ob, 0, none⟩ = some (.int .i32 1) := by
    rw [hB'.cell (p := ⟨ob, 0, none⟩) hob]
    exact (World.cell?_setCell_other _ _ _ _ (by simp)).trans ((World.cell?_setCell_other _ _ _ _ (by simp)).trans (World.cell?_setCell_same w ⟨ob, 0, none⟩ (.int .i32 1) h0))
  have jz : w3.frozen? ⟨ob, 0, none⟩ = false := by
    rw [hB'.frozen (p := ⟨ob, 0, none⟩) hob]
    simp [f0]
  have J := (show Hid _ from And.intro hb (And.intro hB' (And.intro j0 jz)))
  clear hb hB hB' j0 jz
  go_wp2_with fail
  show Leaves _ _ _ _ _ _ _
  refine leaves_cons (f := 8) (args := #[.pointer (some ⟨ob, 0, none⟩)]) (by simp) (by simp [go_sem]) ?_
  refine (unlock_deferred Yba.muLib ⟨ob, 0, none⟩ .returning _ J.out.2.2.1 J.out.2.2.2).mono ?_
  rintro e u' w'' ⟨rfl, rfl, rfl⟩
  exact ⟨_, results_tmp2 rfl _ _ _, g1, c1, w3, rfl, J.out.1, J.out.2.1, rfl⟩
end Go.Proofs.Ybulkecju

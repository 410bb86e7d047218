/-
  (*outbox).take of the program's message.
-/
import Derived.Test.YbulkecjuTake
namespace Go.Proofs.Ybulkecju
open Go.RowKit Go.MuLone Own
set_option linter.unusedVariables false

def progWorld (w : World) (ob g n : Nat) (wt : Int) : World :=
  ((((w.setCell ⟨ob, 0, none⟩ (.int .i32 1)).setCell ⟨g, 0, none⟩ (.slice none 0 0)).setCell ⟨ob, 10, none⟩ (.slice (if n = 1 then some ⟨g, 0, none⟩ else some ⟨g, 1, none⟩) (n - 1) (n - 1))).drew.setCell ⟨ob, 11, none⟩ (.int .i64 wt)).setCell ⟨ob, 0, none⟩ (.int .i32 0)

set_option maxHeartbeats 2000000 in
set_option maxRecDepth 100000 in
theorem take_prog (w : World) (ob g n : Nat) (x : Value) (ao : Option Addr) (l c : Nat) (wt : Int) (ov : Option Addr) (oc : Nat) (hx : x = .slice ao l c) (hll : l ≤ 140737488351232) (hn : 0 < n) (hnm : n ≤ 1048576) (hog : ob ≠ g) (h0 : w.cell? ⟨ob, 0, none⟩ = some (.int .i32 0)) (f : ∀ k, w.frozen? ⟨ob, k, none⟩ = false) (fg : w.frozen? ⟨g, 0, none⟩ = false)
    (h13 : w.cell? ⟨ob, 13, none⟩ = some (.bool false)) (h9 : w.cell? ⟨ob, 9, none⟩ = some (.slice ov 0 oc)) (h12 : w.cell? ⟨ob, 12, none⟩ = some (.bool true)) (h16 : w.cell? ⟨ob, 16, none⟩ = some (.bool false))
    (h10 : w.cell? ⟨ob, 10, none⟩ = some (.slice (some ⟨g, 0, none⟩) n n)) (hg : w.cell? ⟨g, 0, none⟩ = some x) (h11 : w.cell? ⟨ob, 11, none⟩ = some (.int .i64 wt)) :
    Calls Yba.prog 6 #[.pointer (some ⟨ob, 0, none⟩)] w fun e w' => e = .returned (.tuple #[x, .bool true]) ∧ w' = progWorld w ob g n (wrap64 (wt - ((l : Int) - 2))) := by
  subst hx
  have f0 := f 0
  have hl := lock_free Yba.muLib ⟨ob, 0, none⟩ w h0 f0
  have HL := (show Hid _ from hl)
  clear hl
  have hgo : g ≠ ob := fun e => hog e.symm
  have oc1 : ∀ k, k ≠ 0 → (w.setCell ⟨ob, 0, none⟩ (.int .i32 1)).cell? ⟨ob, k, none⟩ = w.cell? ⟨ob, k, none⟩ := fun k hk => World.cell?_setCell_other _ _ _ _ (by first | (simp; done) | (simp; omega))
  have c13 := (oc1 13 (by omega)).trans h13
  have c9 := (oc1 9 (by omega)).trans h9
  have c12 := (oc1 12 (by omega)).trans h12
  have c16 := (oc1 16 (by omega)).trans h16
  have c10 := (oc1 10 (by omega)).trans h10
  have c11 := (oc1 11 (by omega)).trans h11
  have cg : (w.setCell ⟨ob, 0, none⟩ (.int .i32 1)).cell? ⟨g, 0, none⟩ = some (.slice ao l c) := (World.cell?_setCell_other _ _ _ _ (by simp)).trans hg
  have z10 : (w.setCell ⟨ob, 0, none⟩ (.int .i32 1)).frozen? ⟨ob, 10, none⟩ = false := by simp [f 10]
  have zg : (w.setCell ⟨ob, 0, none⟩ (.int .i32 1)).frozen? ⟨g, 0, none⟩ = false := by simp [fg]
  have K0 : Hid ((w.setCell ⟨ob, 0, none⟩ (.int .i32 1)).cell? ⟨ob, 0, none⟩ = some (.int .i32 1)) := World.cell?_setCell_same w ⟨ob, 0, none⟩ (.int .i32 1) h0
  have ZK : Hid (∀ k, (w.setCell ⟨ob, 0, none⟩ (.int .i32 1)).frozen? ⟨ob, k, none⟩ = false) := fun k => by simp [f k]
  have HH : Hid (progWorld w ob g n (wrap64 (wt - ((l : Int) - 2))) = ((((w.setCell ⟨ob, 0, none⟩ (.int .i32 1)).setCell ⟨g, 0, none⟩ (.slice none 0 0)).setCell ⟨ob, 10, none⟩ (.slice (if n = 1 then some ⟨g, 0, none⟩ else some ⟨g, 1, none⟩) (n - 1) (n - 1))).drew.setCell ⟨ob, 11, none⟩ (.int .i64 (wrap64 (wt - ((l : Int) - 2))))).setCell ⟨ob, 0, none⟩ (.int .i32 0)) := rfl
  generalize progWorld w ob g n (wrap64 (wt - ((l : Int) - 2))) = PW at *
  have hn1 : (0 : Int) < n := by omega
  have hn2 : (1 : Int) ≤ n := by omega
  clear oc1 h13 h9 h12 h16 h10 hg h11 h0 f fg f0
  go_enter_defers Yba.func6, Yba.ntmps6
  go_wp2_with fail
  refine Calls.mono HL.out ?_
  rintro e w' ⟨rfl, rfl⟩
  generalize (w.setCell ⟨ob, 0, none⟩ (.int .i32 1)) = w1 at *
  clear HL
  go_wp2_with fail
  refine wp_loop_rounds 1 ?_
  rw [rounds_succ]
  go_wp2_with fail
  go_big_region
  have oth : ∀ k, k ≠ 10 → ((w1.setCell ⟨g, 0, none⟩ (.slice none 0 0)).setCell ⟨ob, 10, none⟩ (.slice (if n = 1 then some ⟨g, 0, none⟩ else some ⟨g, 1, none⟩) (n - 1) (n - 1))).drew.cell? ⟨ob, k, none⟩ = w1.cell? ⟨ob, k, none⟩ := fun k hk =>
    ((World.cell?_setCell_other _ _ _ _ (by first | (simp; done) | (simp; omega))).trans (World.cell?_setCell_other _ _ _ _ (by simp)))
  have ofz : ∀ k, ((w1.setCell ⟨g, 0, none⟩ (.slice none 0 0)).setCell ⟨ob, 10, none⟩ (.slice (if n = 1 then some ⟨g, 0, none⟩ else some ⟨g, 1, none⟩) (n - 1) (n - 1))).drew.frozen? ⟨ob, k, none⟩ = false := fun k => by simp [ZK.out k]
  have d11 := (oth 11 (by omega)).trans c11
  have z11 := ofz 11
  have J0 := (show Hid _ from (oth 0 (by omega)).trans K0.out)
  have JZ := (show Hid _ from ofz 0)
  clear oth ofz c13 c9 c12 c16 c10 c11 cg z10 zg
  generalize ((w1.setCell ⟨g, 0, none⟩ (.slice none 0 0)).setCell ⟨ob, 10, none⟩ (.slice (if n = 1 then some ⟨g, 0, none⟩ else some ⟨g, 1, none⟩) (n - 1) (n - 1))).drew = w2 at *
  go_wp2_with fail
  all_goals show Leaves _ _ _ _ _ _ _
  all_goals refine leaves_cons (f := 8) (args := #[.pointer (some ⟨ob, 0, none⟩)]) (by simp) (by simp [go_sem]) ?_
  all_goals refine (unlock_deferred Yba.muLib ⟨ob, 0, none⟩ .returning _ ((World.cell?_setCell_other _ _ _ _ (by simp)).trans J0.out) (by simp [JZ.out])).mono ?_
  all_goals rintro e u' w'' ⟨rfl, rfl, rfl⟩
  all_goals exact ⟨_, results_tmp2 rfl _ _ _, rfl, HH.out.symm⟩
end Go.Proofs.Ybulkecju

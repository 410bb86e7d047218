/-
  plan of no values; zzs6436bsame.
-/
import Derived.Test.YbulkecgoDoorPlan
import Derived.Lib.SliceRun
import Derived.LaidEqlPtr
namespace Go.Proofs.YbulkecgoDoor
open Go.RowKit Go.Shelf _root_.Go.Proofs.YbulkecgoDoor.Own
set_option linter.unusedVariables false
set_option maxRecDepth 100000

theorem exL_zero : exL (fun _ => 0) 0 = 1 := by unfold exL xs8; rw [uvl_small (by omega)]
theorem dln_zero (D : Nat → Int) : dln D 0 0 = 1 := by unfold dln hdL; rw [frs_ge (by omega)]

def zSc (va : Option Addr) (vc k : Nat) (ia : Option Addr) (C : Nat) (ea : Option Addr) (X q : Nat) : Value := if q = 0 then .slice va 0 vc else if q = 1 then .int .i64 k else if q = 2 then .int .i64 0 else if q = 3 then .slice ia 0 C else if q = 4 then .slice ea 0 X else .int .i64 2
def iSc (u0 u1 u2 u3 u4 u5 : Value) (q : Nat) : Value := if q = 0 then u0 else if q = 1 then u1 else if q = 2 then u2 else if q = 3 then u3 else if q = 4 then u4 else u5
/-- Six cells of one block, written one after the other. -/
theorem six_set {w : World} {sb : Nat} {Sc : Nat → Value} (hc : ∀ q, q < 6 → w.cell? ⟨sb, q, none⟩ = some (Sc q)) (v0 v1 v2 v3 v4 v5 : Value) :
    ∀ q, q < 6 → ((((((w.setCell ⟨sb, 0, none⟩ v0).setCell ⟨sb, 1, none⟩ v1).setCell ⟨sb, 2, none⟩ v2).setCell ⟨sb, 3, none⟩ v3).setCell ⟨sb, 4, none⟩ v4).setCell ⟨sb, 5, none⟩ v5).cell? ⟨sb, q, none⟩ = some (iSc v0 v1 v2 v3 v4 v5 q) := by
  have one : ∀ {w : World} {Sc : Nat → Value}, (∀ q, q < 6 → w.cell? ⟨sb, q, none⟩ = some (Sc q)) → ∀ (p : Nat) (v : Value), ∀ q, q < 6 → (w.setCell ⟨sb, p, none⟩ v).cell? ⟨sb, q, none⟩ = some (if q = p then v else Sc q) := by
    intro w Sc hc p v q hq
    by_cases e : q = p
    · subst e; rw [if_pos rfl]; exact World.cell?_setCell_same w _ _ (hc q hq)
    · rw [if_neg e, ← hc q hq]; exact World.cell?_setCell_other _ _ _ _ (by intro h; injection h with _ h; exact e h.symm)
  intro q hq
  rw [one (one (one (one (one (one hc 0 v0) 1 v1) 2 v2) 3 v3) 4 v4) 5 v5 q hq]
  have : q = 0 ∨ q = 1 ∨ q = 2 ∨ q = 3 ∨ q = 4 ∨ q = 5 := by omega
  rcases this with rfl | rfl | rfl | rfl | rfl | rfl <;> rfl

set_option maxHeartbeats 4000000 in
theorem plan_zero (w : World) (B0 sb vc ib C X k : Nat) (va ia ea : Option Addr) (lim : Int) (u0 u1 u2 u5 : Value) (hC : C ≤ 65536) (hB : B0 ≤ w.heap.size) (hsb : sb < w.heap.size) (hsb0 : B0 ≤ sb)
    (HU : Hid (∀ q, q < 6 → w.cell? ⟨sb, q, none⟩ = some (if q = 0 then u0 else if q = 1 then u1 else if q = 2 then u2 else if q = 3 then .slice ia C C else if q = 4 then .slice ea X X else u5)))
    (hfs : ∀ q, w.frozen? ⟨sb, q, none⟩ = false) (hia : ia = some ⟨ib, 0, none⟩ ∨ (ia = none ∧ C = 0)) (hea : ea = none → X = 0) (hva : va = none → vc = 0) :
    Calls Ybad.prog 10 #[.pointer (some ⟨sb, 0, none⟩), .slice va 0 vc, .int .i64 k, .int .i64 lim] w fun e w' => e = .returned (.bool (decide (2 < lim))) ∧ Below B0 w w' ∧
      ∀ q, q < 6 → w'.cell? ⟨sb, q, none⟩ = some (zSc va vc k ia C ea X q) := by
  have c3 := HU.out 3 (by omega)
  have c4 := HU.out 4 (by omega)
  simp only [Nat.reduceEqDiff, if_false, if_true] at c3 c4
  have hC0 : (0 : Int) ≤ C := by omega
  have hX0 : (0 : Int) ≤ X := by omega
  have KG := (show Hid _ from grow_keeps ia C 0 w hC (by omega))
  have KD : Hid (Calls Ybad.prog 23 #[.slice ia 0 C, .int .i64 0] w fun e w' => e = .returned (.int .i64 1) ∧ Below w.heap.size w w') := by
    have := differencedLen_walk ia ib 0 0 C 0 (fun _ => 0) w (by omega) (by omega) (by omega) (by omega) (by omega) (by rcases hia with h | ⟨h, h'⟩; exact .inl h; exact .inr ⟨h, rfl, h'⟩) (fun i hi => by omega) (fun i hi => by omega)
    rw [dln_zero] at this
    exact this
  have KE : Hid (∀ W : World, Calls Ybad.prog 26 #[.slice ea 0 X] W fun e w' => e = .returned (.int .i64 1) ∧ w' = W) := fun W => by
    have := exceptionsLen_walk ea 0 0 0 X (fun _ => 0) W (by omega) (by omega) (fun i hi => by omega) (fun i hi => by omega)
    rw [exL_zero] at this
    exact this
  have hic : ia = none → C = 0 := by
    intro h
    rcases hia with h' | ⟨_, h'⟩
    · rw [h'] at h; cases h
    · exact h'
  clear hia
  go_enter Ybad.func10, Ybad.ntmps10
  go_wp2_with fail
  refine Calls.mono KG.out ?_
  rintro e w1 ⟨rfl, hw1⟩
  obtain rfl : w = w1 := hw1.symm
  go_wp2_with fail
  refine wp_loop_rounds 1 ?_
  rw [rounds_succ]
  go_wp2_with fail
  refine Calls.mono KD.out ?_
  rintro e w2 ⟨rfl, hb2⟩
  have HB2 := (show Hid _ from hb2)
  have hcs : ∀ q, q < 6 → w2.cell? ⟨sb, q, none⟩ = some (iSc u0 u1 u2 (.slice ia C C) (.slice ea X X) u5 q) := fun q hq => (hb2.cell (p := ⟨sb, q, none⟩) hsb).trans (HU.out q hq)
  have HCS := (show Hid _ from hcs)
  have k0 := hcs 0 (by omega)
  have k1 := hcs 1 (by omega)
  have k2 := hcs 2 (by omega)
  have k3 := hcs 3 (by omega)
  have k4 := hcs 4 (by omega)
  have k5 := hcs 5 (by omega)
  have fz := fun q => (hb2.frozen (p := ⟨sb, q, none⟩) hsb).trans (hfs q)
  have f0 := fz 0
  have f1 := fz 1
  have f2 := fz 2
  have f3 := fz 3
  have f4 := fz 4
  have f5 := fz 5
  clear hb2 hcs fz c3 c4
  go_wp2_with fail
  refine wp_loop_rounds 1 ?_
  rw [rounds_succ]
  go_wp2_with fail
  refine wp_loop_rounds 1 ?_
  rw [rounds_succ]
  go_wp2_with fail
  refine Calls.mono (KE.out w2) ?_
  rintro e w3 ⟨rfl, hw3⟩
  obtain rfl : w2 = w3 := hw3.symm
  go_wp2_with fail
  go_ret
  refine ⟨rfl, ((((((HB2.out.mono hB).setCell hsb0 _).setCell hsb0 _).setCell hsb0 _).setCell hsb0 _).setCell hsb0 _).setCell hsb0 _, ?_⟩
  exact six_set HCS.out _ _ _ _ _ _

theorem info25 : (Ybad.prog.info? 25).map (fun i => (i.zero, i.size, i.bytes)) = some (some (.float .f64 0), 1, 8) := by kernel_rfl
theorem eq23 (a : Option Addr) (n c : Nat) (w : World) : (binOp .eql 23 (.slice a n c) (.slice none 0 0)).run Ybad.prog w = .ok (.bool a.isNone) w := Lib.run_eql_slice_nil w 23 25 a n c 0 0 Ybad.underlying23

set_option maxHeartbeats 1000000 in
theorem bsame_walk (a : Option Addr) (b o l c : Nat) (w : World) (hl : l ≤ 65536) (ha : 0 < l → a = some ⟨b, o, none⟩) :
    Calls Ybad.prog 12 #[.slice a l c, .slice a l c] w fun e w' => e = .returned (.bool true) ∧ w' = w.drew := by
  have H := @eq23
  obtain ⟨j0, hj, _, _, _⟩ := info_parts info25
  have hps := fun (w : World) (a : Addr) => run_eql_ptr_same (P := Ybad.prog) w a Ybad.underlying58 hj
  by_cases h0 : l = 0
  · subst h0
    go_enter Ybad.func12, Ybad.ntmps12
    go_wp2_with fail
    go_big_region
    go_wp2_with fail
    go_ret
    exact ⟨rfl, rfl⟩
  · have h1 : ((l : Int) == 0) = false := beq_false_of_ne (by omega)
    have h2 : (0 : Int) < l := by omega
    obtain rfl := ha (by omega)
    go_enter Ybad.func12, Ybad.ntmps12
    go_wp2_with fail
    go_big_region
    go_wp2_with fail
    go_ret
    exact ⟨rfl, rfl⟩
end Go.Proofs.YbulkecgoDoor

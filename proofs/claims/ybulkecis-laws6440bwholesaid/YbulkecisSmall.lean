/-
  The small functions of rebuild's road: resize, the budget, out, the empty index, the empty closure.
-/
import Derived.Test.YbulkecisArcOwn
import Derived.Test.YbulkecisNewWalk
import Derived.Lib.SliceRun
import Derived.Outline
namespace Go.Proofs.Ybulkecis
open Go.RowKit _root_.Go.Proofs.Ybulkecis.Own
set_option linter.unusedVariables false
set_option maxRecDepth 100000

theorem resize_int (w : World) (n : Nat) (hn : n ≤ 100000) :
    Calls Yba.prog 8 #[.slice none 0 0, .int .i64 n] w fun e w' => ∃ ao, e = .returned (.slice ao n n) ∧ OwnV w' 3 (.slice ao n n) (il n fun _ => 0) ∧ Below w.heap.size w w' ∧ ∀ g, (Value.slice ao n n).ownBlock = some g → w.heap.size ≤ g ∧ 0 < n := by
  obtain ⟨i3, a3, b3, c3, d3⟩ := info_parts info3
  have J3 := (show Hid _ from And.intro a3 (And.intro b3 (And.intro c3 d3)))
  clear a3 b3 c3 d3
  by_cases h0 : n = 0
  · subst h0
    go_enter Yba.func8, Yba.ntmps8
    go_wp2_with fail
    go_ret
    exact ⟨none, rfl, OwnV.nil _ _, Below.refl _ _, fun g hg => by simp [Value.ownBlock] at hg⟩
  · have h1 : ¬ ((n : Int) ≤ 0) := by omega
    have h2 : ¬ ((0 : Int) ≥ (n : Int)) := by omega
    clear h0
    go_enter Yba.func8, Yba.ntmps8
    go_wp2_with (at_make; refine wpList_make_v _ rfl _ _ 22 rfl 3 i3 (.int .i64 0) Yba.underlying22 J3.out.1 J3.out.2.1 J3.out.2.2.1 rfl _ _ _ _ n n rfl rfl rfl rfl (Nat.le_refl _) (by rw [J3.out.2.2.2]; omega) (by omega) ?_)
    go_ret
    exact ⟨some ⟨w.heap.size, 0, none⟩, rfl, made_il w n (by omega) _ (fun _ _ => rfl), (Below.refl _ _).alloc (Nat.le_refl _) _, fun g hg => ⟨by simp [Value.ownBlock] at hg; omega, by omega⟩⟩

theorem resize_bool (w : World) (n : Nat) (hn : n ≤ 100000) :
    Calls Yba.prog 10 #[.slice none 0 0, .int .i64 n] w fun e w' => ∃ ao, e = .returned (.slice ao n n) ∧ OwnV w' 4 (.slice ao n n) (bl n fun _ => false) ∧ Below w.heap.size w w' ∧ ∀ g, (Value.slice ao n n).ownBlock = some g → w.heap.size ≤ g ∧ 0 < n := by
  obtain ⟨i3, a3, b3, c3, d3⟩ := info_parts info4
  have J3 := (show Hid _ from And.intro a3 (And.intro b3 (And.intro c3 d3)))
  clear a3 b3 c3 d3
  by_cases h0 : n = 0
  · subst h0
    go_enter Yba.func10, Yba.ntmps10
    go_wp2_with fail
    go_ret
    exact ⟨none, rfl, OwnV.nil _ _, Below.refl _ _, fun g hg => by simp [Value.ownBlock] at hg⟩
  · have h1 : ¬ ((n : Int) ≤ 0) := by omega
    have h2 : ¬ ((0 : Int) ≥ (n : Int)) := by omega
    clear h0
    go_enter Yba.func10, Yba.ntmps10
    go_wp2_with (at_make; refine wpList_make_v _ rfl _ _ 28 rfl 4 i3 (.bool false) Yba.underlying28 J3.out.1 J3.out.2.1 J3.out.2.2.1 rfl _ _ _ _ n n rfl rfl rfl rfl (Nat.le_refl _) (by rw [J3.out.2.2.2]; omega) (by omega) ?_)
    go_ret
    exact ⟨some ⟨w.heap.size, 0, none⟩, rfl, made_bl w n (by omega) _ (fun _ _ => rfl), (Below.refl _ _).alloc (Nat.le_refl _) _, fun g hg => ⟨by simp [Value.ownBlock] at hg; omega, by omega⟩⟩

theorem info63 : (Yba.prog.info? 62).map (fun i => (i.zero, i.size, i.bytes)) = some (some (.agg #[.int .i64 0, .int .i64 0, .int .i64 0]), 3, 24) := by kernel_rfl

theorem charge_walk (w : World) (bb : Nat) (k m : Int) (hc : w.cell? ⟨bb, 0, none⟩ = some (.int .i64 k)) (hf : w.frozen? ⟨bb, 0, none⟩ = false) (h0 : 0 ≤ k) (h1 : k ≤ 100000000) (h2 : 0 ≤ m) (h3 : m ≤ 100000000) :
    Calls Yba.prog 18 #[.pointer (some ⟨bb, 0, none⟩), .int .i64 m] w fun e w' => e = .returned (.tuple #[]) ∧ w' = w.setCell ⟨bb, 0, none⟩ (.int .i64 (k + m)) := by
  go_enter Yba.func18, Yba.ntmps18
  go_wp2_with fail
  go_end0
  exact ⟨rfl, rfl⟩

/-- One place turned. -/
def upd (f : Nat → Value) (i : Nat) (v : Value) (k : Nat) : Value := if k = i then v else f k
theorem upd_at (f : Nat → Value) (i : Nat) (v : Value) : upd f i v i = v := by unfold upd; rw [if_pos rfl]
theorem upd_ne (f : Nat → Value) {i k : Nat} (v : Value) (h : k ≠ i) : upd f i v k = f k := by unfold upd; rw [if_neg h]
/-- The propagator at block b. -/
structure Pg (w : World) (b : Nat) (f : Nat → Value) : Prop where
  c : ∀ i, i < 111 → w.cell? ⟨b, i, none⟩ = some (f i)
  z : ∀ i, w.frozen? ⟨b, i, none⟩ = false
  lt : b < w.heap.size
theorem Pg.frame {w w' : World} {b : Nat} {f : Nat → Value} (h : Pg w b f) (hs : w.heap.size ≤ w'.heap.size) (hb : w'.heap[b]? = w.heap[b]?) : Pg w' b f :=
  ⟨fun i hi => (cell_of_block hb).trans (h.c i hi), fun i => (World.frozen?_of_block hb).trans (h.z i), Nat.lt_of_lt_of_le h.lt hs⟩
theorem Pg.below {w w' : World} {b : Nat} {f : Nat → Value} (h : Pg w b f) (hb : Below w.heap.size w w') : Pg w' b f := h.frame hb.size (hb.block _ h.lt)
theorem Pg.set {w : World} {b : Nat} {f : Nat → Value} (h : Pg w b f) (i : Nat) (v : Value) (hi : i < 111) : Pg (w.setCell ⟨b, i, none⟩ v) b (upd f i v) := by
  refine ⟨fun k hk => ?_, fun k => ?_, ?_⟩
  · by_cases e : k = i
    · subst e
      rw [World.cell?_setCell_same _ _ _ (h.c k hk), upd_at]
    · rw [World.cell?_setCell_other _ _ _ _ (by intro h; simp only [Addr.mk.injEq] at h; omega), upd_ne _ _ e]
      exact h.c k hk
  · have := h.z k
    simp [this]
  · have := h.lt
    simpa [World.setCell] using this
theorem Pg.at {w : World} {b : Nat} {f : Nat → Value} (h : Pg w b f) (i : Nat) {v : Value} (e : f i = v) (hi : i < 111) : w.cell? ⟨b, i, none⟩ = some v := by rw [h.c i hi, e]

set_option maxHeartbeats 1000000 in
theorem out_walk (w : World) (b : Nat) (f : Nat → Value) (v n gp go gl cp co cl : Nat) (P T : Nat) (H : Pg w b f) (h5 : f 5 = .slice (some ⟨gp, 0, none⟩) n cp) (h6 : f 6 = .slice (some ⟨go, 0, none⟩) (n + 1) co) (h7 : f 7 = .slice (some ⟨gl, 0, none⟩) T cl)
    (hv : v < n) (hp : w.cell? ⟨gp, v, none⟩ = some (.int .i64 v)) (s0 s1 : Nat) (ho : w.cell? ⟨go, v, none⟩ = some (.int .i64 s0)) (ho1 : w.cell? ⟨go, v + 1, none⟩ = some (.int .i64 s1)) (h01 : s0 ≤ s1) (h1T : s1 ≤ T) (hT : T ≤ cl) (hT2 : T ≤ 100000) (hn : n ≤ 1000) :
    Calls Yba.prog 17 #[.pointer (some ⟨b, 0, none⟩), .int .i64 v] w fun e w' => ∃ o, e = .returned (.slice (some ⟨gl, o, none⟩) (s1 - s0) (cl - s0)) ∧ (s0 < s1 → o = s0) ∧ w' = w.drew := by
  have c5 := H.at 5 h5 (by decide)
  have c6 := H.at 6 h6 (by decide)
  have c7 := H.at 7 h7 (by decide)
  clear h5 h6 h7 H
  have i0 : (v : Int) < (n : Int) := by omega
  have i1 : (v : Int) < (n : Int) + 1 := by omega
  have i2 : (v : Int) + 1 < (n : Int) + 1 := by omega
  have e1 : ((v : Int) + 1).toNat = v + 1 := by omega
  have k1 : (s0 : Int) ≤ (s1 : Int) := by omega
  have k2 : (s1 : Int) ≤ (cl : Int) := by omega
  go_enter Yba.func17, Yba.ntmps17
  go_wp2_with fail
  go_big_region
  all_goals go_wp2_with fail
  all_goals go_ret
  · exact ⟨0, rfl, fun h => by omega, rfl⟩
  · exact ⟨s0, rfl, fun _ => rfl, rfl⟩

abbrev plan0 : Value := .agg #[.int .i64 0, .int .i64 0, .bool false, .int .i64 0, .int .i64 0, .int .i64 0, .bool false]
theorem work_zero (w : World) :
    Calls Yba.prog 24 #[plan0] w fun e w' => e = .returned (.int .i64 0) ∧ Below w.heap.size w w' := by
  go_enter Yba.func24, Yba.ntmps24
  go_wp2_with fail
  go_ret
  exact ⟨rfl, (Below.refl _ _).alloc (Nat.le_refl _) _⟩

theorem orders_zero (w : World) :
    Calls Yba.prog 23 #[plan0, .int .i64 0] w fun e w' => e = .returned plan0 ∧ Below w.heap.size w w' := by
  go_enter Yba.func23, Yba.ntmps23
  go_wp2_with fail
  refine bodyPost_ret (v := plan0) (by simp [results, Yba.results23, go_sem]) rfl ⟨rfl, ?_⟩
  exact ((Below.refl _ _).alloc (Nat.le_refl _) _).alloc (by simp) _

theorem clear34 (w : World) (ty : TypeId) : (Builtin.clear_ #[34] ty #[.slice none 0 0]).run Yba.prog w = .ok (.tuple #[]) w := by
  simp [Builtin.clear_, run_underlying Yba.underlying34]
theorem clear28 (w : World) (ty : TypeId) : (Builtin.clear_ #[28] ty #[.slice none 0 0]).run Yba.prog w = .ok (.tuple #[]) w := by
  simp [Builtin.clear_, run_underlying Yba.underlying28]
attribute [local go_sem] clear34 clear28

set_option maxHeartbeats 1000000 in
theorem reset_zero (w : World) (b o : Nat) (f : Nat → Value) (H : Pg w b f) (ho : o + 1 < 111) (h0 : f o = .int .i64 0) (h1 : f (o + 1) = .slice none 0 0) :
    Calls Yba.prog 36 #[.pointer (some ⟨b, o, none⟩), .int .i64 0, .int .i64 0] w fun e w' => e = .returned (.tuple #[]) ∧ Pg w' b (upd (upd f o (.int .i64 0)) (o + 1) (.slice none 0 0)) ∧ Only (fun k => k = b) w w' := by
  have c0 := H.at o h0 (by omega)
  have c1 := H.at (o + 1) h1 (by omega)
  have f0 := H.z o
  have f1 := H.z (o + 1)
  have HF := (show Hid _ from And.intro ((H.set o (.int .i64 0) (by omega)).set (o + 1) (.slice none 0 0) (by omega)) (((Only.refl (fun k => k = b) w).setCell ⟨b, o, none⟩ (.int .i64 0) fun _ => rfl).setCell ⟨b, o + 1, none⟩ (.slice none 0 0) fun _ => rfl))
  clear H h0 h1
  go_enter Yba.func36, Yba.ntmps36
  go_wp2_with fail
  go_end0
  exact ⟨rfl, HF.out.1, HF.out.2⟩

theorem clear2 (w : World) (ty : TypeId) (g : Nat) (hc0 : w.cell? ⟨g, 0, none⟩ = some (.int .i64 0)) (hc1 : w.cell? ⟨g, 1, none⟩ = some (.int .i64 0)) (hf : ∀ j, w.frozen? ⟨g, j, none⟩ = false) :
    (Builtin.clear_ #[22] ty #[.slice (some ⟨g, 0, none⟩) 2 2]).run Yba.prog w = .ok (.tuple #[]) (w.setCells g 0 [.int .i64 0, .int .i64 0]) := by
  obtain ⟨i3, a3, b3, c3, d3⟩ := info_parts info3
  exact Lib.run_clear_slice w 22 3 ty (.int .i64 0) Yba.underlying22 (fun w => by simp [zeroValue, typeInfo, a3, b3]) rfl rfl g 0 2 2 (by decide) (fun j hj => by
    rcases (show j = 0 ∨ j = 1 by omega) with rfl | rfl
    · simp [hc0]
    · simp [hc1]) (fun j _ => by simpa using hf j)

set_option maxHeartbeats 1000000 in
theorem set_zero (w : World) (b : Nat) (f : Nat → Value) (fv : Value) (H : Pg w b f) (h100 : f 100 = .slice none 0 0) (h101 : f 101 = .slice none 0 0) :
    Calls Yba.prog 21 #[.pointer (some ⟨b, 100, none⟩), .int .i64 0, .int .i64 0, fv] w fun e w' => e = .returned (.tuple #[]) ∧ ∃ v f', Pg w' b f' ∧ (∀ k, k ≠ 100 → k ≠ 101 → f' k = f k) ∧ f' 100 = v ∧ f' 101 = .slice none 0 0 ∧ Only (fun k => k = b) w w' := by
  have HP := (show Hid _ from H)
  have c0 := H.at 100 h100 (by decide)
  have hlt := H.lt
  have H1 := (show Hid _ from h101)
  clear h100 h101 H
  go_enter Yba.func21, Yba.ntmps21
  go_wp2_with fail
  refine Calls.mono (resize_int w 2 (by decide)) ?_
  rintro e w1 ⟨ao, rfl, hO, hB, hfr⟩
  obtain ⟨g, hg, rfl⟩ : ∃ g, w.heap.size ≤ g ∧ ao = some ⟨g, 0, none⟩ := by
    rcases hO.form with ⟨h, _⟩ | ⟨g, cap, h, h2, _⟩
    · simp at h
    · rw [il_len] at h; cases h; exact ⟨g, (hfr g rfl).1, rfl⟩
  have HP1 : Hid (Pg w1 b f) := HP.out.below hB
  have c10 : w1.cell? ⟨b, 100, none⟩ = some (.slice none 0 0) := (cell_of_block (hB.block _ hlt)).trans c0
  have f10 := HP1.out.z 100
  obtain ⟨w2, hcl, hP2, hN2⟩ : ∃ w2, (Builtin.clear_ #[22] 0 #[.slice (some ⟨g, 0, none⟩) 2 2]).run Yba.prog (w1.setCell ⟨b, 100, none⟩ (.slice (some ⟨g, 0, none⟩) 2 2)) = .ok (.tuple #[]) w2 ∧ Pg w2 b (upd f 100 (.slice (some ⟨g, 0, none⟩) 2 2)) ∧ Only (fun k => k = b) w w2 := by
    have d0 : w1.cell? ⟨g, 0, none⟩ = some (.int .i64 0) := by
      rw [hO.cell (by rw [il_len]) (by rw [il_len]; omega)]; exact il_get (by omega)
    have d1 : w1.cell? ⟨g, 1, none⟩ = some (.int .i64 0) := by
      rw [hO.cell (by rw [il_len]) (by rw [il_len]; omega)]; exact il_get (by omega)
    have e0 : ∀ j, w1.frozen? ⟨g, j, none⟩ = false := fun j => hO.free (by rw [il_len]) j
    refine ⟨_, clear2 _ 0 g (by
      rw [World.cell?_setCell_other _ _ _ _ (by intro h; simp only [Addr.mk.injEq] at h; omega)]; exact d0) (by
      rw [World.cell?_setCell_other _ _ _ _ (by intro h; simp only [Addr.mk.injEq] at h; omega)]; exact d1) (fun j => by simp [e0 j]), ?_⟩
    have hon := Only.setCells (S := fun k => k = g) rfl [.int .i64 0, .int .i64 0] 0 (w1.setCell ⟨b, 100, none⟩ (.slice (some ⟨g, 0, none⟩) 2 2)) _ (Only.refl _ _)
    have hP := HP1.out.set 100 (.slice (some ⟨g, 0, none⟩) 2 2) (by decide)
    refine ⟨hP.frame hon.size (hon.block b hP.lt (by show b ≠ g; omega)), ?_⟩
    have h2 : Only (fun k => k = b ∨ k = g) w ((w1.setCell ⟨b, 100, none⟩ (.slice (some ⟨g, 0, none⟩) 2 2)).setCells g 0 [.int .i64 0, .int .i64 0]) := by
      refine (Only.trans ?_ (hon.mono fun k _ h => .inr h))
      exact Only.setCell (((Only.of_below hB).mono fun k h1 h2 => by omega)) _ _ fun _ => .inl rfl
    exact h2.mono fun k h1 h2 => by omega
  have HP2 := (show Hid _ from hP2)
  have HN2 := (show Hid _ from hN2)
  have c20 := hP2.at 100 (upd_at _ _ _) (by decide)
  have c21 := hP2.at 101 ((upd_ne _ _ (by decide)).trans H1.out) (by decide)
  have hlt2 := hP2.lt
  clear hO hB hfr c0 hP2 hN2
  go_wp2_with fail
  refine wp_loop_rounds 1 ?_
  rw [rounds_succ]
  go_wp2_with fail
  refine wp_loop_rounds 1 ?_
  rw [rounds_succ]
  go_wp2_with fail
  refine Calls.mono (resize_int w2 0 (by decide)) ?_
  rintro e w3 ⟨ao, rfl, hO, hB, hfr⟩
  obtain rfl : ao = none := by
    rcases hO.form with ⟨h, _⟩ | ⟨g, cap, h, h2, _⟩
    · cases h; rfl
    · have := (hfr g h2).2; omega
  have HP3 : Hid (Pg w3 b _) := HP2.out.below hB
  have HN3 : Hid (Only (fun k => k = b) w w3) := HN2.out.trans ((Only.of_below hB).mono fun k h1 h2 => by omega)
  have c30 := HP3.out.at 100 (upd_at _ _ _) (by decide)
  have c31 := HP3.out.at 101 ((upd_ne _ _ (by decide)).trans H1.out) (by decide)
  have f30 := HP3.out.z 100
  have f31 := HP3.out.z 101
  clear hO hB hfr c20 c21 hlt2 HP2 HN2
  go_wp2_with fail
  refine wp_loop_rounds 1 ?_
  rw [rounds_succ]
  go_wp2_with fail
  go_end0
  refine ⟨rfl, _, _, (HP3.out.set 101 _ (by decide)).set 100 _ (by decide), fun k h1 h2 => by rw [upd_ne _ _ h1, upd_ne _ _ h2, upd_ne _ _ h1], rfl, by rw [upd_ne _ _ (by decide), upd_at], ?_⟩
  exact (HN3.out.setCell ⟨b, 101, none⟩ _ fun _ => rfl).setCell ⟨b, 100, none⟩ _ fun _ => rfl

set_option maxHeartbeats 1000000 in
theorem close_zero (w : World) (b : Nat) (f : Nat → Value) (H : Pg w b f) (h1 : f 1 = .slice none 0 0) (h95 : f 95 = .int .i64 0) (h48 : f 48 = .int .i64 0) (h49 : f 49 = .slice none 0 0) (h50 : f 50 = .int .i64 0) (h51 : f 51 = .slice none 0 0) :
    Calls Yba.prog 25 #[.pointer (some ⟨b, 0, none⟩)] w fun e w' => e = .returned (.tuple #[]) ∧ Pg w' b (upd (upd (upd (upd f 48 (.int .i64 0)) 49 (.slice none 0 0)) 50 (.int .i64 0)) 51 (.slice none 0 0)) ∧ Only (fun k => k = b) w w' := by
  have HP := (show Hid _ from H)
  have c1 := H.at 1 h1 (by decide)
  have c95 := H.at 95 h95 (by decide)
  have HR := (show Hid _ from reset_zero w.drew b 48 f (H.frame (Nat.le_refl _) rfl) (by decide) h48 h49)
  have HE := (show Hid _ from And.intro h50 h51)
  clear h95 h48 h49 h50 h51 h1 H
  go_enter Yba.func25, Yba.ntmps25
  go_wp2_with fail
  go_big_region
  all_goals go_wp2_with fail
  all_goals
    refine Calls.mono HR.out ?_
    rintro e w1 ⟨rfl, hP1, hN1⟩
    have HP1 := (show Hid _ from hP1)
    have HN1 := (show Hid _ from hN1)
    clear hP1 hN1 HR
    have HR := (show Hid _ from reset_zero w1 b 50 _ HP1.out (by decide) ((upd_ne _ _ (by decide)).trans ((upd_ne _ _ (by decide)).trans HE.out.1)) ((upd_ne _ _ (by decide)).trans ((upd_ne _ _ (by decide)).trans HE.out.2)))
    go_wp2_with fail
    refine Calls.mono HR.out ?_
    rintro e w2 ⟨rfl, hP2, hN2⟩
    have HF := (show Hid _ from And.intro hP2 ((((Only.refl (fun k => k = b) w).drew).trans HN1.out).trans hN2))
    clear hP2 hN2
    go_wp2_with fail
    refine wp_loop_rounds 1 ?_
    rw [rounds_succ]
    go_wp2_with fail
    exact bodyPost_ret (results_none rfl _ _ _) rfl ⟨rfl, HF.out.1, HF.out.2⟩

theorem ta1 (w : World) (v : Value) : (Instr.typeAssert (.iface 86 v) 20 86 true).run Yba.prog w = .ok (.tuple #[v, .bool true]) w := by kernel_rfl
theorem ta2 (w : World) (v : Value) : (Instr.typeAssert (.iface 89 v) 20 90 true).run Yba.prog w = .ok (.tuple #[.pointer none, .bool false]) w := by kernel_rfl
theorem ta3 (w : World) (v : Value) : (Instr.typeAssert (.iface 86 v) 20 55 true).run Yba.prog w = .ok (.tuple #[.pointer none, .bool false]) w := by kernel_rfl
attribute [local go_sem] ta1 ta2 ta3

theorem setup_walk (w : World) (b : Nat) (f : Nat → Value) (H : Pg w b f) (h110 : f 110 = .pointer none) :
    Calls Yba.prog 7 #[.pointer (some ⟨b, 0, none⟩)] w fun e w' => e = .returned (.tuple #[]) ∧ ∃ bb, Pg w' b (upd f 110 (.pointer (some ⟨bb, 0, none⟩))) ∧ w.heap.size ≤ bb ∧ bb < w'.heap.size ∧ w'.cell? ⟨bb, 0, none⟩ = some (.int .i64 0) ∧ w'.frozen? ⟨bb, 0, none⟩ = false ∧ Only (fun k => k = b) w w' := by
  have HP := (show Hid _ from H)
  have c0 := H.at 110 h110 (by decide)
  have f0 := H.z 110
  have hlt := H.lt
  clear h110 H
  go_enter Yba.func7, Yba.ntmps7
  go_wp2_with fail
  go_end0
  have hs : (w.setCell ⟨b, 110, none⟩ (.pointer (some ⟨w.heap.size, 0, none⟩))).heap.size = w.heap.size := by simp [World.setCell]
  have h1 := HP.out.set 110 (.pointer (some ⟨w.heap.size, 0, none⟩)) (by decide)
  have h2 := (Only.refl (fun k => k = b) w).setCell ⟨b, 110, none⟩ (.pointer (some ⟨w.heap.size, 0, none⟩)) fun _ => rfl
  refine ⟨rfl, w.heap.size, ?_⟩
  generalize w.setCell ⟨b, 110, none⟩ (.pointer (some ⟨w.heap.size, 0, none⟩)) = X at *
  refine ⟨h1.frame (by simp) (Below.heap_alloc _ _ _ h1.lt), Nat.le_refl _, by simp [hs], ?_, ?_, h2.alloc _⟩
  · rw [← hs]; simp
  · rw [← hs]; rw [frozen?_alloc_cells]; simp [World.frozen?]

theorem work_walk (w : World) (b bb : Nat) (k : Int) (c : w.cell? ⟨b, 110, none⟩ = some (.pointer (some ⟨bb, 0, none⟩))) (cb : w.cell? ⟨bb, 0, none⟩ = some (.int .i64 k)) :
    Calls Yba.prog 12 #[.pointer (some ⟨b, 0, none⟩)] w fun e w' => e = .returned (.int .i64 k) ∧ w' = w := by
  go_enter Yba.func12, Yba.ntmps12
  go_wp2_with fail
  go_ret
  exact ⟨rfl, rfl⟩

theorem make37 (w : World) (n : Nat) (hn : n ≤ 100000) : ∃ cs, (Instr.makeSlice 37 (.int .i64 n) (.int .i64 n)).run Yba.prog w = .ok (.slice (some ⟨w.heap.size, 0, none⟩) n n) (w.alloc (.cells cs 62)) := by
  obtain ⟨i3, a3, b3, c3, d3⟩ := info_parts info63
  have h := run_make (P := Yba.prog) w 37 62 i3 _ Yba.underlying37 a3 b3 .i64 .i64 n n (by omega) (by omega) (by rw [d3]; omega) (by omega)
  exact ⟨_, by simpa using h⟩
theorem resize_pairs (w : World) (n : Nat) (hn : n ≤ 100000) :
    Calls Yba.prog 9 #[.slice none 0 0, .int .i64 n] w fun e w' => ∃ ao, e = .returned (.slice ao n n) ∧ Below w.heap.size w w' := by
  by_cases h0 : n = 0
  · subst h0
    go_enter Yba.func9, Yba.ntmps9
    go_wp2_with fail
    go_ret
    exact ⟨none, rfl, Below.refl _ _⟩
  · have h1 : ¬ ((n : Int) ≤ 0) := by omega
    have h2 : ¬ ((0 : Int) ≥ (n : Int)) := by omega
    obtain ⟨cs, hcs⟩ := make37 w n hn
    clear h0
    go_enter Yba.func9, Yba.ntmps9
    go_wp2_with fail
    go_ret
    exact ⟨⟨_, rfl⟩, (Below.refl _ _).alloc (Nat.le_refl _) _⟩
end Go.Proofs.Ybulkecis

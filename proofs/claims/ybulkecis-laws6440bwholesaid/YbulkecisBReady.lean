/-
  The law's memory as rebuild wants it.
-/
import Derived.Test.YbulkecisBKit
namespace Go.Proofs.Ybulkecis
open Go.RowKit _root_.Go.Proofs.Ybulkecis.Own
set_option linter.unusedVariables false

theorem ap_ne {w0 w : World} {L : List Res} (h : Spl w0 w L) (i j : Nat) (hij : i ≠ j) {r s : Res} (hi : L[i]? = some r) (hj : L[j]? = some s) {g : Nat} (hs : s.blk = some g) : r.blk ≠ some g := fun e => h.ap i j r s hij hi hj g e hs
section
variable {w w1 : World} {b bb n q : Nat} {slv qdv quv pv sv lv tv a0 a1 a2 : Value} {f : Nat → Value} {O : Nat → List Nat} {th os : List Nat} {al : List (Nat × Nat)} {B : Nat → Bool} {ql x2 : List Value}
/-- The order of the pieces: 0 order, 1 arcs, 2 slots, 3 through, 4 propagator, 5 queue, 6 marks, 7 list, 8 starts, 9 slot, 10 pos, 11 budget. -/
theorem ready_sp (h : Spl w w1 [.iv a0 (ol os), .av a1 al, .iv a2 x2, .iv tv (ol th), .pg b f, .iv quv ql, .bv qdv (bl q B), .iv lv (ol (flat O n)), .iv sv (il (n + 1) fun v => ((tot (fun v => (O v).length) v : Nat) : Int)), .iv slv (il n fun _ => -1), .iv pv (il n fun v => (v : Int)), .cl bb (.int .i64 0)]) : Sp b bb slv qdv quv :=
  ⟨fun e => h.ap 4 11 _ _ (by decide) rfl rfl b rfl (by rw [e]; rfl), ap_ne h 9 4 (by decide) rfl rfl rfl, ap_ne h 9 11 (by decide) rfl rfl rfl, ap_ne h 6 4 (by decide) rfl rfl rfl, ap_ne h 6 11 (by decide) rfl rfl rfl, ap_ne h 5 4 (by decide) rfl rfl rfl, ap_ne h 5 11 (by decide) rfl rfl rfl,
   fun g hg => h.ap 9 6 _ _ (by decide) rfl rfl g hg, fun g hg => h.ap 9 5 _ _ (by decide) rfl rfl g hg, fun g hg => h.ap 6 5 _ _ (by decide) rfl rfl g hg⟩
theorem ready_wk (h : Spl w w1 [.iv a0 (ol os), .av a1 al, .iv a2 x2, .iv tv (ol th), .pg b f, .iv quv ql, .bv qdv (bl q B), .iv lv (ol (flat O n)), .iv sv (il (n + 1) fun v => ((tot (fun v => (O v).length) v : Nat) : Int)), .iv slv (il n fun _ => -1), .iv pv (il n fun v => (v : Int)), .cl bb (.int .i64 0)]) (i : Nat) (hi : i ≠ 4 ∧ i ≠ 11 ∧ i ≠ 9 ∧ i ≠ 6 ∧ i ≠ 5) {r : Res}
    (hr : [Res.iv a0 (ol os), .av a1 al, .iv a2 x2, .iv tv (ol th), .pg b f, .iv quv ql, .bv qdv (bl q B), .iv lv (ol (flat O n)), .iv sv (il (n + 1) fun v => ((tot (fun v => (O v).length) v : Nat) : Int)), .iv slv (il n fun _ => -1), .iv pv (il n fun v => (v : Int)), .cl bb (.int .i64 0)][i]? = some r) : ∀ g, r.blk = some g → ¬ Wk b bb slv qdv quv g := by
  rintro g hg (e | e | e | e | e)
  · exact h.ap i 4 _ _ hi.1 hr rfl g hg (by rw [e]; rfl)
  · exact h.ap i 11 _ _ hi.2.1 hr rfl g hg (by rw [e]; rfl)
  · exact h.ap i 9 _ _ hi.2.2.1 hr rfl g hg e
  · exact h.ap i 6 _ _ hi.2.2.2.1 hr rfl g hg e
  · exact h.ap i 5 _ _ hi.2.2.2.2 hr rfl g hg e
theorem ready_st (h : Spl w w1 [.iv a0 (ol os), .av a1 al, .iv a2 x2, .iv tv (ol th), .pg b f, .iv quv ql, .bv qdv (bl q B), .iv lv (ol (flat O n)), .iv sv (il (n + 1) fun v => ((tot (fun v => (O v).length) v : Nat) : Int)), .iv slv (il n fun _ => -1), .iv pv (il n fun v => (v : Int)), .cl bb (.int .i64 0)]) : St0 w1 b bb slv qdv quv n O th pv sv lv tv :=
  ⟨h.all 10 _ rfl, h.all 8 _ rfl, h.all 7 _ rfl, h.all 3 _ rfl, ready_wk h 10 (by decide) rfl, ready_wk h 8 (by decide) rfl, ready_wk h 7 (by decide) rfl, ready_wk h 3 (by decide) rfl⟩
theorem ready_rs (h : Spl w w1 [.iv a0 (ol os), .av a1 al, .iv a2 x2, .iv tv (ol th), .pg b f, .iv quv ql, .bv qdv (bl q B), .iv lv (ol (flat O n)), .iv sv (il (n + 1) fun v => ((tot (fun v => (O v).length) v : Nat) : Int)), .iv slv (il n fun _ => -1), .iv pv (il n fun v => (v : Int)), .cl bb (.int .i64 0)]) : Rs w1 w1 b bb n q slv qdv quv f (fun _ => -1) 0 B quv ql := by
  have h11 := h.all 11 _ rfl
  exact ⟨Only.refl _ _, h.all 4 _ rfl, h11.1, h11.2.1, Pg.lt (h.all 4 _ rfl), h11.2.2, h.all 9 _ rfl, h.all 6 _ rfl, h.all 5 _ rfl, fun g hg => OwnV.lt (h.all 9 _ rfl) hg, fun g hg => OwnV.lt (h.all 6 _ rfl) hg, fun g hg => .inl hg⟩
/-- What only the law reads, behind rebuild. -/
theorem ready_keep (h : Spl w w1 [.iv a0 (ol os), .av a1 al, .iv a2 x2, .iv tv (ol th), .pg b f, .iv quv ql, .bv qdv (bl q B), .iv lv (ol (flat O n)), .iv sv (il (n + 1) fun v => ((tot (fun v => (O v).length) v : Nat) : Int)), .iv slv (il n fun _ => -1), .iv pv (il n fun v => (v : Int)), .cl bb (.int .i64 0)]) {w2 : World} (o : Only (Wk b bb slv qdv quv) w1 w2) :
    OwnV w2 3 a0 (ol os) ∧ OwnA w2 a1 al ∧ OwnV w2 3 tv (ol th) ∧ Below w.heap.size w w2 := by
  refine ⟨OwnV.frame (h.all 0 _ rfl) fun g hg => o.block g (OwnV.lt (h.all 0 _ rfl) hg) (ready_wk h 0 (by decide) rfl g hg), OwnA.frame (h.all 1 _ rfl) fun g hg => o.block g (OwnA.lt (h.all 1 _ rfl) hg) (ready_wk h 1 (by decide) rfl g hg), OwnV.frame (h.all 3 _ rfl) fun g hg => o.block g (OwnV.lt (h.all 3 _ rfl) hg) (ready_wk h 3 (by decide) rfl g hg), ?_⟩
  refine h.bel.trans ⟨o.os, o.tape, o.output, o.size, fun k hk => o.block k (Nat.lt_of_lt_of_le hk h.bel.size) fun t => ?_⟩
  have key : ∀ (i : Nat) (r : Res), [Res.iv a0 (ol os), .av a1 al, .iv a2 x2, .iv tv (ol th), .pg b f, .iv quv ql, .bv qdv (bl q B), .iv lv (ol (flat O n)), .iv sv (il (n + 1) fun v => ((tot (fun v => (O v).length) v : Nat) : Int)), .iv slv (il n fun _ => -1), .iv pv (il n fun v => (v : Int)), .cl bb (.int .i64 0)][i]? = some r → r.blk = some k → False := fun i r hr hg => by
    have := h.fr i r hr k hg
    omega
  rcases t with e | e | e | e | e
  · exact key 4 _ rfl (by rw [e]; rfl)
  · exact key 11 _ rfl (by rw [e]; rfl)
  · exact key 9 _ rfl e
  · exact key 6 _ rfl e
  · exact key 5 _ rfl e
end
end Go.Proofs.Ybulkecis

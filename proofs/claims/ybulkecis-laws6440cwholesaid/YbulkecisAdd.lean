/-
  (*graph.NodeSet).Add: it keeps the node set a node set and turns nothing else.
-/
import Derived.Test.YbulkecisNodeSet
namespace Go.Proofs.Ybulkecis
open Go.RowKit Own
set_option linter.unusedVariables false
theorem LevOk.set {w : World} {p : Nat × Nat} (h : LevOk w p) (a : Addr) (z : Int) (hz : 0 ≤ z ∧ z < 18446744073709551616) (ha : a.spot = none) : LevOk (w.setCell a (.int .u64 z)) p := by
  obtain ⟨zs, h1, h2, h3⟩ := h
  by_cases hb : a.block = p.1
  · refine ⟨zs.set a.off z, ?_, by simpa using h2, ?_⟩
    · have ha' : a = ⟨p.1, a.off, none⟩ := by cases a; simp_all
      rw [ha', heap_setCell_same w p.1 a.off _ 73 _ h1]
      congr 1
      simp [List.map_set]
    · intro x hx
      rcases List.mem_or_eq_of_mem_set hx with hx | hx
      · exact h3 x hx
      · rw [hx]; exact hz
  · exact ⟨zs, by rw [Below.heap_setCell _ _ _ _ (fun e => hb e.symm)]; exact h1, h2, h3⟩

theorem NSet.set {w : World} {n : Nat} {v : Value} {ls : List (Nat × Nat)} (h : NSet w n v ls) (a : Addr) (z : Int) (hz : 0 ≤ z ∧ z < 18446744073709551616) (ha : a.spot = none) (hm : a.block ∈ ls.map Prod.fst) : NSet (w.setCell a (.int .u64 z)) n v ls := by
  refine ⟨h.own.frame fun g hg => Below.heap_setCell _ _ _ _ (fun e => ?_), fun p hp => (h.levs p hp).set a z hz ha, h.fits, h.short⟩
  obtain ⟨p, hp, hpe⟩ := List.mem_map.1 hm
  obtain ⟨zs, h1, _⟩ := h.levs p hp
  rcases h.own.2 with ⟨hv, _⟩ | ⟨g', cap', cur, hv, _, hh', _⟩
  · rw [hv] at hg; cases hg
  · rw [hv] at hg
    simp [Value.ownBlock] at hg
    rw [hpe, ← e, ← hg, hh'] at h1
    simp at h1

theorem NSet.frame {w w' : World} {n : Nat} {v : Value} {ls : List (Nat × Nat)} (h : NSet w n v ls) (hb : ∀ g, (v.ownBlock = some g ∨ g ∈ ls.map Prod.fst) → w'.heap[g]? = w.heap[g]?) : NSet w' n v ls :=
  ⟨h.own.frame fun g hg => hb g (.inl hg), fun p hp => (h.levs p hp).frame (hb p.1 (.inr (List.mem_map.2 ⟨p, hp, rfl⟩))), h.fits, h.short⟩

theorem LevOk.at {w : World} {p : Nat × Nat} (h : LevOk w p) {j : Nat} (hj : j < p.2) : ∃ z : Int, w.cell? ⟨p.1, j, none⟩ = some (.int .u64 z) ∧ w.frozen? ⟨p.1, j, none⟩ = false ∧ 0 ≤ z ∧ z < 18446744073709551616 := by
  obtain ⟨zs, h1, h2, h3⟩ := h
  refine ⟨zs[j]'(by omega), ?_, frozen_of_row w p.1 j _ _ h1, h3 _ (List.getElem_mem _)⟩
  rw [cell_of_row w p.1 j _ _ _ h1]
  simp [show j < zs.length by omega]

theorem or_range (a b : Int) : 0 ≤ bits .or .u64 a b ∧ bits .or .u64 a b < 18446744073709551616 := by
  show 0 ≤ IntKind.u64.wrap _ ∧ IntKind.u64.wrap _ < _
  rw [IntKind.wrap_u64]
  exact ⟨Int.emod_nonneg _ (by decide), Int.emod_lt_of_pos _ (by decide)⟩

set_option maxHeartbeats 1000000 in
theorem add_any (sb o n : Nat) (v : Value) (ls : List (Nat × Nat)) (x : Nat) (w : World) (hn : n ≤ 200) (hx : x < n) (hc : w.cell? ⟨sb, o, none⟩ = some v) (HN : Hid (NSet w n v ls)) :
    Calls Yba.prog 26 #[.pointer (some ⟨sb, o, none⟩), .int .i64 x] w fun e w' => e = .returned (.tuple #[]) ∧ NSet w' n v ls ∧ Only (fun b => b ∈ ls.map Prod.fst) w w' := by
  obtain ⟨g, cap, rfl, hle⟩ : ∃ g cap, v = .slice (some ⟨g, 0, none⟩) ls.length cap ∧ ls.length ≤ cap := by
    rcases HN.out.own.form with ⟨_, h⟩ | ⟨g, cap, hv, _, h, _⟩
    · have := HN.out.short; simp at h; subst h; simp at this
    · simp at hv h; exact ⟨g, cap, hv, h⟩
  have hshort := HN.out.short
  go_enter Yba.func26, Yba.ntmps26
  go_wp2_with fail
  go_loopw [1, 13] (fun t i wr => ∃ k m y : Nat, k ≤ ls.length ∧ i = .int .i64 k ∧ t = .int .i64 y ∧ y < m ∧ y ≤ 200 ∧ Fits m ((ls.map Prod.snd).drop k) ∧ NSet wr n (.slice (some ⟨g, 0, none⟩) ls.length cap) ls ∧ Only (fun b => b ∈ ls.map Prod.fst) w wr) (fun _ i _ => ls.length - (intOf i).toNat)
  case atStart => exact ⟨0, n, x, by omega, rfl, rfl, hx, by omega, HN.out.fits, HN.out, Only.refl _ _⟩
  case round =>
    obtain ⟨k, m, y, hk, rfl, rfl, hy, hm, hf, hN, hO⟩ := hrel
    have HN1 := (show Hid _ from hN)
    have HO := (show Hid _ from hO)
    have HF := (show Hid _ from hf)
    clear hN hO hf
    by_cases hkl : k < ls.length
    · obtain ⟨p, hp⟩ : ∃ p, ls[k]? = some p := ⟨ls[k], List.getElem?_eq_getElem hkl⟩
      have hpm : p ∈ ls := List.mem_of_getElem? hp
      have hcl : wr.cell? ⟨g, k, none⟩ = some (.slice (some ⟨p.1, 0, none⟩) p.2 p.2) := by
        rw [HN1.out.own.cell (by simp) (by simpa using hkl)]; simp [hp, lvl]
      have hfit : m ≤ 64 * p.2 ∧ Fits p.2 ((ls.map Prod.snd).drop (k + 1)) := by
        have h := HF.out
        rw [List.drop_eq_getElem_cons (by simpa using hkl)] at h
        have e : (ls.map Prod.snd)[k]'(by simpa using hkl) = p.2 := by
          simp only [List.getElem_map]
          rw [List.getElem?_eq_getElem hkl] at hp
          rw [Option.some.inj hp]
        rw [e] at h
        exact h
      have hlt : y / 64 < p.2 := by omega
      have hlt' : (y : Int) / 64 < p.2 := by omega
      obtain ⟨z, hz1, hz2, hz3, hz4⟩ := (HN1.out.levs p hpm).at hlt
      have HFit := (show Hid _ from hfit.2)
      obtain ⟨pg, pk⟩ := p
      clear hp hfit
      simp only at hcl hlt' hlt hz1 hz2
      go_wp2_with fail
      go_region
      have HS : Hid (∀ q : Int, NSet ((wr.setCell ⟨pg, y / 64, none⟩ (.int .u64 (bits .or .u64 z q))).drew) n (.slice (some ⟨g, 0, none⟩) ls.length cap) ls ∧ Only (fun b => b ∈ ls.map Prod.fst) w (wr.setCell ⟨pg, y / 64, none⟩ (.int .u64 (bits .or .u64 z q))).drew) := fun q =>
        ⟨(HN1.out.set ⟨pg, y / 64, none⟩ _ (or_range z q) rfl (List.mem_map.2 ⟨(pg, pk), hpm, rfl⟩)).frame (fun _ _ => rfl), (HO.out.setCell _ _ (fun _ => List.mem_map.2 ⟨(pg, pk), hpm, rfl⟩)).drew⟩
      go_wp2
      · exact bodyPost_ret (results_none rfl _ _ _) rfl ⟨rfl, HS.out _⟩
      · go_roundw
        case rel => exact ⟨k + 1, pk, y / 64, by omega, by go_num, by go_num, hlt, by omega, HFit.out, HS.out _⟩
        case measure => simp [intOf]; omega
    · go_wp2
      go_end0
      exact ⟨rfl, HN1.out, HO.out⟩
end Go.Proofs.Ybulkecis

/-
  zzs6442alist on two lists of byte slices that read alike.
-/
import Derived.Test.YbulkecjuBytes
namespace Go.Proofs.Ybulkecju
open Go.RowKit
set_option linter.unusedVariables false

/-- v is a slice whose cells hold the values hs. -/
def Hdr (w : World) (v : Value) (hs : List Value) : Prop :=
  ∃ ao l c, v = .slice ao l c ∧ l = hs.length ∧ l ≤ c ∧ c ≤ maxLen ∧ (ao = none → l = 0) ∧ ∀ a, ao = some a → ∀ i, i < l → w.cell? (a.add i) = some (hs.getD i (.slice none 0 0))

theorem Hdr.below {w w' : World} {v : Value} {s : List Value} (h : Hdr w v s) (hb : Below w.heap.size w w') : Hdr w' v s := by
  obtain ⟨ao, l, c, rfl, h1, h2, h2', h3, h4⟩ := h
  refine ⟨ao, l, c, rfl, h1, h2, h2', h3, fun a ha i hi => ?_⟩
  have := h4 a ha i hi
  rw [← this]
  exact hb.cell (World.block_lt_of_cell? w _ this)

theorem Hdr.form {w : World} {v : Value} {hs : List Value} (h : Hdr w v hs) : ∃ ao c, v = .slice ao hs.length c ∧ hs.length ≤ c ∧ c ≤ maxLen ∧ (0 < hs.length → ∃ b o, ao = some ⟨b, o, none⟩ ∧ ∀ i, i < hs.length → w.cell? ⟨b, o + i, none⟩ = some (hs.getD i (.slice none 0 0))) := by
  obtain ⟨ao, l, c, rfl, rfl, h2, h2', h3, h4⟩ := h
  refine ⟨ao, c, rfl, h2, h2', fun h0 => ?_⟩
  match ao, h3, h4 with
  | none, h3, _ => exact absurd (h3 rfl) (by omega)
  | some a, _, h4 =>
    have hc := h4 a rfl
    obtain ⟨b, off, spot⟩ := a
    have hspot : spot = none := by simpa [Addr.add] using World.cell?_spot (hc 0 h0)
    subst hspot
    exact ⟨b, off, rfl, fun i hi => by rw [← Go.WideShapes.add_plain]; exact hc i hi⟩

def Alike (w : World) (u v : Value) : Prop := nilV u = nilV v ∧ ∃ s, Byt w u s ∧ Byt w v s
theorem Alike.drewN {w : World} {u v : Value} (h : Alike w u v) (n : Nat) : Alike (w.drewN n) u v := h
theorem same_alike (v1 v2 : Value) (w : World) (h : Alike w v1 v2) : Calls Yba.prog 10 #[v1, v2] w fun e w' => e = .returned (.bool true) ∧ w' = w := by
  obtain ⟨hn, s, h1, h2⟩ := h
  exact same_true v1 v2 s w hn h1 h2

theorem same_q (v1 v2 : Value) (w : World) (h : Alike w v1 v2) : Calls Yba.prog 10 #[v1, v2] w fun e w' => e = .returned (.bool true) ∧ ∃ n, w' = w.drewN n :=
  (same_alike v1 v2 w h).mono fun e w' ⟨he, hw⟩ => ⟨he, 0, hw⟩

set_option maxHeartbeats 800000 in
theorem list_true (va vb : Value) (ha hb : List Value) (w : World) (h1 : Hdr w va ha) (h2 : Hdr w vb hb) (hl : ha.length = hb.length) (hs : ∀ i, i < ha.length → Alike w (ha.getD i (.slice none 0 0)) (hb.getD i (.slice none 0 0))) :
    Calls Yba.prog 19 #[va, vb] w fun e w' => e = .returned (.bool true) ∧ ∃ n, w' = w.drewN n := by
  obtain ⟨a1, c1, rfl, l1, m1, f1⟩ := h1.form
  obtain ⟨a2, c2, rfl, l2, m2, f2⟩ := h2.form
  unfold maxLen at m1 m2
  rw [← hl] at f2 l2 ⊢
  generalize hn : ha.length = n at *
  have HS := (show Hid _ from hs)
  have HF1 := (show Hid _ from f1)
  have HF2 := (show Hid _ from f2)
  clear h1 h2 hn hs f1 f2 hl
  go_enter Yba.func19, Yba.ntmps19
  go_wp2_with fail
  go_loopw [4, 13] (fun x4 i wr => ∃ k m : Nat, k ≤ n ∧ x4 = .bool false ∧ i = .int .i64 k ∧ wr = w.drewN m) (fun _ i _ => n - (intOf i).toNat)
  case atStart => exact ⟨0, 0, by omega, rfl, rfl, rfl⟩
  case round =>
    obtain ⟨k, m, hk, rfl, rfl, hwr⟩ := hrel
    have HW := (show Hid _ from hwr)
    clear hwr
    by_cases hkl : k < n
    · obtain ⟨b1, o1, rfl, g1⟩ := HF1.out (by omega)
      obtain ⟨b2, o2, rfl, g2⟩ := HF2.out (by omega)
      have e1 : wr.cell? ⟨b1, o1 + k, none⟩ = some (ha.getD k (.slice none 0 0)) := by rw [HW.out]; exact g1 k hkl
      have e2 : wr.cell? ⟨b2, o2 + k, none⟩ = some (hb.getD k (.slice none 0 0)) := by rw [HW.out]; exact g2 k hkl
      have e3 : Hid (Alike wr (ha.getD k (.slice none 0 0)) (hb.getD k (.slice none 0 0))) := by show Alike _ _ _; rw [HW.out]; exact HS.out k hkl
      generalize ha.getD k (.slice none 0 0) = x1 at *
      generalize hb.getD k (.slice none 0 0) = x2 at *
      clear g1 g2
      have hkl' : (k : Int) < n := by omega
      go_wp2_with fail
      go_quiet (first | (refine Calls.quiet_of (same_q _ _ _ ?_); exact e3.out))
      go_wp2_with fail
      go_roundw
      case rel => exact ⟨k + 1, _, by omega, rfl, by go_num, by rw [HW.out, World.drewN_drewN]⟩
      case measure => simp [intOf]; omega
    · go_wp2_with fail
      go_ret
      exact ⟨rfl, _, HW.out⟩
end Go.Proofs.Ybulkecju

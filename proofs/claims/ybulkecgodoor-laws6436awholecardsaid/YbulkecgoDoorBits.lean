/-
  The bit writer and a frame of the program's.
-/
import Derived.Test.YbulkecgoDoorBytes
import Derived.Test.YbulkecgoDoorLens
import Derived.Deep.CutRange
import Derived.Deep.CutBlock
import Derived.BigRegion
import Derived.Deep.RegionHeld3
namespace Go.Proofs.YbulkecgoDoor
open Go.RowKit Go.Shelf _root_.Go.Proofs.YbulkecgoDoor.Own
set_option linter.unusedVariables false
set_option maxRecDepth 100000

/-- The writer at block wb: what it has written, what it holds back. -/
structure Wr (w0 w : World) (v0 : Value) (wb : Nat) (bs : List Nat) (X T : Nat) (v : Value) (acc : Nat) : Prop where
  buf : Bf w0 w v0 v (bs ++ byt X T (8 * (T / 64)))
  c0 : w.cell? ⟨wb, 0, none⟩ = some v
  c1 : w.cell? ⟨wb, 1, none⟩ = some (.int .u64 acc)
  c2 : w.cell? ⟨wb, 2, none⟩ = some (.int .u64 ((T % 64 : Nat) : Int))
  free : ∀ q, w.frozen? ⟨wb, q, none⟩ = false
  acl : acc < 18446744073709551616
  ace : acc % 2 ^ (T % 64) = X % 2 ^ (T % 64)
  ne : v.ownBlock ≠ some wb
  new : w0.heap.size ≤ wb
  lt : wb < w.heap.size

theorem Bf.setOther {w0 w : World} {v0 v : Value} {bs : List Nat} (h : Bf w0 w v0 v bs) {wb : Nat} (hne : v.ownBlock ≠ some wb) (hnew : w0.heap.size ≤ wb) (q : Nat) (x : Value) : Bf w0 (w.setCell ⟨wb, q, none⟩ x) v0 v bs :=
  ⟨h.own.frame fun g hg => Below.heap_setCell _ _ _ _ (fun e => hne (by subst e; exact hg)), h.onl.setCell _ _ (fun hlt => absurd hlt (by show ¬ wb < _; omega)), h.blk⟩
theorem cell_set {w : World} {b q : Nat} {u : Value} (h : w.cell? ⟨b, q, none⟩ = some u) (p : Nat) (x : Value) : (w.setCell ⟨b, p, none⟩ x).cell? ⟨b, q, none⟩ = some (if q = p then x else u) := by
  by_cases e : q = p
  · subst e; rw [if_pos rfl]; exact World.cell?_setCell_same w _ _ h
  · rw [if_neg e, ← h]; exact World.cell?_setCell_other _ _ _ _ (by intro h; injection h with _ h; exact e h.symm)
theorem Wr.next {w0 w : World} {v0 : Value} {wb : Nat} {bs : List Nat} {X T : Nat} {v : Value} {acc : Nat} {x1 x2 : Value} (hb : Bf w0 w v0 v (bs ++ byt X T (8 * (T / 64)))) (c0 : w.cell? ⟨wb, 0, none⟩ = some v) (c1 : w.cell? ⟨wb, 1, none⟩ = some x1) (c2 : w.cell? ⟨wb, 2, none⟩ = some x2)
    (hf : ∀ q, w.frozen? ⟨wb, q, none⟩ = false) (hacl : acc < 18446744073709551616) (hace : acc % 2 ^ (T % 64) = X % 2 ^ (T % 64)) (hne : v.ownBlock ≠ some wb) (hnew : w0.heap.size ≤ wb) (hlt : wb < w.heap.size) :
    Wr w0 ((w.setCell ⟨wb, 1, none⟩ (.int .u64 acc)).setCell ⟨wb, 2, none⟩ (.int .u64 ((T % 64 : Nat) : Int))) v0 wb bs X T v acc := by
  refine ⟨(hb.setOther hne hnew _ _).setOther hne hnew _ _, ?_, ?_, ?_, fun q => ?_, hacl, hace, hne, hnew, ?_⟩
  · exact cell_set (cell_set c0 1 _) 2 _
  · exact cell_set (cell_set c1 1 _) 2 _
  · exact cell_set (cell_set c2 1 _) 2 _
  · simp [hf q]
  · simpa [World.setCell] using hlt
theorem one_shl (wd : Nat) (h : wd ≤ 64) : (2 ^ wd % 18446744073709551616 + 18446744073709551615) % 18446744073709551616 = 2 ^ wd - 1 := by
  by_cases h64 : wd = 64
  · subst h64; decide
  · have h1 : 2 ^ wd < 2 ^ 64 := Nat.pow_lt_pow_right (by omega) (by omega)
    have h2 : 1 ≤ 2 ^ wd := Nat.one_le_two_pow
    omega

theorem mask_num {u wd : Nat} (hu : u < 2 ^ wd) (hwd : wd ≤ 64) : bits .and .u64 (u : Int) (IntKind.u64.wrap (IntKind.u64.wrap (2 ^ wd) - 1)) = (u : Int) := by
  have h2 : (1 : Nat) ≤ 2 ^ wd := Nat.one_le_two_pow
  have h3 : (2 : Nat) ^ wd ≤ 18446744073709551616 := Nat.pow_le_pow_right (by omega) hwd
  have e0 : ((2 : Int) ^ wd) = ((2 ^ wd : Nat) : Int) := by simp
  have e : IntKind.u64.wrap (IntKind.u64.wrap (2 ^ wd) - 1) = ((2 ^ wd - 1 : Nat) : Int) := by
    rw [IntKind.wrap_u64, IntKind.wrap_u64, e0]
    omega
  rw [e, u64_and_nat u (2 ^ wd - 1) (by omega) (by omega), Nat.and_two_pow_sub_one_eq_mod, Nat.mod_eq_of_lt hu]

theorem or_num {acc u wd : Nat} (hu : u < 18446744073709551616) : bits .or .u64 (IntKind.u64.wrap ((acc : Int) * 2 ^ wd)) (u : Int) = (((acc * 2 ^ wd % 2 ^ 64) ||| u : Nat) : Int) := by
  have e : IntKind.u64.wrap ((acc : Int) * 2 ^ wd) = ((acc * 2 ^ wd % 2 ^ 64 : Nat) : Int) := by
    rw [IntKind.wrap_u64]
    have e0 : (acc : Int) * 2 ^ wd = ((acc * 2 ^ wd : Nat) : Int) := by simp
    rw [e0]; omega
  rw [e]
  exact u64_or_nat _ u (Nat.mod_lt _ (by decide)) hu

theorem Bf.form2 {w w' : World} {v v' : Value} {bs : List Nat} (h : Bf w w' v v' bs) : ∃ ao l cap, v' = .slice ao l cap := by
  obtain ⟨ao, cap, e⟩ := h.form
  exact ⟨ao, _, cap, e⟩
theorem wr_keep {w w1 : World} {v v1 : Value} {bs : List Nat} {wb : Nat} (h : Bf w.drew w1 v v1 bs) (hne : v.ownBlock ≠ some wb) (hlt : wb < w.heap.size) : (∀ q x, w.cell? ⟨wb, q, none⟩ = some x → w1.cell? ⟨wb, q, none⟩ = some x) ∧ ∀ q, w1.frozen? ⟨wb, q, none⟩ = w.frozen? ⟨wb, q, none⟩ := by
  have hb : w1.heap[wb]? = w.heap[wb]? := h.onl.block wb hlt hne
  refine ⟨fun q x hx => ?_, fun q => World.frozen?_of_block hb⟩
  rw [← hx]
  simp only [World.cell?]
  rw [hb]

theorem write_out {w0 w w1 : World} {v0 v v1 : Value} {wb : Nat} {bs : List Nat} {X T acc u wd wo r : Nat} (h : Wr w0 w v0 wb bs X T v acc) (hB : Bf w.drew w1 v v1 ((bs ++ byt X T (8 * (T / 64))) ++ be8 wo))
    (hg : byt (X * 2 ^ wd + u) (T + wd) (8 * ((T + wd) / 64)) = byt X T (8 * (T / 64)) ++ be8 wo ∧ (T + wd) % 64 = r ∧ u % 2 ^ r = (X * 2 ^ wd + u) % 2 ^ r) (hu : u < 18446744073709551616) :
    Wr w0 (((w1.setCell ⟨wb, 0, none⟩ v1).setCell ⟨wb, 1, none⟩ (.int .u64 u)).setCell ⟨wb, 2, none⟩ (.int .u64 (((T + wd) % 64 : Nat) : Int))) v0 wb bs (X * 2 ^ wd + u) (T + wd) v1 u := by
  obtain ⟨g1, g2, g3⟩ := hg
  have d1 := wr_keep hB h.ne h.lt
  have hne : v1.ownBlock ≠ some wb := fun e => by
    rcases hB.blk wb e with e' | e'
    · exact h.ne e'
    · have := h.lt
      have : w.drew.heap.size = w.heap.size := rfl
      omega
  have hb : Bf w0 w1 v0 v1 (bs ++ byt (X * 2 ^ wd + u) (T + wd) (8 * ((T + wd) / 64))) := by
    rw [g1, ← List.append_assoc]
    exact h.buf.drew.trans hB
  have hlt : wb < w1.heap.size := Nat.lt_of_lt_of_le h.lt hB.onl.size
  refine Wr.next (hb.setOther hne h.new 0 _) (cell_set (d1.1 0 _ h.c0) 0 _) (cell_set (d1.1 1 _ h.c1) 0 _) (cell_set (d1.1 2 _ h.c2) 0 _) (fun q => ?_) hu (by rw [g2]; exact g3) hne h.new (by simpa [World.setCell] using hlt)
  simp [(d1.2 q).trans (h.free q)]

set_option maxHeartbeats 4000000 in
theorem write_walk (w0 w : World) (v0 : Value) (wb : Nat) (bs : List Nat) (X T : Nat) (v : Value) (acc u wd : Nat) (HW : Hid (Wr w0 w v0 wb bs X T v acc)) (hu : u < 2 ^ wd) (hwd : wd ≤ 64) (hl : bs.length + T ≤ 900000000) :
    Calls Ybad.prog 54 #[.pointer (some ⟨wb, 0, none⟩), .int .u64 u, .int .u64 wd] w fun e w' => e = .returned (.tuple #[]) ∧ ∃ v' acc', Wr w0 w' v0 wb bs (X * 2 ^ wd + u) (T + wd) v' acc' := by
  have c0 := HW.out.c0
  have c1 := HW.out.c1
  have c2 := HW.out.c2
  have f0 := HW.out.free 0
  have f1 := HW.out.free 1
  have f2 := HW.out.free 2
  have hT : T % 64 < 64 := Nat.mod_lt _ (by omega)
  obtain ⟨n, hn⟩ : ∃ n, T % 64 = n := ⟨_, rfl⟩
  rw [hn] at c2 hT
  have hu64 : u < 18446744073709551616 := Nat.lt_of_lt_of_le hu (Nat.pow_le_pow_right (by omega) hwd)
  have hT' : (n : Int) < 64 := by omega
  have hwd' : (wd : Int) ≤ 64 := by omega
  have NM : bits .and .u64 (u : Int) (IntKind.u64.wrap (IntKind.u64.wrap (2 ^ wd) - 1)) = (u : Int) := mask_num hu hwd
  by_cases hlt : n + wd < 64
  · have hlt' : (wd : Int) < 64 - (n : Int) := by omega
    have hg := word_go (X := X) (T := T) (acc := acc) hu (by omega) HW.out.ace
    have NO : Hid (bits .or .u64 (IntKind.u64.wrap ((acc : Int) * 2 ^ wd)) (u : Int) = (((acc * 2 ^ wd % 2 ^ 64) ||| u : Nat) : Int)) := or_num hu64
    have hA : (acc * 2 ^ wd % 2 ^ 64) ||| u < 2 ^ 64 := Nat.or_lt_two_pow (Nat.mod_lt _ (by decide)) hu64
    obtain ⟨acc', hacc'⟩ : ∃ acc', (acc * 2 ^ wd % 2 ^ 64) ||| u = acc' := ⟨_, rfl⟩
    rw [hacc'] at NO hg hA
    have HG := (show Hid _ from hg)
    have HAC := (show Hid _ from hA)
    have HN := (show Hid _ from hn)
    clear hg hA hacc' hn hl hu64 hu
    go_enter Ybad.func54, Ybad.ntmps54
    go_wp2_with fail
    (try simp only [Exit.inBlock, Exit.then])
    refine bodyPost_ret (results_none rfl _ _ _) rfl ?_
    rw [NO.out]
    obtain ⟨hg1, hg2, hg3⟩ := HG.out
    have h := HW.out
    have hnn := HN.out
    have e2 : (n : Int) + (wd : Int) = (((T + wd) % 64 : Nat) : Int) := by rw [hg2, hnn]; omega
    rw [e2]
    exact ⟨rfl, v, acc', Wr.next (by rw [hg1]; exact h.buf) h.c0 h.c1 h.c2 h.free HAC.out (by rw [hg2]; rw [hnn] at hg3 ⊢; exact hg3) h.ne h.new h.lt⟩
  · have hlt' : ¬ (wd : Int) < 64 - (n : Int) := by omega
    obtain ⟨f, hf⟩ : ∃ f, 64 - n = f := ⟨_, rfl⟩
    obtain ⟨r, hr⟩ : ∃ r, n + wd - 64 = r := ⟨_, rfl⟩
    have e1 : (64 : Int) - (n : Int) = (f : Int) := by omega
    have e2 : (wd : Int) - (f : Int) = (r : Int) := by omega
    have hlt2 : ¬ (wd : Int) < (f : Int) := by omega
    have hr64 : (r : Int) ≤ 64 := by omega
    have hf64 : (f : Int) ≤ 64 := by omega
    have hg := word_full (X := X) (T := T) (acc := acc) hu hwd (by omega) HW.out.ace
    rw [hn, hf, hr] at hg
    have NO : bits .or .u64 (IntKind.u64.wrap ((acc : Int) * 2 ^ f)) ((u : Int) / 2 ^ r) = (((acc * 2 ^ f % 2 ^ 64) ||| (u / 2 ^ r) : Nat) : Int) := by
      have := or_num (acc := acc) (u := u / 2 ^ r) (wd := f) (Nat.lt_of_le_of_lt (Nat.div_le_self _ _) hu64)
      rw [← this]; congr 1
    have hA : (acc * 2 ^ f % 2 ^ 64) ||| (u / 2 ^ r) < 2 ^ 64 := Nat.or_lt_two_pow (Nat.mod_lt _ (by decide)) (Nat.lt_of_le_of_lt (Nat.div_le_self _ _) hu64)
    obtain ⟨wo, hwo⟩ : ∃ wo, (acc * 2 ^ f % 2 ^ 64) ||| (u / 2 ^ r) = wo := ⟨_, rfl⟩
    rw [hwo] at NO hg hA
    have hbl := byt_len X T (8 * (T / 64))
    have KC := (show Hid _ from beAppend_walk w.drew v (bs ++ byt X T (8 * (T / 64))) wo (by omega) (show Hid _ from HW.out.buf.own.frame fun _ _ => rfl) (by rw [List.length_append, hbl]; omega))
    have HG := (show Hid _ from hg)
    have HN := (show Hid _ from hn)
    have HU := (show Hid _ from hu64)
    have HRT : Hid ((r : Int) = (((T + wd) % 64 : Nat) : Int)) := by show _ = _; rw [hg.2.1]
    clear hg hA hwo hn hl hu64 hu hbl hf hr
    go_enter Ybad.func54, Ybad.ntmps54
    go_wp2_with fail
    go_region_with (go_at_call 56; refine Calls.mono KC.out ?_; rintro e w1 ⟨v1, rfl, hB1⟩; obtain ⟨ao1, l1, cap1, rfl⟩ := hB1.form2; have HB1 := (show Hid _ from hB1); have d1 := wr_keep hB1 HW.out.ne HW.out.lt; have c0' := d1.1 0 _ c0; have c1' := d1.1 1 _ c1; have c2' := d1.1 2 _ c2; have g0 := (d1.2 0).trans f0; have g1 := (d1.2 1).trans f1; have g2 := (d1.2 2).trans f2; clear hB1 d1)
    all_goals (go_wp2_with fail; go_end0; rw [HRT.out]; exact ⟨rfl, _, u, write_out HW.out HB1.out HG.out HU.out⟩)
end Go.Proofs.YbulkecgoDoor

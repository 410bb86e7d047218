/-
  Sort, Clone and Compact off the shelf, and a row of the call's own under them.
-/
import Derived.Test.YbulkecisHeapWalk
import Derived.Lib.RowBridge
import Derived.Shelf.Sort.Plain
import Derived.Shelf.Slices.Clone
import Derived.Shelf.Slices.CompactI
namespace Go.Proofs.Ybulkecis
open Go.RowKit Go.Shelf Go.Sort _root_.Go.Proofs.Ybulkecis.Own
set_option linter.unusedVariables false
set_option maxRecDepth 100000
def renS : Go.Shelf.Ren := ⟨fun | 125 => 43 | 128 => 65 | 129 => 66 | 189 => 28 | 215 => 73 | 216 => 62 | 257 => 42 | 294 => 56 | 295 => 57 | 296 => 58 | 297 => 59 | 298 => 60 | 299 => 61 | 300 => 63 | 301 => 64 | 328 => 68 | 329 => 69 | 330 => 70 | 331 => 71 | 332 => 72 | 343 => 74 | n => n,
  fun | 28 => 22 | 46 => 111 | 53 => 73 | 51 => 132 | 131 => 129 | 182 => 123 | 183 => 124 | 218 => 134 | 222 => 24 | 228 => 139 | 229 => 120 | n => n, fun n => n⟩
theorem x125 : Yba.prog.funcs[renS.f 125]? = some (Body.n125 renS) := Yba.func43.trans (by kernel_rfl)
theorem x128 : Yba.prog.funcs[renS.f 128]? = some (Body.n128 renS) := Yba.func65.trans (by kernel_rfl)
theorem x129 : Yba.prog.funcs[renS.f 129]? = some (Body.n129 renS) := Yba.func66.trans (by kernel_rfl)
theorem x189 : Yba.prog.funcs[renS.f 189]? = some (Body.n189 renS) := Yba.func28.trans (by kernel_rfl)
theorem x215 : Yba.prog.funcs[renS.f 215]? = some (Body.n215 renS) := Yba.func73.trans (by kernel_rfl)
theorem x216 : Yba.prog.funcs[renS.f 216]? = some (Body.n216 renS) := Yba.func62.trans (by kernel_rfl)
theorem x257 : Yba.prog.funcs[renS.f 257]? = some (Body.n257 renS) := Yba.func42.trans (by kernel_rfl)
theorem x294 : Yba.prog.funcs[renS.f 294]? = some (Body.n294 renS) := Yba.func56.trans (by kernel_rfl)
theorem x295 : Yba.prog.funcs[renS.f 295]? = some (Body.n295 renS) := Yba.func57.trans (by kernel_rfl)
theorem x296 : Yba.prog.funcs[renS.f 296]? = some (Body.n296 renS) := Yba.func58.trans (by kernel_rfl)
theorem x297 : Yba.prog.funcs[renS.f 297]? = some (Body.n297 renS) := Yba.func59.trans (by kernel_rfl)
theorem x298 : Yba.prog.funcs[renS.f 298]? = some (Body.n298 renS) := Yba.func60.trans (by kernel_rfl)
theorem x299 : Yba.prog.funcs[renS.f 299]? = some (Body.n299 renS) := Yba.func61.trans (by kernel_rfl)
theorem x300 : Yba.prog.funcs[renS.f 300]? = some (Body.n300 renS) := Yba.func63.trans (by kernel_rfl)
theorem x301 : Yba.prog.funcs[renS.f 301]? = some (Body.n301 renS) := Yba.func64.trans (by kernel_rfl)
theorem x328 : Yba.prog.funcs[renS.f 328]? = some (Body.n328 renS) := Yba.func68.trans (by kernel_rfl)
theorem x329 : Yba.prog.funcs[renS.f 329]? = some (Body.n329 renS) := Yba.func69.trans (by kernel_rfl)
theorem x330 : Yba.prog.funcs[renS.f 330]? = some (Body.n330 renS) := Yba.func70.trans (by kernel_rfl)
theorem x331 : Yba.prog.funcs[renS.f 331]? = some (Body.n331 renS) := Yba.func71.trans (by kernel_rfl)
theorem x332 : Yba.prog.funcs[renS.f 332]? = some (Body.n332 renS) := Yba.func72.trans (by kernel_rfl)
theorem x343 : Yba.prog.funcs[renS.f 343]? = some (Body.n343 renS) := Yba.func74.trans (by kernel_rfl)
theorem laysS : Lays.n189 Yba.prog renS := {
  mixed := by kernel_rfl
  f125 := x125
  f128 := x128
  f129 := x129
  f189 := x189
  f215 := x215
  f216 := x216
  f257 := x257
  f294 := x294
  f295 := x295
  f296 := x296
  f297 := x297
  f298 := x298
  f299 := x299
  f300 := x300
  f301 := x301
  f328 := x328
  f329 := x329
  f330 := x330
  f331 := x331
  f332 := x332
  f343 := x343
  t0 := Yba.underlying0, a0 := Yba.isAgg0, z0 := Yba.sizeOf0, v0 := Yba.zeroValue0
  t3 := Yba.underlying3, a3 := Yba.isAgg3, z3 := Yba.sizeOf3, v3 := Yba.zeroValue3
  t4 := Yba.underlying4, a4 := Yba.isAgg4, z4 := Yba.sizeOf4, v4 := Yba.zeroValue4
  t5 := Yba.underlying5, a5 := Yba.isAgg5, z5 := Yba.sizeOf5, v5 := Yba.zeroValue5
  t9 := Yba.underlying9, a9 := Yba.isAgg9, z9 := Yba.sizeOf9, v9 := Yba.zeroValue9
  t28 := Yba.underlying22, a28 := Yba.isAgg22, z28 := Yba.sizeOf22, v28 := Yba.zeroValue22
  t46 := Yba.underlying111, a46 := Yba.isAgg111, z46 := Yba.sizeOf111, v46 := Yba.zeroValue111
  t51 := Yba.underlying132, a51 := Yba.isAgg132, z51 := Yba.sizeOf132, v51 := Yba.zeroValue132
  t53 := Yba.underlying73, a53 := Yba.isAgg73, z53 := Yba.sizeOf73, v53 := Yba.zeroValue73
  t131 := Yba.underlying129, a131 := Yba.isAgg129, z131 := Yba.sizeOf129, v131 := Yba.zeroValue129
  t182 := Yba.underlying123, a182 := Yba.isAgg123, z182 := Yba.sizeOf123, v182 := Yba.zeroValue123
  t183 := Yba.underlying124, a183 := Yba.isAgg124, z183 := Yba.sizeOf124, v183 := Yba.zeroValue124
  t218 := Yba.underlying134, a218 := Yba.isAgg134, z218 := Yba.sizeOf134, v218 := Yba.zeroValue134
  t222 := Yba.underlying24, a222 := Yba.isAgg24, z222 := Yba.sizeOf24, v222 := Yba.zeroValue24
  t228 := Yba.underlying139, a228 := Yba.isAgg139, z228 := Yba.sizeOf139, v228 := Yba.zeroValue139
  t229 := Yba.underlying120, a229 := Yba.isAgg120, z229 := Yba.sizeOf120, v229 := Yba.zeroValue120 }

def renC : Go.Shelf.Ren := ⟨fun | 15 => 27 | 20 => 29 | n => n, fun n => n, fun n => n⟩
theorem info3' : (Yba.prog.info? 3).map (fun i => (i.zero, i.size, i.bytes)) = some (some (Value.int IntKind.i64 0), 1, 8) := by kernel_rfl
theorem laysC : Lays2.n15 Yba.prog renC := {
  mixed := by kernel_rfl
  f15 := Yba.func27.trans (by kernel_rfl)
  t3 := Yba.underlying3, a3 := Yba.isAgg3, z3 := Yba.sizeOf3, v3 := Yba.zeroValue3
  t4 := Yba.underlying4, a4 := Yba.isAgg4, z4 := Yba.sizeOf4, v4 := Yba.zeroValue4
  t22 := Yba.underlying22, a22 := Yba.isAgg22, z22 := Yba.sizeOf22, v22 := Yba.zeroValue22
  i3 := info3' }
theorem laysK : Lays2.n20 Yba.prog renC := {
  mixed := by kernel_rfl
  f20 := Yba.func29.trans (by kernel_rfl)
  t0 := Yba.underlying0, a0 := Yba.isAgg0, z0 := Yba.sizeOf0, v0 := Yba.zeroValue0
  t3 := Yba.underlying3, a3 := Yba.isAgg3, z3 := Yba.sizeOf3, v3 := Yba.zeroValue3
  t4 := Yba.underlying4, a4 := Yba.isAgg4, z4 := Yba.sizeOf4, v4 := Yba.zeroValue4
  t22 := Yba.underlying22, a22 := Yba.isAgg22, z22 := Yba.sizeOf22, v22 := Yba.zeroValue22
  i3 := info3' }

/-- n numbers of T from a on. -/
def seg (T : Nat → Int) (a n : Nat) : List Int := (List.range n).map fun k => T (a + k)
theorem seg_len (T : Nat → Int) (a n : Nat) : (seg T a n).length = n := by simp [seg]
theorem seg_get {T : Nat → Int} {a n k : Nat} (h : k < n) : (seg T a n)[k]? = some (T (a + k)) := by simp [seg, h]
theorem mem_seg {T : Nat → Int} {a n : Nat} {x : Int} : x ∈ seg T a n ↔ ∃ k, a ≤ k ∧ k < a + n ∧ T k = x := by
  unfold seg
  rw [List.mem_map]
  constructor
  · rintro ⟨k, hk, e⟩
    exact ⟨a + k, by omega, by have := List.mem_range.1 hk; omega, e⟩
  · rintro ⟨k, h1, h2, e⟩
    exact ⟨k - a, List.mem_range.2 (by omega), by rw [show a + (k - a) = k by omega]; exact e⟩
/-- ys laid over T from a on. -/
def over (T : Nat → Int) (a : Nat) (ys : List Int) (k : Nat) : Int := if a ≤ k ∧ k < a + ys.length then ys.getD (k - a) 0 else T k
theorem over_out {T : Nat → Int} {a : Nat} {ys : List Int} {k : Nat} (h : ¬ (a ≤ k ∧ k < a + ys.length)) : over T a ys k = T k := by unfold over; rw [if_neg h]
theorem over_in {T : Nat → Int} {a : Nat} {ys : List Int} {k : Nat} (h : k < ys.length) : over T a ys (a + k) = ys[k] := by
  unfold over
  rw [if_pos ⟨by omega, by omega⟩, show a + k - a = k by omega, List.getD_eq_getElem?_getD, List.getElem?_eq_getElem h]; rfl
theorem seg_over (T : Nat → Int) (a : Nat) (ys : List Int) : seg (over T a ys) a ys.length = ys := by
  apply List.ext_getElem?
  intro k
  by_cases h : k < ys.length
  · rw [seg_get h, over_in h, List.getElem?_eq_getElem h]
  · rw [List.getElem?_eq_none (by rw [seg_len]; omega), List.getElem?_eq_none (by omega)]
theorem over_cons (T : Nat → Int) (a : Nat) (y : Int) (ys : List Int) (k : Nat) : over (fun k => if k = a then y else T k) (a + 1) ys k = over T a (y :: ys) k := by
  unfold over
  by_cases e : k = a
  · subst e
    rw [if_neg (by omega), if_pos ⟨by omega, by simp⟩]
    simp
  · by_cases h : a ≤ k ∧ k < a + (y :: ys).length
    · simp only [List.length_cons] at h
      rw [if_pos ⟨by omega, by omega⟩, if_pos ⟨by omega, by simp; omega⟩, show k - a = (k - (a + 1)) + 1 by omega]
      simp
    · simp only [List.length_cons] at h
      rw [if_neg (by omega), if_neg (by simp only [List.length_cons]; omega)]
      simp [e]

theorem OwnV.setCells {g L cp : Nat} : ∀ (ys : List Int) (a : Nat) (w : World) (T : Nat → Int), OwnV w 3 (.slice (some ⟨g, 0, none⟩) L cp) (il L T) → OwnV (w.setCells g a (ys.map (Value.int .i64))) 3 (.slice (some ⟨g, 0, none⟩) L cp) (il L (over T a ys))
  | [], a, w, T, h => by
    have e : il L (over T a []) = il L T := il_ext fun i _ => over_out (by simp only [List.length_nil]; omega)
    rw [e]; exact h
  | y :: ys, a, w, T, h => by
    have h1 := h.set (by rw [il_len]) a (.int .i64 y)
    rw [il_set] at h1
    have h2 := OwnV.setCells ys (a + 1) _ _ h1
    have e : il L (over (fun k => if k = a then y else T k) (a + 1) ys) = il L (over T a (y :: ys)) := il_ext fun i _ => over_cons T a y ys i
    rw [e] at h2
    exact h2
theorem Only.setCells {S : Nat → Prop} {g : Nat} (hg : S g) : ∀ (vs : List Value) (a : Nat) (u w : World), Only S u w → Only S u (w.setCells g a vs)
  | [], a, u, w, h => h
  | v :: vs, a, u, w, h => Only.setCells hg vs (a + 1) u _ (h.setCell ⟨g, a, none⟩ v fun _ => hg)
theorem Only.grow {S : Nat → Prop} {u w : World} (h : Only S u w) (os : Array Obj) : Only S u (Go.Sort.grow w os) :=
  ⟨h.os, h.tape, h.output, Nat.le_trans h.size (by simp), fun k hk hn => (heap_grow_old w os (Nat.lt_of_lt_of_le hk h.size)).trans (h.block k hk hn)⟩

theorem holds_own {w : World} {g L cp a n : Nat} {T : Nat → Int} (h : OwnV w 3 (.slice (some ⟨g, 0, none⟩) L cp) (il L T)) (hn : a + n ≤ L) : Holds (Value.int .i64) w g a (seg T a n).toArray := by
  intro j hj
  have hj' : j < n := by simpa [seg_len] using hj
  refine ⟨?_, h.free (by rw [il_len]) _⟩
  rw [h.cell (by rw [il_len]) (by rw [il_len]; omega), il_get (by omega)]
  have e : (seg T a n).toArray[j]! = T (a + j) := by
    have := seg_get (T := T) (a := a) hj'
    simp [seg, hj']
  rw [e]

structure Seg (L a n : Nat) (T T' : Nat → Int) (m : Nat) : Prop where
  out : ∀ k, ¬ (a ≤ k ∧ k < a + n) → T' k = T k
  mem : ∀ x, (∃ k, a ≤ k ∧ k < a + m ∧ T' k = x) ↔ ∃ k, a ≤ k ∧ k < a + n ∧ T k = x

theorem sort_own (w : World) (g L cp a n c : Nat) (T : Nat → Int) (h : OwnV w 3 (.slice (some ⟨g, 0, none⟩) L cp) (il L T)) (hn : a + n ≤ L) (hL : L ≤ 1000000) :
    Calls Yba.prog 28 #[.slice (some ⟨g, a, none⟩) n c] w fun e w' => e = .returned (.tuple #[]) ∧ ∃ T', OwnV w' 3 (.slice (some ⟨g, 0, none⟩) L cp) (il L T') ∧ Only (fun k => k = g) w w' ∧ Seg L a n T T' n ∧ ∀ k l, a ≤ k → k ≤ l → l < a + n → T' k ≤ T' l := by
  have hH := holds_own h hn
  have hc := Any.slices_Sort_int laysS g a c (seg T a n) w hH (h.lt rfl) (by rw [seg_len]; omega)
  rw [seg_len] at hc
  refine hc.mono ?_
  rintro e w' ⟨rfl, q, os, rfl⟩
  have hp := List.mergeSort_perm (seg T a n) (fun x y => decide (x ≤ y))
  have hl : ((seg T a n).mergeSort fun x y => decide (x ≤ y)).length = n := by rw [List.length_mergeSort, seg_len]
  rw [Lib.putRow_eq_setCells _ w g a _ _ q hH (by rw [hl]; simp [seg_len])]
  have hs : List.Pairwise (fun x y : Int => decide (x ≤ y) = true) ((seg T a n).mergeSort fun x y => decide (x ≤ y)) := List.pairwise_mergeSort (by intro x y z; simp; omega) (by intro x y; simp; omega) _
  generalize ((seg T a n).mergeSort fun x y => decide (x ≤ y)) = ys at *
  refine ⟨rfl, over T a ys, ?_, ?_, ⟨fun k hk => over_out (by rw [hl]; exact hk), fun x => ?_⟩, fun k l h1 h2 h3 => ?_⟩
  · refine OwnV.frame (w := (w.drewN q).setCells g a (ys.map (Value.int .i64))) (OwnV.setCells ys a _ T (h.frame fun _ _ => rfl)) fun g' hg' => ?_
    obtain rfl : g = g' := by simpa [Value.ownBlock] using hg'
    refine heap_grow_old _ _ ?_
    exact Nat.lt_of_lt_of_le (h.lt rfl) (Only.setCells (S := fun _ => True) trivial _ a w _ ((Only.refl _ w).drewN q)).size
  · exact Only.grow (Only.setCells (S := fun k => k = g) rfl _ a w _ ((Only.refl _ w).drewN q)) os
  · rw [← mem_seg, ← mem_seg, ← hp.mem_iff]
    have e := seg_over T a ys
    rw [hl] at e
    rw [e]
  · by_cases e : k = l
    · subst e; exact Int.le_refl _
    · have h4 := List.pairwise_iff_getElem.1 hs (k - a) (l - a) (by omega) (by omega) (by omega)
      have e1 := over_in (T := T) (a := a) (ys := ys) (k := k - a) (by omega)
      have e2 := over_in (T := T) (a := a) (ys := ys) (k := l - a) (by omega)
      rw [show a + (k - a) = k by omega] at e1
      rw [show a + (l - a) = l by omega] at e2
      rw [e1, e2]
      simpa using h4

open Go.Lib in
theorem compact_up (d : Array Int) (hs : ∀ i j, i ≤ j → j < d.size → d[i]! ≤ d[j]!) : ∀ m, m ≤ d.size → List.Pairwise (· < ·) (compactUpTo d m) ∧ (∀ x, x ∈ compactUpTo d m ↔ ∃ i, i < m ∧ d[i]! = x)
  | 0, _ => by simp [compactUpTo]
  | m + 1, hm => by
    obtain ⟨h1, h2⟩ := compact_up d hs m (by omega)
    rw [compactUpTo_succ]
    by_cases hk : keeps d m = true
    · rw [if_pos hk]
      refine ⟨?_, fun x => ?_⟩
      · rw [List.pairwise_append]
        refine ⟨h1, by simp, fun x hx y hy => ?_⟩
        have hy' : y = d[m]! := by simpa using hy
        obtain ⟨i, hi, e⟩ := (h2 x).1 hx
        have h3 := hs i (m - 1) (by omega) (by omega)
        have h4 := hs (m - 1) m (by omega) (by omega)
        have h5 : d[m]! ≠ d[m - 1]! := by
          have := hk
          unfold keeps at this
          have := of_decide_eq_true this
          rcases this with h | h
          · omega
          · exact h
        omega
      · rw [List.mem_append, h2]
        constructor
        · rintro (⟨i, hi, e⟩ | e)
          · exact ⟨i, by omega, e⟩
          · have e9 : x = d[m]! := by simpa using e
            exact ⟨m, by omega, e9.symm⟩
        · rintro ⟨i, hi, e⟩
          by_cases e2 : i = m
          · subst e2; exact .inr (by simp [e])
          · exact .inl ⟨i, by omega, e⟩
    · rw [if_neg hk, List.append_nil]
      refine ⟨h1, fun x => ?_⟩
      rw [h2]
      constructor
      · rintro ⟨i, hi, e⟩; exact ⟨i, by omega, e⟩
      · rintro ⟨i, hi, e⟩
        by_cases e2 : i = m
        · subst e2
          have h5 : ¬ (i = 0 ∨ d[i]! ≠ d[i - 1]!) := fun h => hk (by unfold keeps; exact decide_eq_true h)
          have h6 : i ≠ 0 := fun h => h5 (.inl h)
          have h7 : d[i]! = d[i - 1]! := Classical.byContradiction fun h => h5 (.inr h)
          exact ⟨i - 1, by omega, by rw [← h7]; exact e⟩
        · exact ⟨i, by omega, e⟩

theorem seg_bang {T : Nat → Int} {a n j : Nat} (h : j < n) : (seg T a n).toArray[j]! = T (a + j) := by simp [seg, h]

theorem compact_own (w : World) (g L cp a n c : Nat) (T : Nat → Int) (h : OwnV w 3 (.slice (some ⟨g, 0, none⟩) L cp) (il L T)) (hn : a + n ≤ L) (hc : n ≤ c) (hL : L ≤ 1000000) (hs : ∀ k l, a ≤ k → k ≤ l → l < a + n → T k ≤ T l) :
    Calls Yba.prog 29 #[.slice (some ⟨g, a, none⟩) n c] w fun e w' => ∃ m T', e = .returned (.slice (some ⟨g, a, none⟩) m c) ∧ m ≤ n ∧ OwnV w' 3 (.slice (some ⟨g, 0, none⟩) L cp) (il L T') ∧ Only (fun k => k = g) w w' ∧ Seg L a n T T' m ∧ ∀ k l, a ≤ k → k < l → l < a + m → T' k < T' l := by
  have hH := holds_own h hn
  have hcl := Any.slices_Compact_int laysK g a c (seg T a n) w hH (by rw [seg_len]; omega) (by rw [seg_len]; exact hc)
  rw [seg_len] at hcl
  refine hcl.mono ?_
  rintro e w' ⟨rfl, q, rfl⟩
  have hle := Lib.compact_length_le (seg T a n)
  rw [seg_len] at hle
  rw [Lib.putRow_eq_setCells _ w g a _ _ q hH (by simp [seg_len]; omega)]
  have hcu := compact_up (seg T a n).toArray (fun i j hij hj => by
    have hj' : j < n := by simpa [seg_len] using hj
    rw [seg_bang hj', seg_bang (by omega)]
    exact hs _ _ (by omega) (by omega) (by omega)) n (by simp [seg_len])
  have hcm : Lib.compact (seg T a n) = Lib.compactUpTo (seg T a n).toArray n := by unfold Lib.compact; rw [seg_len]
  rw [← hcm] at hcu
  obtain ⟨hp, hm⟩ := hcu
  generalize Lib.compact (seg T a n) = cs at *
  clear hcm
  obtain ⟨ys, hys⟩ : ∃ ys, ys = cs ++ List.replicate (n - cs.length) 0 := ⟨_, rfl⟩
  have hl : ys.length = n := by rw [hys]; simp; omega
  rw [← hys]
  have hin : ∀ k (hk : k < cs.length), over T a ys (a + k) = cs[k] := fun k hk => by
    rw [over_in (by omega)]
    simp [hys, List.getElem_append_left hk]
  refine ⟨cs.length, over T a ys, rfl, hle, OwnV.setCells ys a _ T (h.frame fun _ _ => rfl), Only.setCells (S := fun k => k = g) rfl _ a w _ ((Only.refl _ w).drewN q), ⟨fun k hk => over_out (by rw [hl]; exact hk), fun x => ?_⟩, fun k l h1 h2 h3 => ?_⟩
  · have e1 : (∃ k, a ≤ k ∧ k < a + cs.length ∧ over T a ys k = x) ↔ x ∈ cs := by
      constructor
      · rintro ⟨k, h1, h2, e⟩
        have := hin (k - a) (by omega)
        rw [show a + (k - a) = k by omega] at this
        rw [← e, this]
        exact List.getElem_mem _
      · intro hx
        obtain ⟨k, hk, e⟩ := List.getElem_of_mem hx
        exact ⟨a + k, by omega, by omega, by rw [hin k hk]; exact e⟩
    rw [e1, hm]
    constructor
    · rintro ⟨i, hi, e⟩
      rw [seg_bang hi] at e
      exact ⟨a + i, by omega, by omega, e⟩
    · rintro ⟨k, h1, h2, e⟩
      exact ⟨k - a, by omega, by rw [seg_bang (by omega), show a + (k - a) = k by omega]; exact e⟩
  · have e1 := hin (k - a) (by omega)
    have e2 := hin (l - a) (by omega)
    rw [show a + (k - a) = k by omega] at e1
    rw [show a + (l - a) = l by omega] at e2
    rw [e1, e2]
    exact List.pairwise_iff_getElem.1 hp (k - a) (l - a) (by omega) (by omega) (by omega)

/-- copy within a row of one's own, whatever the overlap. -/
theorem wpList_copy_in {w : World} {ops : Array Oper} {rest : List Oper} {o : Oper} {a : Act} {Q : Exit → Act → World → Prop} (hgd : o.guard = none) (d s : Operand)
    (ho : o.op = .call { callee := .builtin .copy, args := #[d, s], argTypes := #[22, 22] }) (g L cp x y m dLen dCap sCap xo : Nat) (T : Nat → Int)
    (hown : OwnV w 3 (.slice (some ⟨g, 0, none⟩) L cp) (il L T)) (hd : a.eval d = .slice (some ⟨g, xo, none⟩) dLen dCap) (hs : a.eval s = .slice (some ⟨g, y, none⟩) m sCap) (hxo : 0 < m → xo = x) (hm : m ≤ dLen) (hx : x + m ≤ L) (hy : y + m ≤ L)
    (h : wpList Yba.prog ops Q rest (a.put o.dst (goInt m)) (w.setCells g x ((seg T y m).map (Value.int .i64)))) : wpList Yba.prog ops Q (o :: rest) a w := by
  have hsz : (Yba.prog.info? 3).map (·.size) = some 1 := by kernel_rfl
  refine wpList_plain hgd fun K hK => ?_
  have hrun : (Builtin.copy_ #[22, 22] o.type #[.slice (some ⟨g, xo, none⟩) dLen dCap, .slice (some ⟨g, y, none⟩) m sCap]).run Yba.prog w = .ok (goInt m) (w.setCells g x ((seg T y m).map (Value.int .i64))) := by
    have hln : ((seg T y m).map (Value.int .i64)).length = m := by rw [List.length_map, seg_len]
    by_cases hz : m = 0
    · subst hz
      have := run_copy_none (P := Yba.prog) w 22 22 o.type 3 (some ⟨g, xo, none⟩) (some ⟨g, y, none⟩) dLen dCap 0 sCap Yba.underlying22 hsz (by simp)
      exact this
    · obtain rfl := hxo (by omega)
      have := run_copy_cells (P := Yba.prog) w 22 22 o.type 3 g xo dLen dCap ⟨g, y, none⟩ m sCap ((seg T y m).map (Value.int .i64)) Yba.underlying22 hsz (by rw [hln]; exact (Nat.min_eq_left hm).symm) (fun j v hv => by
        have hj : j < m := by rw [← hln]; exact (List.getElem?_eq_some_iff.1 hv).1
        rw [List.getElem?_map, seg_get hj] at hv
        simp only [Option.map_some, Option.some.injEq] at hv
        subst hv
        have ea : (⟨g, y, none⟩ : Addr).add j = ⟨g, y + j, none⟩ := by simp [Addr.add]
        rw [ea]
        rw [hown.cell (by rw [il_len]) (by rw [il_len]; omega), il_get (by omega)]) (fun j hj => by
        rw [hln] at hj
        rw [hown.cell (by rw [il_len]) (by rw [il_len]; omega), il_get (by omega)]; rfl) (fun j hj => hown.free (by rw [il_len]) _) (fun v hv => by
        obtain ⟨z, _, rfl⟩ := List.mem_map.1 hv
        rfl)
      rw [hln] at this
      exact this
  unfold Oper.wp
  simp [execOp, ho, resolve, invoke, builtin, hd, hs, hrun, Result.andThen]
  exact hK _ _ h

theorem clone_own (w : World) (g L cp n c : Nat) (T : Nat → Int) (h : OwnV w 3 (.slice (some ⟨g, 0, none⟩) L cp) (il L T)) (hn : n ≤ L) (hL : L ≤ 1000000) :
    Calls Yba.prog 27 #[.slice (some ⟨g, 0, none⟩) n c] w fun e w' => ∃ g' cp', e = .returned (.slice (some ⟨g', 0, none⟩) n cp') ∧ OwnV w' 3 (.slice (some ⟨g', 0, none⟩) n cp') (il n T) ∧ Below w.heap.size w w' ∧ w.heap.size ≤ g' := by
  have hc := Any.slices_Clone_int laysC g 0 n c (seg T 0 L) w (by rw [seg_len]; exact hn) (by omega) (fun j hj => by
    rw [seg_len] at hj
    rw [h.cell (by rw [il_len]) (by rw [il_len]; omega), il_get (by omega)]
    simp [seg, hj])
  refine hc.mono ?_
  rintro e w' ⟨v', rfl, ho, hne, hb⟩
  have e1 : ((seg T 0 L).take n).map (Value.int .i64) = il n T := by
    apply List.ext_getElem?
    intro k
    by_cases hk : k < n
    · rw [il_get hk]; simp [seg, hk, show k < L by omega]
    · rw [List.getElem?_eq_none (by simp [seg_len]; omega), List.getElem?_eq_none (by rw [il_len]; omega)]
  rw [e1] at ho
  obtain ⟨h1, h2⟩ := ho
  rcases h2 with ⟨h2, _⟩ | ⟨g', cp', cur, h2, h3, h4⟩
  · exact absurd h2 hne
  · subst h2
    exact ⟨g', cp', rfl, ⟨by rw [il_len]; simp, .inr ⟨g', cp', cur, by rw [il_len], Nat.zero_le _, by rw [il_len]; exact h4⟩⟩, hb, h3⟩
end Go.Proofs.Ybulkecis

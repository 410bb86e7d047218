/-
  THE LAW 'peerwell.LawS6442CWhole': the frame by proof-skeleton.mjs off the guide's own print; the walk by the prover of this seat.
-/
import Derived.Test.YbulkecjuRows
import Derived.WalkKit
import Derived.ProofKit
import Derived.OpenShut
import Derived.ShutString
import Derived.ChangeOld
import Derived.Below
import Derived.BigQuiet
import Derived.Deep.QuietTactic
import Derived.Laws.CopyOwn
import Derived.WalkSmall
import Derived.LaidEql
import Derived.LaidEqlPtr
import Derived.WalkLawsBesides
namespace Go.Proofs.Ybulkecju.lawS6442CWhole
open Go.ChangeShapes Go.WideShapes Go.ChangeAt Go.RowKit
open Go.ChangeMaps (open_string shut_string)
set_option linter.unusedVariables false
theorem own : ownKnob Yba.prog.godebug = none := by kernel_rfl
theorem laidOut : laidOutB Yba.prog = true := by kernel_rfl
/-- WHAT THE WALK IS TOLD OF A SLICE OF INTEGERS THAT CAME IN: it is nil; or it leads to a row of 'cap' cells, the numbers 'zs' (the first 'len' are its elements, the rest its spare room), each fitting its kind. -/
def IsRow (k : IntKind) (w : World) (a : Option Addr) (len cap : Nat) (zs : List Int) : Prop :=
  (a = none ∧ len = 0 ∧ cap = 0 ∧ zs = []) ∨
  ∃ x, a = some x ∧ len ≤ cap ∧ cap ≤ maxLen ∧ zs.length = cap ∧ (∀ i, i < zs.length → w.cell? (x.add i) = some (.int k (zs.getD i 0))) ∧ ∀ n ∈ zs, (Lit.int k n).wf = true

theorem info3 : (Yba.prog.info? 3).map (fun i => (i.zero, i.size, i.bytes)) = some (some (.int .i64 0), 1, 8) := by kernel_rfl
theorem size_info3 : (Yba.prog.info? 3).map (·.size) = some 1 := by kernel_rfl

theorem wpList_make_any {P : Program} (w : World) {ops : Array Oper} {rest : List Oper} {o : Oper} {a : Act} {Q : Exit → Act → World → Prop}
    (hg : o.guard = none) (l c : Operand) (t : TypeId) (hop : o.op = Op.makeSlice t l c)
    (e : TypeId) (i : TypeInfo) (z : Value) (h1 : P.underlying t = some (.slice e)) (h2 : P.info? e = some i) (h3 : i.zero = some z) (h4 : i.size = 1) (hzc : z.cells = #[z])
    (kl kc : IntKind) (L C : Int) (n m : Nat) (hl : a.eval l = .int kl L) (hc : a.eval c = .int kc C) (hL : L = (n : Int)) (hC : C = (m : Int)) (hnm : n ≤ m) (b2 : i.bytes * m ≤ 281474976710656) (b3 : m ≤ 9223372036854775807)
    (hK : ∀ w', Hid (w'.heap[w.heap.size]? = some (.cells (List.replicate m z).toArray e (0, 0))) → Below w.heap.size w w' → w'.heap.size = w.heap.size + 1 → wpList P ops Q rest (a.put o.dst (.slice (some ⟨w.heap.size, 0, none⟩) n m)) w') :
    wpList P ops Q (o :: rest) a w := by
  refine wpList_plain hg fun K hK' => ?_
  have hb' : (i.bytes : Int) * (m : Int) ≤ 281474976710656 := by
    have h : ((i.bytes * m : Nat) : Int) ≤ 281474976710656 := by omega
    rwa [Int.natCast_mul] at h
  have hrun := run_make (P := P) w t e i z h1 h2 h3 kl kc n m (by omega) (by omega) hb' (by omega)
  simp only [Int.toNat_natCast, h4, Nat.mul_one, hzc] at hrun
  subst hL
  subst hC
  unfold Oper.wp
  simp [execOp, hop, hl, hc, hrun, Result.andThen]
  refine hK' _ _ (hK _ ?_ ((Below.refl _ _).alloc (Nat.le_refl _) _) (by simp))
  show _ = _
  rw [heap_alloc_new, ← toList_madeCells_one]
set_option maxHeartbeats 400000 in
theorem trim_same (g n c : Nat) (w : World) (h : c / 4 < n) (hc : c ≤ 2000000) (hn : n ≤ 1048576) :
    Calls Yba.prog 12 #[.slice (some ⟨g, 0, none⟩) n c] w fun e w' => e = .returned (.slice (some ⟨g, 0, none⟩) n c) ∧ w = w' := by
  go_enter Yba.func12, Yba.ntmps12
  go_wp2
  go_ret
  exact ⟨rfl, rfl⟩
set_option maxHeartbeats 400000 in
theorem trim_copy (g n c : Nat) (src : List Value) (w : World) (h : n ≤ c / 4) (hc : c ≤ 2000000) (hn : n ≤ 1048576) (HL : Hid (src.length = n)) (H1 : Hid (∀ v ∈ src, v.oneCell' = true))
    (HC : Hid (∀ (j : Nat) v, src[j]? = some v → w.cell? ((⟨g, 0, none⟩ : Addr).add j) = some v)) :
    Calls Yba.prog 12 #[.slice (some ⟨g, 0, none⟩) n c] w fun e w' => ∃ v', e = .returned v' ∧ w'.ownsRow w.heap.size 3 1 v' n src ∧ w.grownBy w' none ∧ (v' = .slice none 0 0 ↔ n = 0) := by
  obtain ⟨i0, hi, hz0, hz1, hz2⟩ := info_parts info3
  go_enter Yba.func12, Yba.ntmps12
  go_wp2_with (at_builtin; refine wpList_append_own _ rfl _ _ 57 rfl w.heap.size 3 i0 (.int .i64 0) 1 8 Yba.underlying57 hi hz0 hz1 hz2 rfl (by decide) (.slice none 0 0) 0 [] rfl (World.ownsRow_nil _ _ _ _) ⟨g, 0, none⟩ n c src rfl (by rw [HL.out]; simp) HC.out H1.out (by unfold maxLen; omega) (by omega) (Nat.le_refl _) ?_; intro v' w1 hown hgrow hnil; simp only [Nat.zero_add, List.nil_append, true_and] at hown hnil; rw [show (Value.slice none 0 0).ownBlock = none from rfl] at hgrow)
  go_ret
  exact ⟨_, rfl, hown, hgrow, hnil⟩

theorem splice0_get {α : Type} (L cs : List α) (j : Nat) (h : j < cs.length) : (splice L 0 cs)[j]? = cs[j]? := by
  simp [splice, List.getElem?_append, h]
set_option maxHeartbeats 1000000 in
theorem walkA (b off n ex cap : Nat) (zs : List Int) (w : World) (hlc : n ≤ cap) (hl : zs.length = cap) (hpos : 0 < n) (hsm : n ≤ 1048576) (hex : ex ≤ 65535) (hbw : b < w.heap.size)
   (hcell : ∀ i, i < zs.length → w.cell? ⟨b, off + i, none⟩ = some (.int .i64 (zs.getD i 0))) (hbig : (n + ex) / 4 < n) :
    Calls Yba.prog 4 #[.slice (some ⟨b, off, none⟩) n cap, .int .u16 ex] w fun e w' => e = .returned (.bool true) ∧ Below w.heap.size w w' := by
  obtain ⟨i0, hi, hz0, hz1, hz2⟩ := info_parts info3
  obtain ⟨src, hsrc⟩ : ∃ src : List Value, src = (zs.take n).map (Value.int .i64) := ⟨_, rfl⟩
  have HS : Hid (src = (zs.take n).map (Value.int .i64)) := hsrc
  have hsl : src.length = n := by rw [hsrc]; simp; omega
  have HC : Hid (∀ w1, Below w.heap.size w w1 → ∀ (j : Nat) v, src[j]? = some v → w1.cell? ((⟨b, off, none⟩ : Addr).add j) = some v) := by
    show ∀ w1, Below w.heap.size w w1 → ∀ (j : Nat) v, src[j]? = some v → w1.cell? ((⟨b, off, none⟩ : Addr).add j) = some v
    intro w1 hb1 j v hv
    rw [hsrc] at hv
    simp only [List.getElem?_map, List.getElem?_take] at hv
    by_cases hj : j < n
    · rw [if_pos hj] at hv
      have h2 := hcell j (by omega)
      rw [WideShapes.add_plain, hb1.cell (by exact hbw), h2]
      rw [List.getElem?_eq_getElem (by omega)] at hv
      simp only [Option.map_some, Option.some.injEq] at hv
      rw [← hv, List.getD_eq_getElem?_getD, List.getElem?_eq_getElem (by omega)]; rfl
    · rw [if_neg hj] at hv; simp at hv
  have HL : Hid (src.length = n) := hsl
  have H1 : Hid (∀ v ∈ src, v.oneCell' = true) := by show ∀ v ∈ src, v.oneCell' = true; rw [hsrc]; intro v hv; obtain ⟨z, _, rfl⟩ := List.mem_map.1 hv; rfl
  have HCL := (show Hid _ from hcell)
  clear hsrc hsl hcell
  have hbig' : ((n : Int) + ex) / 4 < n := by omega
  go_enter Yba.func4, Yba.ntmps4
  go_wp2_with (first
    | (at_make; refine wpList_make_any _ rfl _ _ 57 rfl 3 i0 (.int .i64 0) Yba.underlying57 hi hz0 hz1 rfl _ _ _ _ n (n + ex) rfl rfl (by rfl) (by simp) (by omega) (by rw [hz2]; omega) (by omega) ?_; intro w1 HR hB1 hs1)
    | (refine wpList_copy_splice rfl _ _ 57 57 rfl 3 Yba.underlying57 size_info3 _ _ _ _ _ _ rfl rfl w.heap.size 0 _ 3 HR.out src (by rw [HL.out]; simp) (fun _ => ⟨rfl, _, rfl, HC.out _ hB1⟩) (by rw [HL.out]; simp) H1.out w.heap.size w hB1 (Nat.le_refl _) ?_; intro w2 HR2 hB2))
  have HD : Hid (∀ j, j < n → w2.cell? ⟨b, off + j, none⟩ = some (.int .i64 (zs.getD j 0))) := fun j hj => by
    rw [hB2.cell (by exact hbw)]; exact HCL.out _ (by omega)
  have HE : Hid (∀ j, j < n → w2.cell? ⟨w.heap.size, j, none⟩ = some (.int .i64 (zs.getD j 0))) := fun j hj => by
    rw [cell_of_row w2 w.heap.size j _ _ _ HR2.out]
    rw [List.getElem?_toArray, splice0_get _ _ _ (by rw [HL.out]; exact hj), HS.out]
    simp [hj]
    rw [List.getElem?_eq_getElem (by omega)]; simp
  refine (trim_same w.heap.size n (n + ex) _ hbig (by omega) hsm).mono ?_
  rintro e w' ⟨rfl, rfl⟩
  have hps := fun (w : World) (a : Addr) => run_eql_ptr_same (P := Yba.prog) w a Yba.underlying60 hi
  clear HC H1 HL HS HCL HR hB1 hs1 hi hz0 hz1 hz2
  have HR3 := HR2
  clear HR2
  go_wp2_with fail
  go_loopw [9] (fun i wr => ∃ k m : Nat, k ≤ n ∧ i = .int .i64 k ∧ wr = w2.drewN m) (fun i _ => n - (intOf i).toNat)
  case atStart => exact ⟨0, 0, by omega, rfl, rfl⟩
  case round =>
    obtain ⟨j, m, hj, rfl, rfl⟩ := hrel
    by_cases hjl : j < n
    · have hd := HD.out j hjl
      have he := HE.out j hjl
      go_wp2
      go_quiet (fail)
      go_wp2
      go_roundw
      case rel => exact ⟨j + 1, _, by omega, by go_num, rfl⟩
      case measure => simp [intOf]; omega
    · go_wp2
      go_quiet (fail)
      go_wp2
      go_ret
      exact ⟨rfl, below_drewN (below_drewN hB2 _) _⟩
set_option maxHeartbeats 1000000 in
theorem walkC (b off n ex cap : Nat) (zs : List Int) (w : World) (hlc : n ≤ cap) (hl : zs.length = cap) (hpos : 0 < n) (hsm : n ≤ 1048576) (hex : ex ≤ 65535) (hbw : b < w.heap.size)
   (hcell : ∀ i, i < zs.length → w.cell? ⟨b, off + i, none⟩ = some (.int .i64 (zs.getD i 0))) (hbig : n ≤ (n + ex) / 4) :
    Calls Yba.prog 4 #[.slice (some ⟨b, off, none⟩) n cap, .int .u16 ex] w fun e w' => e = .returned (.bool true) ∧ Below w.heap.size w w' := by
  obtain ⟨i0, hi, hz0, hz1, hz2⟩ := info_parts info3
  obtain ⟨src, hsrc⟩ : ∃ src : List Value, src = (zs.take n).map (Value.int .i64) := ⟨_, rfl⟩
  have HS : Hid (src = (zs.take n).map (Value.int .i64)) := hsrc
  have hsl : src.length = n := by rw [hsrc]; simp; omega
  have HC : Hid (∀ w1, Below w.heap.size w w1 → ∀ (j : Nat) v, src[j]? = some v → w1.cell? ((⟨b, off, none⟩ : Addr).add j) = some v) := by
    show ∀ w1, Below w.heap.size w w1 → ∀ (j : Nat) v, src[j]? = some v → w1.cell? ((⟨b, off, none⟩ : Addr).add j) = some v
    intro w1 hb1 j v hv
    rw [hsrc] at hv
    simp only [List.getElem?_map, List.getElem?_take] at hv
    by_cases hj : j < n
    · rw [if_pos hj] at hv
      have h2 := hcell j (by omega)
      rw [WideShapes.add_plain, hb1.cell (by exact hbw), h2]
      rw [List.getElem?_eq_getElem (by omega)] at hv
      simp only [Option.map_some, Option.some.injEq] at hv
      rw [← hv, List.getD_eq_getElem?_getD, List.getElem?_eq_getElem (by omega)]; rfl
    · rw [if_neg hj] at hv; simp at hv
  have HL : Hid (src.length = n) := hsl
  have H1 : Hid (∀ v ∈ src, v.oneCell' = true) := by show ∀ v ∈ src, v.oneCell' = true; rw [hsrc]; intro v hv; obtain ⟨z, _, rfl⟩ := List.mem_map.1 hv; rfl
  have HCL := (show Hid _ from hcell)
  clear hsrc hsl hcell
  have hbig' : (n : Int) ≤ ((n : Int) + ex) / 4 := by omega
  go_enter Yba.func4, Yba.ntmps4
  go_wp2_with (first
    | (at_make; refine wpList_make_any _ rfl _ _ 57 rfl 3 i0 (.int .i64 0) Yba.underlying57 hi hz0 hz1 rfl _ _ _ _ n (n + ex) rfl rfl (by rfl) (by simp) (by omega) (by rw [hz2]; omega) (by omega) ?_; intro w1 HR hB1 hs1)
    | (refine wpList_copy_splice rfl _ _ 57 57 rfl 3 Yba.underlying57 size_info3 _ _ _ _ _ _ rfl rfl w.heap.size 0 _ 3 HR.out src (by rw [HL.out]; simp) (fun _ => ⟨rfl, _, rfl, HC.out _ hB1⟩) (by rw [HL.out]; simp) H1.out w.heap.size w hB1 (Nat.le_refl _) ?_; intro w2 HR2 hB2))
  have HD : Hid (∀ j, j < n → w2.cell? ⟨b, off + j, none⟩ = some (.int .i64 (zs.getD j 0))) := fun j hj => by
    rw [hB2.cell (by exact hbw)]; exact HCL.out _ (by omega)
  have HE : Hid (∀ j, j < n → w2.cell? ⟨w.heap.size, j, none⟩ = some (.int .i64 (zs.getD j 0))) := fun j hj => by
    rw [cell_of_row w2 w.heap.size j _ _ _ HR2.out]
    rw [List.getElem?_toArray, splice0_get _ _ _ (by rw [HL.out]; exact hj), HS.out]
    simp [hj]
    rw [List.getElem?_eq_getElem (by omega)]; simp
  refine (trim_copy w.heap.size n (n + ex) src w2 hbig (by omega) hsm HL H1 (fun j v hv => ?_)).mono ?_
  · rw [WideShapes.add_plain, Nat.zero_add, cell_of_row w2 w.heap.size j _ _ _ HR2.out, List.getElem?_toArray]
    have hjl : j < src.length := by
      rcases Nat.lt_or_ge j src.length with h | h
      · exact h
      · simp [List.getElem?_eq_none h] at hv
    rw [splice0_get _ _ _ hjl]; exact hv
  rintro e w3 ⟨v', rfl, hown, hgrow, hnil⟩
  obtain ⟨g, cap', rfl, hgb, hrow, hcap⟩ : ∃ g cap', v' = .slice (some ⟨g, 0, none⟩) n cap' ∧ w2.heap.size ≤ g ∧ (∃ cur, w3.heap[g]? = some (.cells cur 3 (0, 0))) ∧ n ≤ cap' := by
    rcases hown.2 with ⟨rfl, h⟩ | ⟨g, cap', cur, hv, hgb, hh, hnc, _⟩
    · omega
    · exact ⟨g, cap', hv, hgb, ⟨cur, hh⟩, hnc⟩
  have hlt2 : w.heap.size < w2.heap.size := lt_of_block HR2.out
  have hB3 : Below w.heap.size w w3 := hB2.grown hgrow (by omega) (by simp)
  have HD3 : Hid (∀ j, j < n → w3.cell? ⟨b, off + j, none⟩ = some (.int .i64 (zs.getD j 0))) := fun j hj => hgrow.cell (HD.out j hj) (by simp)
  have HE3 : Hid (∀ j, j < n → w3.cell? ⟨w.heap.size, j, none⟩ = some (.int .i64 (zs.getD j 0))) := fun j hj => hgrow.cell (HE.out j hj) (by simp)
  have HG3 : Hid (∀ j, j < n → w3.cell? ⟨g, j, none⟩ = some (.int .i64 (zs.getD j 0))) := fun j hj => by
    rw [hown.cellAt j (by omega), HS.out]
    simp [hj]
    rw [List.getElem?_eq_getElem (by omega)]; simp
  have HF3 : Hid (w3.frozen? ⟨g, 0, none⟩ = false) := hown.frozenAt 0
  have HPO : Hid (∀ m, (binOp .eql 60 (.pointer (some ⟨g, 0, none⟩)) (.pointer (some ⟨w.heap.size, 0, none⟩))).run Yba.prog (w3.drewN m) = .ok (.bool false) (w3.drewN m)) := by
    show ∀ m, _
    intro m
    obtain ⟨cur, hcur⟩ := hrow
    have hr2 : w3.heap[w.heap.size]? = _ := (hgrow.block _ hlt2 (by simp)).trans HR2.out
    exact run_eql_ptr_other (P := Yba.prog) (w3.drewN m) (a := ⟨g, 0, none⟩) (b := ⟨w.heap.size, 0, none⟩) Yba.underlying60 hi (by omega) (fun h => by have := congrArg Addr.block h; simp at this; omega) hcur hr2
  have hgw : w.heap.size < g := by omega
  clear HC H1 HL HS HCL HR hB1 hs1 hi hz0 hz1 hz2 hown hgrow hnil HD HE HR2 hrow
  go_wp2_with fail
  go_loopw [9] (fun i wr => ∃ k m : Nat, k ≤ n ∧ i = .int .i64 k ∧ wr = w3.drewN m) (fun i _ => n - (intOf i).toNat)
  case atStart => exact ⟨0, 0, by omega, rfl, rfl⟩
  case round =>
    obtain ⟨j, m, hj, rfl, rfl⟩ := hrel
    by_cases hjl : j < n
    · have hd := HD3.out j hjl
      have he := HE3.out j hjl
      have hg := HG3.out j hjl
      go_wp2
      go_quiet (fail)
      go_wp2
      go_roundw
      case rel => exact ⟨j + 1, _, by omega, by go_num, rfl⟩
      case measure => simp [intOf]; omega
    · have hn0 : ((n : Int) == 0) = false := by simp; omega
      go_wp2
      have hpo := HPO.out
      go_quiet (fail)
      have hg0 := HG3.out 0 hpos
      have hf0 := HF3.out
      clear hpo
      go_wp2
      clear hg0 hf0
      have HD4 : Hid (∀ j, j < n → ((w3.drewN (m + nq)).setCell { block := g, off := 0 } (Value.int IntKind.i64 (wrap64 (zs[0]?.getD 0 + 1)))).cell? ⟨b, off + j, none⟩ = some (.int .i64 (zs.getD j 0))) := fun j hj => by
        rw [World.cell?_setCell_other _ _ _ _ (fun h => by have := congrArg Addr.block h; simp at this; omega)]; exact HD3.out j hj
      have HE4 : Hid (∀ j, j < n → ((w3.drewN (m + nq)).setCell { block := g, off := 0 } (Value.int IntKind.i64 (wrap64 (zs[0]?.getD 0 + 1)))).cell? ⟨w.heap.size, j, none⟩ = some (.int .i64 (zs.getD j 0))) := fun j hj => by
        rw [World.cell?_setCell_other _ _ _ _ (fun h => by have := congrArg Addr.block h; simp at this; omega)]; exact HE3.out j hj
      have hB4 : Below w.heap.size w ((w3.drewN (m + nq)).setCell { block := g, off := 0 } (Value.int IntKind.i64 (wrap64 (zs[0]?.getD 0 + 1)))) := (below_drewN hB3 _).setCell (by simp; omega) _
      generalize ((w3.drewN (m + nq)).setCell { block := g, off := 0 } (Value.int IntKind.i64 (wrap64 (zs[0]?.getD 0 + 1)))) = w4 at *
      clear HD3 HE3 HG3 HF3 HPO
      go_loopw [10] (fun i wr => ∃ k m : Nat, k ≤ n ∧ i = .int .i64 k ∧ wr = w4.drewN m) (fun i _ => n - (intOf i).toNat)
      case atStart => exact ⟨0, 0, by omega, rfl, rfl⟩
      case round =>
        obtain ⟨j, m, hj, rfl, rfl⟩ := hrel
        by_cases hjl : j < n
        · have hd := HD4.out j hjl
          have he := HE4.out j hjl
          go_wp2
          go_quiet (fail)
          go_wp2
          go_roundw
          case rel => exact ⟨j + 1, _, by omega, by go_num, rfl⟩
          case measure => simp [intOf]; omega
        · go_wp2
          go_ret
          exact ⟨rfl, below_drewN hB4 _⟩

set_option maxHeartbeats 1000000 in
theorem walkB (a0 : Option Addr) (ex cap : Nat) (w : World) (hex : ex ≤ 65535) :
    Calls Yba.prog 4 #[.slice a0 0 cap, .int .u16 ex] w fun e w' => e = .returned (.bool true) ∧ Below w.heap.size w w' := by
  obtain ⟨i0, hi, hz0, hz1, hz2⟩ := info_parts info3
  have hbig' : (0 : Int) ≤ (ex : Int) / 4 := by omega
  go_enter Yba.func4, Yba.ntmps4
  go_wp2_with (first
    | (at_make; refine wpList_make_any _ rfl _ _ 57 rfl 3 i0 (.int .i64 0) Yba.underlying57 hi hz0 hz1 rfl _ _ _ _ 0 ex rfl rfl (by rfl) (by simp) (by omega) (by rw [hz2]; omega) (by omega) ?_; intro w1 HR hB1 hs1)
    | (refine wpList_copy_nothing rfl _ _ 57 57 rfl 3 Yba.underlying57 size_info3 _ _ _ _ _ _ rfl rfl (by simp) ?_))
  refine (trim_copy w.heap.size 0 ex [] w1 (by omega) (by omega) (by omega) rfl (by intro v hv; cases hv) (by intro j v hv; simp at hv)).mono ?_
  rintro e w3 ⟨v', rfl, hown, hgrow, hnil⟩
  obtain rfl := hnil.2 rfl
  have hB3 : Below w.heap.size w w3 := hB1.grown hgrow (by omega) (by simp)
  clear hown hgrow hnil hi hz0 hz1 hz2 HR hs1
  have hse := fun (w : World) => (show (binOp .eql 57 (.slice none 0 0) (.slice none 0 0)).run Yba.prog w = .ok (.bool true) w by kernel_rfl)
  go_wp2_with fail
  refine wp_loop_rounds 1 ?_
  rw [rounds_succ]
  go_wp2
  go_ret
  exact ⟨rfl, hB3⟩

set_option maxHeartbeats 400000 in
theorem walkBig (a0 : Option Addr) (len cap : Nat) (ex : Int) (w : World) (h : 1048576 < len) (hm : len ≤ maxLen) :
    Calls Yba.prog 4 #[.slice a0 len cap, .int .u16 ex] w fun e w' => e = .returned (.bool true) ∧ Below w.heap.size w w' := by
  unfold maxLen at hm
  go_enter Yba.func4, Yba.ntmps4
  go_wp2
  go_ret
  exact ⟨rfl, Below.refl _ _⟩

theorem walk (a0 : Option Addr) (len0 cap0 : Nat) (z0 : List Int) (a1 : Int) (w : World) (w0 : IsRow .i64 w a0 len0 cap0 z0) (w1 : (Lit.int .u16 a1).wf = true) :
    Calls Yba.prog 4 #[.slice a0 len0 cap0, .int .u16 a1] w fun e w' => e = .returned (.bool true) ∧ Below w.heap.size w w' := by
  have hb := bounds_u16 w1
  obtain ⟨ex, rfl⟩ := Int.eq_ofNat_of_zero_le hb.1
  by_cases h0 : len0 = 0
  · subst h0
    exact walkB a0 ex cap0 w (by omega)
  · rcases w0 with ⟨_, h, _⟩ | ⟨x, rfl, hlc, hcm, hz, hcell, hwf⟩
    · exact absurd h h0
    · by_cases hbig : 1048576 < len0
      · exact walkBig _ _ _ _ w hbig (by omega)
      · obtain ⟨b, off, rfl, hc⟩ := ints_at hcell (by omega)
        have hbw : b < w.heap.size := World.block_lt_of_cell? w _ (hc 0 (by omega))
        by_cases h4 : (len0 + ex) / 4 < len0
        · exact walkA b off len0 ex cap0 z0 w hlc hz (by omega) (by omega) (by omega) hbw hc h4
        · exact walkC b off len0 ex cap0 z0 w hlc hz (by omega) (by omega) (by omega) hbw hc (by omega)

/-! ### THE ROW's STEP: WRITTEN OUT: LEAVE IT -/
set_option maxRecDepth 100000 in
theorem lifted (os : Os) (started : os.Started) (H : Type) (enc : TypeId × Value → H) :
    ReturnsInHanded {} Yba.checked os 4 .any (Rows.lawS6442CWholeSpec.pre6 enc Yba.prog Yba.f4 Rows.lawS6442CWholeRow.domain false) (Rows.lawS6442CWholeSpec.post enc Yba.prog Yba.f4 false true false false) := by
  refine returnsInHanded_of_change (C := Yba.checked) own started (by kernel_rfl) Yba.func4
    (ChangeSpec.witness6 (enc := enc) (C := Yba.checked) false ⟨#[], #[.slice none 0 0, .int .u16 0], []⟩ 8 (by kernel_rfl) (by kernel_rfl) (by kernel_rfl) (by kernel_rfl)) ?_
  intro W base args ds gs before hval0 hW hcnd _
  have hval : ∀ (j : Nat) t v, Yba.f4.params[j]? = some t → args[j]? = some v → Value.okWide Yba.prog W .any base t v := hval0
  have hW' := hW
  obtain ⟨p, q, hA0, hV, rfl, hfz, hnd⟩ := hW
  have hA : DataW.TrodAll enc Yba.prog W 0 (fun _ => true) true Yba.f4.params.toList args.toList ds p := hA0
  rw [Yba.params4] at hA hval
  obtain ⟨v0, vs0, d0, ds0, p0, q0, hargs, rfl, rfl, h0, r0⟩ := trodAll_cons hA
  obtain ⟨v1, vs1, d1, ds1, p1, q1, rfl, rfl, rfl, h1, r1⟩ := trodAll_cons r0
  obtain ⟨rfl, rfl, rfl⟩ := trodAll_nil r1
  obtain rfl : args = #[v0, v1] := by cases args; simp_all
  obtain ⟨rfl, rfl⟩ := trodVars_none hV
  obtain ⟨a0, len0, cap0, rfl⟩ := okWide_slice Yba.underlying57 (hval 0 57 v0 rfl rfl)
  have k0 := h0
  have lt0 : ∀ x ∈ p0, x.block < W.heap.size := by obtain ⟨m, hm⟩ := k0; exact DataW.trod_lt m _ _ _ hm
  obtain ⟨z0, w0⟩ : ∃ zs, IsRow .i64 W a0 len0 cap0 zs := by
    obtain ⟨fuel, hf⟩ := h0
    rcases open_ints Yba.underlying57 Yba.underlying3 (by kernel_rfl) hf with ⟨hcs, _⟩ | ⟨x, l, c, zs, hcs, _, hl, hm, hz, _, hcell, hwz⟩
    · simp [Value.cells] at hcs
      obtain ⟨rfl, rfl, rfl⟩ := hcs
      exact ⟨[], .inl ⟨rfl, rfl, rfl, rfl⟩⟩
    · simp [Value.cells] at hcs
      obtain ⟨rfl, rfl, rfl⟩ := hcs
      exact ⟨zs, .inr ⟨_, rfl, hl, hm, by simpa using hz, hcell, hwz⟩⟩
  obtain ⟨a1, rfl, rfl, rfl, w1⟩ := open_int Yba.underlying58 (hval 1 58 v1 rfl rfl) h1
  clear hA0 hval0
  refine (walk a0 len0 cap0 z0 a1 W w0 w1).mono fun e W' ⟨he, bel⟩ => ?_
  subst he
  exact ⟨_, rfl, _, _, _, [], _, [], hW', trodAll_mk1 (shut_bool Yba.underlying4 _), (trodAll_cons_mk (Below.trod laidOut (by kernel_rfl) (of_decide_eq_true (by kernel_rfl)) k0 bel lt0) (trodAll_cons_mk (shut_int Yba.underlying58 w1) trodAll_mk0)), rfl, bel.frame _, fun h => by cases h⟩

theorem over : Rows.lawS6442CWholeRow.holds Yba.pinned (OpenSpec.ofChange Rows.lawS6442CWholeSpec) :=
  OpenClaim.holds_of_wide 4 Yba.f4 rfl rfl rfl rfl rfl rfl rfl ⟨rfl, rfl, rfl, rfl, rfl⟩ rfl rfl rfl rfl rfl (by kernel_rfl) Yba.func4 (by kernel_rfl)
    (of_decide_eq_true (by kernel_rfl)) (by unfold Func.isWrapper; first | (rw [if_pos (by decide +kernel)]; kernel_rfl) | (rw [if_neg (by decide +kernel)]; exact ⟨rfl, rfl⟩))
    (fun os started H enc _ => lifted os started H enc)

/-- ████ THE STATEMENT ████ -/
theorem proved : Rows.LawS6442CWholeSaid := over
#print axioms proved
end Go.Proofs.Ybulkecju.lawS6442CWhole

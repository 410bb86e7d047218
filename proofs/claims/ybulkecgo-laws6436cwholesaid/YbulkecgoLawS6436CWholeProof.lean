/-
  THE LAW 'tuck.LawS6436CWhole': the frame by proof-skeleton.mjs off the guide's own print; the walk by the prover of this seat.
-/
import Derived.Test.YbulkecgoRows
import Derived.WalkKit
import Derived.ProofKit
import Derived.OpenShut
import Derived.ShutString
import Derived.ChangeOld
import Derived.Below
import Derived.BigQuiet
import Derived.Deep.QuietTactic
import Derived.Laws.CopyOwn
import Derived.WalkSmall
namespace Go.Proofs.Ybulkecgo.lawS6436CWhole
open Go.ChangeShapes Go.WideShapes Go.ChangeAt Go.RowKit
open Go.ChangeMaps (open_string shut_string)
set_option linter.unusedVariables false

theorem own : ownKnob Yba.prog.godebug = none := by kernel_rfl
theorem laidOut : laidOutB Yba.prog = true := by kernel_rfl
/-- WHAT THE WALK IS TOLD OF A SLICE OF INTEGERS THAT CAME IN: it is nil; or it leads to a row of 'cap' cells, the numbers 'zs' (the first 'len' are its elements, the rest its spare room), each fitting its kind. -/
def IsRow (k : IntKind) (w : World) (a : Option Addr) (len cap : Nat) (zs : List Int) : Prop :=
  (a = none ∧ len = 0 ∧ cap = 0 ∧ zs = []) ∨
  ∃ x, a = some x ∧ len ≤ cap ∧ cap ≤ maxLen ∧ zs.length = cap ∧ (∀ i, i < zs.length → w.cell? (x.add i) = some (.int k (zs.getD i 0))) ∧ ∀ n ∈ zs, (Lit.int k n).wf = true

def padB (z p : Int) : Bool := (bits .and .u8 z (255 / 2 ^ (p % 8).toNat) == 0)
def zb (z P : Int) (k : Nat) : Bool := (List.range k).all fun j => !(bits .and .u8 (z / 2^(7 - (P + j) % 8).toNat) 1 != 0)
theorem Yba.info5 : (Yba.prog.info? 5).map (fun i => (i.zero, i.size, i.bytes)) = some (some (.int .u8 0), 1, 1) := by kernel_rfl
theorem row_of_owns {w : World} {base : Nat} {e : TypeId} {g n : Nat} {xs : List Value} (h : w.ownsRow base e 1 (.slice (some ⟨g, 0, none⟩) n n) n xs) : w.heap[g]? = some (.cells xs.toArray e (0, 0)) := by
  rcases h.2 with ⟨h', _⟩ | ⟨g', cap', cur, h', _, hg, _, _, hs, htake⟩
  · simp at h'
  · simp only [Value.slice.injEq, Option.some.injEq, Addr.mk.injEq, and_true, true_and] at h'
    obtain ⟨rfl, rfl⟩ := h'
    have : cur.toList.length = n * 1 := by simpa using hs
    rw [← this, List.take_length] at htake
    rw [hg, ← htake]
theorem size_info5 : (Yba.prog.info? 5).map (·.size) = some 1 := by kernel_rfl
theorem splice_all {α : Type} (L cs : List α) (h : cs.length = L.length) : splice L 0 cs = cs := by
  simp [splice, h]
def padFull (z p : Int) : Bool := if p % 8 = 0 then true else padB z p
theorem bits_ok : ∀ z : Fin 256, ∀ r : Fin 8, r.val ≠ 0 → ((List.range (8 - r.val)).all fun j => !(bits .and .u8 ((z.val : Int) / 2 ^ (7 - (r.val + j)) ) 1 != 0)) = (bits .and .u8 (z.val : Int) (255 / 2 ^ r.val) == 0) := by decide +kernel
theorem pad_zb (z P : Int) (k : Nat) (z0 : 0 ≤ z) (z1 : z ≤ 255) (h0 : 0 ≤ P) (hk : (k : Int) + P % 8 ≤ 8) (hk0 : P % 8 = 0 → k = 0) (hm : (P + k) % 8 = 0) : padFull z P = zb z P k := by
  unfold padFull
  by_cases hz : P % 8 = 0
  · rw [if_pos hz, hk0 hz]; rfl
  · rw [if_neg hz]
    have hk' : k = 8 - (P % 8).toNat := by omega
    have h := bits_ok ⟨z.toNat, by omega⟩ ⟨(P % 8).toNat, by omega⟩ (by simp; omega)
    simp only [Int.toNat_of_nonneg z0] at h
    unfold padB zb
    rw [← h, hk']
    rw [Bool.eq_iff_iff, List.all_eq_true, List.all_eq_true]
    constructor
    · intro g j hj
      have := g j hj
      rw [List.mem_range] at hj
      rw [show (7 - (P + (j : Int)) % 8).toNat = 7 - ((P % 8).toNat + j) by omega]; exact this
    · intro g j hj
      have := g j hj
      rw [List.mem_range] at hj
      rw [show (7 - (P + (j : Int)) % 8).toNat = 7 - ((P % 8).toNat + j) by omega] at this; exact this
theorem zb_succ (z P : Int) (k : Nat) : zb z P (k + 1) = (zb z P k && !(bits .and .u8 (z / 2^(7 - (P + k) % 8).toNat) 1 != 0)) := by
  unfold zb; rw [List.range_succ, List.all_append]; simp
set_option maxHeartbeats 400000 in
theorem pad_zero (g : Nat) (p : Int) (w : World) (h0 : 0 ≤ p) (hp : p < 18446744073709551616)
  (hc1 : w.cell? ⟨g, 0 + 1, none⟩ = some (.int .u64 p)) (hm : p % 8 = 0) :
    Calls Yba.prog 4 #[.pointer (some ⟨g, 0, none⟩)] w fun e w' => e = .returned (.bool true) ∧ w' = w := by
  go_enter Yba.func4, Yba.ntmps4
  go_wp2
  go_ret
  exact ⟨rfl, rfl⟩
theorem ret_bool {a b : Bool} (h : a = b) : Ending.returned (.bool a) = .returned (.bool b) := by rw [h]
set_option maxHeartbeats 400000 in
theorem pad_not (g : Nat) (p : Int) (b off len cap : Nat) (z : Int) (w : World) (h0 : 0 ≤ p) (hp : p < 18446744073709551616)
  (hc0 : w.cell? ⟨g, 0, none⟩ = some (.slice (some ⟨b, off, none⟩) len cap))
  (hc1 : w.cell? ⟨g, 0 + 1, none⟩ = some (.int .u64 p)) (hm : ¬ p % 8 = 0) (hlt : p / 8 < (len : Int)) (hl : (len : Int) ≤ 1048576)
  (hz : w.cell? ⟨b, off + (p / 8).toNat, none⟩ = some (.int .u8 z)) (z0 : 0 ≤ z) (z1 : z ≤ 255) :
    Calls Yba.prog 4 #[.pointer (some ⟨g, 0, none⟩)] w fun e w' => e = .returned (.bool (padB z p)) ∧ ∃ n, w' = w.drewN n := by
  go_enter Yba.func4, Yba.ntmps4
  go_wp2
  go_quiet (fail)
  go_wp2
  go_ret
  exact ⟨ret_bool rfl, _, rfl⟩
theorem pad_any (g : Nat) (p : Int) (b off len cap : Nat) (z : Int) (w : World) (h0 : 0 ≤ p) (hp : p < 18446744073709551616)
  (hc0 : w.cell? ⟨g, 0, none⟩ = some (.slice (some ⟨b, off, none⟩) len cap))
  (hc1 : w.cell? ⟨g, 0 + 1, none⟩ = some (.int .u64 p)) (hlt : ¬ p % 8 = 0 → p / 8 < (len : Int)) (hl : (len : Int) ≤ 1048576)
  (hz : ¬ p % 8 = 0 → w.cell? ⟨b, off + (p / 8).toNat, none⟩ = some (.int .u8 z)) (z0 : 0 ≤ z) (z1 : z ≤ 255) (q : Bool) (hq : padFull z p = q) :
    Calls Yba.prog 4 #[.pointer (some ⟨g, 0, none⟩)] w fun e w' => e = .returned (.bool q) ∧ ∃ n, w' = w.drewN n := by
  subst hq
  unfold padFull
  by_cases hm : p % 8 = 0
  · rw [if_pos hm]
    exact (pad_zero g p w h0 hp hc1 hm).mono fun e w' ⟨a, b⟩ => ⟨a, 0, b⟩
  · rw [if_neg hm]
    exact pad_not g p b off len cap z w h0 hp hc0 hc1 hm (hlt hm) hl (hz hm) z0 z1
set_option maxHeartbeats 400000 in
theorem walkB (b off len cap : Nat) (zs : List Int) (pos : Int) (w : World) (hlc : len ≤ cap) (hl : zs.length = cap) (hpos : 0 < len) (hsm : len ≤ 1048576) (hbw : b < w.heap.size)
   (hcell : ∀ i, i < zs.length → w.cell? ⟨b, off + i, none⟩ = some (.int .u8 (zs.getD i 0))) (hwf : ∀ j : Nat, 0 ≤ zs.getD j 0 ∧ zs.getD j 0 ≤ 255)
   (wp : 0 ≤ pos ∧ pos < 18446744073709551616) :
    Calls Yba.prog 3 #[.slice (some ⟨b, off, none⟩) len cap, .int .u64 pos] w fun e w' => e = .returned (.bool true) ∧ Below w.heap.size w w' := by
  obtain ⟨i0, hi, hz0, hz1, hz2⟩ := info_parts Yba.info5
  obtain ⟨src, hsrc⟩ : ∃ src : List Value, src = (zs.take len).map (Value.int .u8) := ⟨_, rfl⟩
  have HS : Hid (src = (zs.take len).map (Value.int .u8)) := hsrc
  have hsl : src.length = len := by rw [hsrc]; simp; omega
  have HC : Hid (∀ w1, Below w.heap.size w w1 → ∀ (j : Nat) v, src[j]? = some v → w1.cell? ((⟨b, off, none⟩ : Addr).add j) = some v) := by
    show ∀ w1, Below w.heap.size w w1 → ∀ (j : Nat) v, src[j]? = some v → w1.cell? ((⟨b, off, none⟩ : Addr).add j) = some v
    intro w1 hb1 j v hv
    rw [hsrc] at hv
    simp only [List.getElem?_map, List.getElem?_take] at hv
    by_cases hj : j < len
    · rw [if_pos hj] at hv
      have h2 := hcell j (by omega)
      rw [WideShapes.add_plain, hb1.cell (by exact hbw), h2]
      rw [List.getElem?_eq_getElem (by omega)] at hv
      simp only [Option.map_some, Option.some.injEq] at hv
      rw [← hv, List.getD_eq_getElem?_getD, List.getElem?_eq_getElem (by omega)]; rfl
    · rw [if_neg hj] at hv; simp at hv
  have HL : Hid (src.length = len) := hsl
  have H1 : Hid (∀ v ∈ src, v.oneCell' = true) := by show ∀ v ∈ src, v.oneCell' = true; rw [hsrc]; intro v hv; obtain ⟨z, _, rfl⟩ := List.mem_map.1 hv; rfl
  clear hsrc hsl
  go_enter Yba.func3, Yba.ntmps3
  go_wp2_with (first
    | (at_make; refine wpList_make_full _ rfl _ _ 22 rfl w.heap.size 5 i0 (.int .u8 0) 1 Yba.underlying22 hi hz0 hz1 _ _ _ _ len rfl rfl (by rfl) (by rfl) (by rw [hz2]; omega) (by unfold maxLen; omega) (Nat.le_refl _) ?_; intro w1 hown hgrow; have hB1 := (Below.refl w.heap.size w).grown hgrow (Nat.le_refl _) (by simp); have hrow := row_of_owns hown; have HR := (show Hid _ from hrow); clear hrow hown)
    | (refine wpList_copy_splice rfl _ _ 22 22 rfl 5 Yba.underlying22 size_info5 _ _ _ _ _ _ rfl rfl w.heap.size 0 _ 5 HR.out src (by rw [HL.out]; simp) (fun _ => ⟨rfl, _, rfl, HC.out _ hB1⟩) (by rw [HL.out]; simp [size_madeCells]) H1.out w.heap.size w hB1 (Nat.le_refl _) ?_; intro w2 HR2 hB2; rw [splice_all _ _ (by rw [HL.out]; simp [size_madeCells])] at HR2; clear HR hB1))
  clear hgrow w1
  have hP0 : 0 ≤ pos % ((len : Int) * 8 + 1) := Int.emod_nonneg _ (by omega)
  have hP1 : pos % ((len : Int) * 8 + 1) ≤ (len : Int) * 8 := by have := Int.emod_lt_of_pos pos (show (0 : Int) < (len : Int) * 8 + 1 by omega); omega
  generalize pos % ((len : Int) * 8 + 1) = P at *
  clear hi hz0 hz1 hz2 i0
  have hzb := hwf (P / 8).toNat
  have hzc : ¬ P % 8 = 0 → w2.cell? ⟨b, off + (P / 8).toNat, none⟩ = some (.int .u8 (zs.getD (P / 8).toNat 0)) := fun hm => by
    rw [hB2.cell (by exact hbw)]; exact hcell _ (by omega)
  generalize zs.getD (P / 8).toNat 0 = z at *
  have HD : Hid (∀ j, j < len → w2.cell? ⟨b, off + j, none⟩ = some (.int .u8 (zs.getD j 0))) := fun j hj => by
    rw [hB2.cell (by exact hbw)]; exact hcell _ (by omega)
  have HE : Hid (∀ j, j < len → w2.cell? ⟨w.heap.size, j, none⟩ = some (.int .u8 (zs.getD j 0))) := fun j hj => by
    rw [cell_of_row w2 w.heap.size j _ _ _ HR2.out, HS.out]
    simp [hj]
    rw [List.getElem?_eq_getElem (by omega)]; simp
  clear hcell hwf
  go_loop [8, 9] (fun t i => ∃ k : Nat, (k : Int) + P % 8 ≤ 8 ∧ (P % 8 = 0 → k = 0) ∧ i = .int .u64 (P + k) ∧ t = .bool (zb z P k)) (fun _ i => (P + 8 - intOf i).toNat)
  case atStart => exact ⟨0, by omega, fun _ => rfl, by simp, rfl⟩
  case round =>
    obtain ⟨k, hk, hk0, rfl, rfl⟩ := hrel
    by_cases hm : (P + k) % 8 = 0
    · have HQ : Hid (padFull z P = zb z P k) := pad_zb z P k hzb.1 hzb.2 hP0 hk hk0 hm
      have HZ := (show Hid _ from hzc)
      clear hzc
      generalize zb z P k = q at *
      go_wp2_with fail
      refine (pad_any w2.heap.size P b off len cap z _ hP0 (by omega) ?_ ?_ (fun h => by omega) (by omega) ?_ hzb.1 hzb.2 q HQ.out).mono ?_
      · simp
      · simp
      · intro h; rw [World.cell?_alloc_past _ _ _ (by have := hB2.size; show b < _; omega)]; exact HZ.out h
      rintro e w' ⟨rfl, n, rfl⟩
      have hsz2 := hB2.size
      have hlt2 : w.heap.size < w2.heap.size := lt_of_block HR2.out
      have HD3 : Hid (∀ j, j < len → (w2.alloc (Obj.cells #[Value.slice (some { block := b, off := off }) len cap, Value.int IntKind.u64 P] 27)).cell? ⟨b, off + j, none⟩ = some (.int .u8 (zs.getD j 0))) := fun j hj => by
        rw [World.cell?_alloc_past _ _ _ (by show b < _; omega)]; exact HD.out j hj
      have HE3 : Hid (∀ j, j < len → (w2.alloc (Obj.cells #[Value.slice (some { block := b, off := off }) len cap, Value.int IntKind.u64 P] 27)).cell? ⟨w.heap.size, j, none⟩ = some (.int .u8 (zs.getD j 0))) := fun j hj => by
        rw [World.cell?_alloc_past _ _ _ (by show w.heap.size < _; omega)]; exact HE.out j hj
      have hB3 := hB2.alloc (by omega) (Obj.cells #[Value.slice (some { block := b, off := off }) len cap, Value.int IntKind.u64 P] 27)
      go_wp2_with fail
      generalize (w2.alloc (Obj.cells #[Value.slice (some { block := b, off := off }) len cap, Value.int IntKind.u64 P] 27)) = w3 at *
      clear HD HE HZ HQ HC H1 HL HR2 hzb hk hk0 hm
      go_loopw [12] (fun i wr => ∃ k n : Nat, k ≤ len ∧ i = .int .i64 k ∧ wr = w3.drewN n) (fun i _ => len - (intOf i).toNat)
      case atStart => exact ⟨0, n, by omega, rfl, rfl⟩
      case round =>
        obtain ⟨j, m, hj, rfl, rfl⟩ := hrel
        by_cases hjl : j < len
        · have hd := HD3.out j hjl
          have he := HE3.out j hjl
          go_wp2
          go_quiet (fail)
          go_wp2
          go_roundw
          case rel => exact ⟨j + 1, _, by omega, by go_num, rfl⟩
          case measure => simp [intOf]; omega
        · go_wp2
          go_ret
          exact ⟨rfl, below_drewN hB3 _⟩
    · have hzz : w2.cell? ⟨b, off + ((P + k) / 8).toNat, none⟩ = some (.int .u8 z) := by
        rw [show (P + k) / 8 = P / 8 by omega]; exact hzc (by omega)
      have hb1 : (P + k) / 8 < len := by omega
      have HZ := zb_succ z P k
      have HZ' := (show Hid _ from HZ)
      clear HZ
      go_wp2
      all_goals
        go_round
        case rel => exact ⟨k + 1, by omega, by omega, by go_num, by rw [HZ'.out]; simp [*]⟩
        case measure => simp [intOf]; omega

set_option maxHeartbeats 400000 in
theorem walkBig (a0 : Option Addr) (len cap : Nat) (pos : Int) (w : World) (h : 1048576 < len) (hm : len ≤ maxLen) :
    Calls Yba.prog 3 #[.slice a0 len cap, .int .u64 pos] w fun e w' => e = .returned (.bool true) ∧ Below w.heap.size w w' := by
  unfold maxLen at hm
  go_enter Yba.func3, Yba.ntmps3
  go_wp2
  go_ret
  exact ⟨rfl, Below.refl _ _⟩

set_option maxHeartbeats 400000 in
theorem walkNone (a0 : Option Addr) (cap : Nat) (pos : Int) (w : World) (wp : 0 ≤ pos ∧ pos < 18446744073709551616) :
    Calls Yba.prog 3 #[.slice a0 0 cap, .int .u64 pos] w fun e w' => e = .returned (.bool true) ∧ Below w.heap.size w w' := by
  obtain ⟨i0, hi, hz0, hz1, hz2⟩ := info_parts Yba.info5
  go_enter Yba.func3, Yba.ntmps3
  go_wp2_with (first
    | (at_make; refine wpList_make_full _ rfl _ _ 22 rfl w.heap.size 5 i0 (.int .u8 0) 1 Yba.underlying22 hi hz0 hz1 _ _ _ _ 0 rfl rfl (by rfl) (by rfl) (by omega) (by unfold maxLen; omega) (Nat.le_refl _) ?_; intro w1 hown hgrow; have hB1 := (Below.refl w.heap.size w).grown hgrow (Nat.le_refl _) (by simp); clear hown)
    | (refine wpList_copy_nothing rfl _ _ 22 22 rfl 5 Yba.underlying22 size_info5 _ _ _ _ _ _ rfl rfl (by simp) ?_))
  have hs1 := hB1.size
  clear hi hz0 hz1 hz2 i0 hgrow
  refine wp_loop_rounds 1 ?_
  rw [rounds_succ]
  go_wp2_with fail
  refine (pad_zero w1.heap.size 0 _ (by omega) (by omega) (by simp) (by omega)).mono ?_
  rintro e w' ⟨rfl, rfl⟩
  go_wp2_with fail
  refine wp_loop_rounds 1 ?_
  rw [rounds_succ]
  go_wp2
  go_ret
  exact ⟨rfl, hB1.alloc (by omega) _⟩

theorem walk (a0 : Option Addr) (len0 cap0 : Nat) (z0 : List Int) (a1 : Int) (w : World) (w0 : IsRow .u8 w a0 len0 cap0 z0) (w1 : (Lit.int .u64 a1).wf = true) :
    Calls Yba.prog 3 #[.slice a0 len0 cap0, .int .u64 a1] w fun e w' => e = .returned (.bool true) ∧ Below w.heap.size w w' := by
  have hb := bounds_u64 w1
  by_cases h0 : len0 = 0
  · subst h0
    exact walkNone a0 cap0 a1 w (by omega)
  · rcases w0 with ⟨_, h, _⟩ | ⟨x, rfl, hlc, hcm, hz, hcell, hwf⟩
    · exact absurd h h0
    · by_cases hbig : 1048576 < len0
      · exact walkBig _ _ _ _ w hbig (by omega)
      · obtain ⟨b, off, rfl, hc⟩ := ints_at hcell (by omega)
        have hbw : b < w.heap.size := World.block_lt_of_cell? w _ (hc 0 (by omega))
        refine walkB b off len0 cap0 z0 a1 w hlc hz (by omega) (by omega) hbw hc (fun j => ?_) (by omega)
        have := range_u8 hwf j
        simpa using this

/-! ### THE ROW's STEP: WRITTEN OUT: LEAVE IT -/
set_option maxRecDepth 100000 in
theorem lifted (os : Os) (started : os.Started) (H : Type) (enc : TypeId × Value → H) :
    ReturnsInHanded {} Yba.checked os 3 .any (Rows.lawS6436CWholeSpec.pre6 enc Yba.prog Yba.f3 Rows.lawS6436CWholeRow.domain false) (Rows.lawS6436CWholeSpec.post enc Yba.prog Yba.f3 false true false false) := by
  refine returnsInHanded_of_change (C := Yba.checked) own started (by kernel_rfl) Yba.func3
    (ChangeSpec.witness6 (enc := enc) (C := Yba.checked) false ⟨#[], #[.slice none 0 0, .int .u64 0], []⟩ 8 (by kernel_rfl) (by kernel_rfl) (by kernel_rfl) (by kernel_rfl)) ?_
  intro W base args ds gs before hval0 hW hcnd _
  have hval : ∀ (j : Nat) t v, Yba.f3.params[j]? = some t → args[j]? = some v → Value.okWide Yba.prog W .any base t v := hval0
  have hW' := hW
  obtain ⟨p, q, hA0, hV, rfl, hfz, hnd⟩ := hW
  have hA : DataW.TrodAll enc Yba.prog W 0 (fun _ => true) true Yba.f3.params.toList args.toList ds p := hA0
  rw [Yba.params3] at hA hval
  obtain ⟨v0, vs0, d0, ds0, p0, q0, hargs, rfl, rfl, h0, r0⟩ := trodAll_cons hA
  obtain ⟨v1, vs1, d1, ds1, p1, q1, rfl, rfl, rfl, h1, r1⟩ := trodAll_cons r0
  obtain ⟨rfl, rfl, rfl⟩ := trodAll_nil r1
  obtain rfl : args = #[v0, v1] := by cases args; simp_all
  obtain ⟨rfl, rfl⟩ := trodVars_none hV
  obtain ⟨a0, len0, cap0, rfl⟩ := okWide_slice Yba.underlying22 (hval 0 22 v0 rfl rfl)
  have k0 := h0
  have lt0 : ∀ x ∈ p0, x.block < W.heap.size := by obtain ⟨m, hm⟩ := k0; exact DataW.trod_lt m _ _ _ hm
  obtain ⟨z0, w0⟩ : ∃ zs, IsRow .u8 W a0 len0 cap0 zs := by
    obtain ⟨fuel, hf⟩ := h0
    rcases open_ints Yba.underlying22 Yba.underlying5 (by kernel_rfl) hf with ⟨hcs, _⟩ | ⟨x, l, c, zs, hcs, _, hl, hm, hz, _, hcell, hwz⟩
    · simp [Value.cells] at hcs
      obtain ⟨rfl, rfl, rfl⟩ := hcs
      exact ⟨[], .inl ⟨rfl, rfl, rfl, rfl⟩⟩
    · simp [Value.cells] at hcs
      obtain ⟨rfl, rfl, rfl⟩ := hcs
      exact ⟨zs, .inr ⟨_, rfl, hl, hm, by simpa using hz, hcell, hwz⟩⟩
  obtain ⟨a1, rfl, rfl, rfl, w1⟩ := open_int Yba.underlying23 (hval 1 23 v1 rfl rfl) h1
  clear hA0 hval0
  refine (walk a0 len0 cap0 z0 a1 W w0 w1).mono fun e W' ⟨he, bel⟩ => ?_
  subst he
  exact ⟨_, rfl, _, _, _, [], _, [], hW', trodAll_mk1 (shut_bool Yba.underlying4 _), (trodAll_cons_mk (Below.trod laidOut (by kernel_rfl) (of_decide_eq_true (by kernel_rfl)) k0 bel lt0) (trodAll_cons_mk (shut_int Yba.underlying23 w1) trodAll_mk0)), rfl, bel.frame _, fun h => by cases h⟩

theorem over : Rows.lawS6436CWholeRow.holds Yba.pinned (OpenSpec.ofChange Rows.lawS6436CWholeSpec) :=
  OpenClaim.holds_of_wide 3 Yba.f3 rfl rfl rfl rfl rfl rfl rfl ⟨rfl, rfl, rfl, rfl, rfl⟩ rfl rfl rfl rfl rfl (by kernel_rfl) Yba.func3 (by kernel_rfl)
    (of_decide_eq_true (by kernel_rfl)) (by unfold Func.isWrapper; first | (rw [if_pos (by decide +kernel)]; kernel_rfl) | (rw [if_neg (by decide +kernel)]; exact ⟨rfl, rfl⟩))
    (fun os started H enc _ => lifted os started H enc)

/-- ████ THE STATEMENT ████ -/
theorem proved : Rows.LawS6436CWholeSaid := over
#print axioms proved
end Go.Proofs.Ybulkecgo.lawS6436CWhole

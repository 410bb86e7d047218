/-
  slices.Chunk and the length of a series at an order.
-/
import Derived.Test.YbulkecgoDoorLens
import Derived.RangeFuncNested
import Derived.RangeFuncBound
import Derived.RangeFuncCalls
import Derived.RangeFuncLeaves
import Derived.RangeFuncFrom
import Derived.Shelf.Abstract
import Derived.Shelf.RegionOpen
import Derived.OwnWalkIn
import Derived.TacticsInMore
import Derived.LoopNIn
import Derived.LoopIn
namespace Go.Proofs.YbulkecgoDoor
open Go.RowKit Go.Shelf
set_option linter.unusedVariables false
set_option maxRecDepth 100000
attribute [local go_sem] Oper.semAt_some

/-- The frames of m values: how many; a number held within them. -/
def nfr (m : Nat) : Nat := (m + 127) / 128
def cl (m k : Nat) : Nat := min k ((m - 1) / 128)
/-- Frame k as a slice. -/
def frV (b o m k : Nat) : Value := .slice (some ⟨b, o + 128 * cl m k, none⟩) (min 128 (m - 128 * cl m k)) (min 128 (m - 128 * cl m k))
/-- What a round must keep: the iterator's two boxes. -/
def Kc (Bs Bn : Nat) (W W' : World) : Prop := W'.cell? ⟨Bs, 0, none⟩ = W.cell? ⟨Bs, 0, none⟩ ∧ W'.cell? ⟨Bn, 0, none⟩ = W.cell? ⟨Bn, 0, none⟩
theorem grownBy_drew (W : World) : W.grownBy W.drew none := ⟨rfl, rfl, rfl, Nat.le_refl _, fun _ _ _ => rfl⟩

set_option maxHeartbeats 2000000 in
theorem chunk1_in (n : Nat) (hn : 1 ≤ n) (l Bs Bn b o m cap : Nat) (sa : Option Addr) (hm : m ≤ 65536) (hsa : 0 < m → sa = some ⟨b, o, none⟩) (hmc : m ≤ cap) (hcap : cap ≤ 9223372036854775807) (J Jx : List Nat → World → Prop) (B : Nat) (hJ : AbidesFrom B J)
    (hY : ∀ pre x W, J pre W → pre.length < nfr m → YieldAt Fence.wide (n - 1) Ybad.prog l #[frV b o m x] W fun e W' =>
      (e = .returned (.bool true) ∧ J (pre ++ [x]) W' ∧ Kc Bs Bn W W') ∨ (e = .returned (.bool false) ∧ Jx (pre ++ [x]) W'))
    (W : World) (hBs : W.cell? ⟨Bs, 0, none⟩ = some (.slice sa m cap)) (hBn : W.cell? ⟨Bn, 0, none⟩ = some (.int .i64 128)) (h0 : J [] W) :
    CallsIn Fence.wide n Ybad.prog 48 #[.func (.yield l) #[] #[], .pointer (some ⟨Bs, 0, none⟩), .pointer (some ⟨Bn, 0, none⟩)] W fun e W' => (∃ v, e = .returned v) ∧
      ((∃ ys, ys = List.range (nfr m) ∧ J ys W') ∨ (∃ pre, True ∧ Jx pre W')) := by
  have HSA := (show Hid _ from hsa)
  have HJ := (show Hid _ from hJ)
  have HY := (show Hid _ from hY)
  clear hsa hJ hY
  refine callsIn_of_wp Ybad.func48 rfl trivial ?_ rfl
  simp only [Ybad.ntmps48, List.size_toArray, List.length_cons, List.length_nil, Nat.reduceAdd, Nat.reduceSub, Array.replicate_succ, Array.replicate_zero, List.push_toArray, List.append_toArray, List.nil_append, List.cons_append]
  gi_wp2
  gi_loopw [4, 5] (fun i e wr => ∃ k : Nat, k ≤ nfr m ∧ i = .int .i64 (128 * k : Nat) ∧ J (List.range k) wr ∧ wr.cell? ⟨Bs, 0, none⟩ = some (.slice sa m cap) ∧ wr.cell? ⟨Bn, 0, none⟩ = some (.int .i64 128))
    (fun i _ _ => m - (intOf i).toNat)
  case atStart => exact ⟨0, Nat.zero_le _, rfl, h0, hBs, hBn⟩
  case round =>
    obtain ⟨k, hk, rfl, hJs, cBs, cBn⟩ := hrel
    have HJs := (show Hid _ from hJs)
    clear hJs hBs hBn h0
    have HNF : Hid (nfr m = (m + 127) / 128) := rfl
    by_cases hlt : 128 * k < m
    · obtain rfl := HSA.out (by omega)
      have hcl : cl m k = k := by unfold cl; omega
      have g1 : ((128 * k : Nat) : Int) < m := by omega
      have g0 : (0 : Int) ≤ ((128 * k : Nat) : Int) := by omega
      have g2 : ((128 * k : Nat) : Int) ≤ m := by omega
      have hk2 : (k : Int) ≤ 600 := by omega
      have hmx : Ybad.prog.follows .mixedOrders = true := by kernel_rfl
      obtain ⟨M, hM⟩ : ∃ M, M = min 128 (m - 128 * k) := ⟨_, rfl⟩
      have eM : min (128 : Int) ((m - 128 * k : Nat) : Int) = (M : Int) := by omega
      have HEM := (show Hid _ from eM)
      have hM1 : 1 ≤ M := by omega
      have hM2 : 128 * k + M ≤ m := by omega
      have HMM := (show Hid _ from hM)
      clear hM eM
      have g3 : ((128 * k : Nat) : Int) + (M : Int) ≤ m := by omega
      have g4 : (128 : Int) * (k : Int) + (M : Int) ≤ cap := by omega
      have g5 : (128 : Int) * (k : Int) ≤ (128 : Int) * (k : Int) + (M : Int) := by omega
      obtain ⟨fn, tmps, assign, body, hy, hR⟩ := HY.out (List.range k) k wr.drew (HJ.out _ _ _ none HJs.out (grownBy_drew wr) (fun r e => by cases e)) (by rw [List.length_range]; have := HNF.out; omega)
      unfold frV at hy
      rw [hcl, ← HMM.out] at hy
      have HR := (show Hid _ from hR)
      clear hR
      gi_wp2
      gi_region_o
      rw [HEM.out]
      gi_wp2
      refine RoundIn.mono HR.out ?_
      rintro e W3 (⟨rfl, hJ3, hk3⟩ | ⟨rfl, hJx3⟩)
      · have cBs3 : W3.cell? ⟨Bs, 0, none⟩ = some (.slice (some ⟨b, o, none⟩) m cap) := hk3.1.trans cBs
        have cBn3 : W3.cell? ⟨Bn, 0, none⟩ = some (.int .i64 128) := hk3.2.trans cBn
        have HJ3 := (show Hid _ from hJ3)
        clear hJ3 hk3 cBs cBn
        gi_wp2
        go_roundw
        case rel => exact ⟨k + 1, by have := HNF.out; omega, by go_num, by rw [List.range_succ]; exact HJ3.out, cBs3, cBn3⟩
        case measure => simp [intOf]; omega
      · have HJ3 := (show Hid _ from hJx3)
        clear hJx3
        gi_wp2
        refine bodyPost_ret (results_none rfl _ _ _) rfl ?_
        exact ⟨⟨_, rfl⟩, .inr ⟨_, trivial, HJ3.out⟩⟩
    · have g1 : ¬ ((128 * k : Nat) : Int) < m := by omega
      obtain rfl : k = nfr m := by have := HNF.out; omega
      gi_wp2
      go_end0
      exact ⟨⟨_, rfl⟩, .inl HJs.out⟩

set_option maxHeartbeats 1000000 in
theorem chunk_in (n : Nat) (a : Option Addr) (m cap : Nat) (w : World) :
    CallsIn Fence.wide n Ybad.prog 39 #[.slice a m cap, .int .i64 128] w fun e w' => e = .returned (.func (.func 48) #[] #[.pointer (some ⟨w.heap.size, 0, none⟩), .pointer (some ⟨w.heap.size + 1, 0, none⟩)]) ∧ w' = (w.alloc (.cells #[.slice a m cap] 24)).alloc (.cells #[.int .i64 128] 3) := by
  refine callsIn_of_wp Ybad.func39 rfl trivial ?_ rfl
  simp only [Ybad.ntmps39, List.size_toArray, List.length_cons, List.length_nil, Nat.reduceAdd, Nat.reduceSub, Array.replicate_succ, Array.replicate_zero, List.push_toArray, List.append_toArray, List.nil_append, List.cons_append]
  gi_wp2
  go_ret
  exact ⟨rfl, rfl⟩

theorem chunk_stops (n : Nat) (hn : 1 ≤ n) (Bs Bn b o m cap : Nat) (sa : Option Addr) (hm : m ≤ 65536) (hsa : 0 < m → sa = some ⟨b, o, none⟩) (hmc : m ≤ cap) (hcap : cap ≤ 9223372036854775807) (w : World) (hBs : w.cell? ⟨Bs, 0, none⟩ = some (.slice sa m cap)) (hBn : w.cell? ⟨Bn, 0, none⟩ = some (.int .i64 128)) :
    SeqStopsK Fence.wide n Ybad.prog 48 #[.pointer (some ⟨Bs, 0, none⟩), .pointer (some ⟨Bn, 0, none⟩)] (fun x : Nat => #[frV b o m x]) (Kc Bs Bn) (fun ys => ys = List.range (nfr m)) (fun _ => True) (nfr m) w := fun l J Jx W hW hJ _ hY h0 =>
  chunk1_in n hn l Bs Bn b o m cap sa hm hsa hmc hcap J Jx _ hJ hY W ((hW.cell (p := ⟨Bs, 0, none⟩) (World.block_lt_of_cell? w _ hBs)).trans hBs) ((hW.cell (p := ⟨Bn, 0, none⟩) (World.block_lt_of_cell? w _ hBn)).trans hBn) h0

/-- The bytes of the frames numbered. -/
def frSum (D : Nat → Int) (n q : Nat) : List Nat → Nat
  | [] => 0
  | k :: r => frameL (sh D (q + 128 * cl (n - q) k)) (min 128 (n - q - 128 * cl (n - q) k)) + frSum D n q r
theorem frSum_snoc (D : Nat → Int) (n q : Nat) : ∀ (l : List Nat) (k : Nat), frSum D n q (l ++ [k]) = frSum D n q l + frameL (sh D (q + 128 * cl (n - q) k)) (min 128 (n - q - 128 * cl (n - q) k))
  | [], k => by simp [frSum]
  | x :: r, k => by simp [frSum, frSum_snoc D n q r k]; omega
theorem frSum_frs {D : Nat → Int} {n q : Nat} : ∀ (j k : Nat), j + k = nfr (n - q) → frSum D n q ((List.range j).map (k + ·)) = frs D n (q + 128 * k)
  | 0, k, h => by
    rw [frs_ge (by unfold nfr at h; omega)]
    simp [frSum]
  | j + 1, k, h => by
    have hk : q + 128 * k < n := by unfold nfr at h; omega
    have hc : cl (n - q) k = k := by unfold cl; omega
    rw [List.range_succ_eq_map, List.map_cons, frs_lt hk]
    simp only [frSum, Nat.add_zero, hc]
    have := frSum_frs (D := D) (n := n) (q := q) j (k + 1) (by omega)
    rw [show q + 128 * k + 128 = q + 128 * (k + 1) by omega, ← this]
    simp only [List.map_map]
    congr 1
    · congr 1; omega
    · congr 1
      apply List.map_congr_left
      intro i _
      simp; omega
theorem frSum_all {D : Nat → Int} {n q : Nat} : frSum D n q (List.range (nfr (n - q))) = frs D n q := by
  have := frSum_frs (D := D) (n := n) (q := q) (nfr (n - q)) 0 (by omega)
  simpa using this
theorem frSum_le {D : Nat → Int} {n q : Nat} (h : I64 n D) (hq : q < n) : ∀ l : List Nat, frSum D n q l ≤ 1036 * l.length
  | [] => Nat.le_refl _
  | k :: r => by
    have h1 := frSum_le h hq r
    have hc : 128 * cl (n - q) k < n - q := by unfold cl; omega
    have h2 := frameL_le (n := min 128 (n - q - 128 * cl (n - q) k)) (D := sh D (q + 128 * cl (n - q) k)) (by omega) (h.sh (by omega))
    simp only [frSum, List.length_cons]
    omega
end Go.Proofs.YbulkecgoDoor

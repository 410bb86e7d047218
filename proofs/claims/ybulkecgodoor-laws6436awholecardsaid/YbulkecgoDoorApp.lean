/-
  appendTo, appendIntegerFloats.
-/
import Derived.Test.YbulkecgoDoorPlanA
import Derived.Test.YbulkecgoDoorAppFull
namespace Go.Proofs.YbulkecgoDoor
open Go.RowKit Go.Shelf _root_.Go.Proofs.YbulkecgoDoor.Own
set_option linter.unusedVariables false
set_option maxRecDepth 100000

theorem Bf.cellOther {w w1 : World} {v v1 : Value} {bs : List Nat} {g : Nat} (h : Bf w w1 v v1 bs) (hne : v.ownBlock ≠ some g) {q : Nat} {x : Value} (hx : w.cell? ⟨g, q, none⟩ = some x) : w1.cell? ⟨g, q, none⟩ = some x := by
  have hb : w1.heap[g]? = w.heap[g]? := h.onl.block g (World.block_lt_of_cell? w _ hx) hne
  rw [← hx]
  simp only [World.cell?]
  rw [hb]
theorem bf_nil {w w1 w2 : World} {v : Value} {bs : List Nat} (hb : Below w.heap.size w w1) (h : Bf w1 w2 (.slice none 0 0) v bs) : Bf w w2 (.slice none 0 0) v bs := by
  refine ⟨h.own, ⟨h.onl.os.trans hb.os, h.onl.tape.trans hb.tape, h.onl.output.trans hb.output, Nat.le_trans hb.size h.onl.size, fun k hk hn => (h.onl.block k (Nat.lt_of_lt_of_le hk hb.size) (by simp [Value.ownBlock])).trans (hb.block k hk)⟩, fun g hg => .inr ?_⟩
  rcases h.blk g hg with e | e
  · simp [Value.ownBlock] at e
  · exact Nat.le_trans hb.size e
theorem Bf.undrew {w w1 : World} {v v1 : Value} {bs : List Nat} (h : Bf w.drew w1 v v1 bs) : Bf w w1 v v1 bs := ⟨h.own, ⟨h.onl.os, h.onl.tape, h.onl.output, h.onl.size, h.onl.block⟩, h.blk⟩
theorem Bf.neOld {w w1 : World} {v v1 : Value} {bs : List Nat} (h : Bf w w1 v v1 bs) {g : Nat} (hg : g < w.heap.size) (hne : v.ownBlock ≠ some g) : v1.ownBlock ≠ some g := fun e => by
  rcases h.blk g e with e' | e'
  · exact hne e'
  · omega

set_option maxHeartbeats 4000000 in
theorem appendTo_walk (N0 : Nat) (w0 w : World) (C l0 : Nat) (bs : List Nat) (hbsl : bs.length = l0) (va ai ae : Option Addr) (vb vo n vc ci ce gi eg : Nat) (V : Nat → Nat) (hn : n ≤ 65536) (hN : w0.heap.size = N0) (hlt : N0 < w.heap.size)
    (HP : Hid (Pa w0 w N0 n V va vc ai ae ci ce gi eg)) (hv : 0 < n → va = some ⟨vb, vo, none⟩) (HF : Hid (Flo w vb vo n V)) (HV : Hid (∀ i, i < n → V i < 18446744073709551616)) (HO : Hid (∀ j, j < l0 → w.cell? ⟨C, j, none⟩ = some (.int .u8 ((bs.getD j 0 : Nat) : Int)))) (hl : bs.length ≤ 2000000) :
    Calls Ybad.prog 33 #[.pointer (some ⟨N0, 0, none⟩), .slice (some ⟨C, 0, none⟩) l0 l0] w fun e w' => ∃ v', e = .returned v' ∧ Bf w w' (.slice none 0 0) v' (bs ++ encA V n) := by
  have hne : ∀ g, N0 ≤ g → (Value.slice none 0 0).ownBlock ≠ some g := fun g hg e => by simp [Value.ownBlock] at e
  have hbo := bo_le V n hn
  have hL : (exs V 0 n).length ≤ n := exs_len V 0 n
  have HU0 := (show Hid _ from exs_Up V 0 n hn)
  have HEn : Hid (∀ j, j < (exs V 0 n).length → exE V 0 n j < n) := fun j hj => (exs_up V 0 n j hj).2
  have hEL : (encD (dd (bas V 0) (bo V n)) n (bo V n)).length ≤ 80000000 := by rw [encD_len]; exact dln_le (dd_rng (bas_rng V 0 n) _) hbo.2 hn
  have K1 : Hid (Calls Ybad.prog 44 #[.slice (some ⟨C, 0, none⟩) l0 l0, .slice ai n ci, .int .i64 (bo V n)] w.drew fun e w' => ∃ v', e = .returned v' ∧ Bf w.drew w' (.slice none 0 0) v' (bs ++ encD (dd (bas V 0) (bo V n)) n (bo V n))) := by
    rcases HP.out.ints with ⟨h0, rfl, h1, h2, h3, h4⟩ | ⟨h0, rfl, rfl⟩
    · exact appendDifferenced_someF w.drew C l0 bs hbsl gi 0 n ci (bo V n) _ hn hbo.1 hbo.2 h0 h1 h2 h3 (dd_rng (bas_rng V 0 n) _) HO.out (by omega)
    · have hb0 : bo V n = 0 := by have := hbo.2; omega
      rw [hb0]
      subst h0
      exact appendDifferenced_nilF w.drew C l0 bs hbsl _ HO.out (by omega)
  obtain ⟨eg', he1, he2, he3, he4⟩ : ∃ eg', (0 < (exs V 0 n).length → ae = some ⟨eg', 0, none⟩) ∧ Row w eg' 0 (exs V 0 n).length (fun j => (exE V 0 n j : Int)) ∧ N0 ≤ eg' ∧ eg' < w.heap.size := by
    by_cases hl0 : 0 < (exs V 0 n).length
    · have := HP.out.exc hl0
      exact ⟨eg, fun h => this.1, HP.out.rox, by omega, World.block_lt_of_cell? w _ (HP.out.rox 0 hl0)⟩
    · exact ⟨N0, fun h => absurd h hl0, fun i hi => absurd hi (by omega), Nat.le_refl _, hlt⟩
  obtain ⟨vb', vo', hf1, hf2, hf3, hf4⟩ : ∃ vb' vo', (0 < n → va = some ⟨vb', vo', none⟩) ∧ Flo w vb' vo' n V ∧ (Value.slice none 0 0).ownBlock ≠ some vb' ∧ vb' < w.heap.size := by
    by_cases h0 : 0 < n
    · exact ⟨vb, vo, hv, HF.out, by simp [Value.ownBlock], World.block_lt_of_cell? w _ (HF.out 0 h0)⟩
    · exact ⟨N0, 0, fun h => absurd h h0, fun i hi => absurd hi (by omega), hne N0 (Nat.le_refl _), hlt⟩
  have K2 : Hid (∀ (w1 : World) (v1 : Value), Bf w.drew w1 (.slice none 0 0) v1 (bs ++ encD (dd (bas V 0) (bo V n)) n (bo V n)) → Calls Ybad.prog 45 #[v1, .slice va n vc, .slice ae (exs V 0 n).length ce] w1.drew fun e w' => ∃ v', e = .returned v' ∧ Bf w1.drew w' v1 v' (bs ++ encA V n)) := by
    intro w1 v1 hB
    have hB' : Bf w w1 (.slice none 0 0) v1 (bs ++ encD (dd (bas V 0) (bo V n)) n (bo V n)) := hB.undrew
    have := appendExceptions_walk w1.drew v1 (bs ++ encD (dd (bas V 0) (bo V n)) n (bo V n)) va ae vb' vo' n vc eg' (exs V 0 n).length ce V (exE V 0 n) hn (by omega) hf1 he1 (hB'.flo hf2 hf3) (hB'.row he2 (hne eg' he3)) HU0.out HEn.out HV.out (hB'.own.frame fun _ _ => rfl) (hB'.neOld hf4 hf3) (hB'.neOld he4 (hne eg' he3)) (by rw [List.length_append]; omega)
    rw [List.append_assoc] at this
    exact this
  have HNE : Hid ((Value.slice none 0 0).ownBlock ≠ some N0) := hne N0 (Nat.le_refl _)
  have c0 := HP.out.c0
  have c2 := HP.out.c2
  have c3 := HP.out.c3
  have c4 := HP.out.c4
  clear hne hEL he1 he2 he3 he4 hf1 hf2 hf3 hf4 HU0 HEn hbo
  generalize (exs V 0 n).length = L at *
  generalize bo V n = q at *
  go_enter Ybad.func33, Ybad.ntmps33
  go_wp2_with fail
  go_region_with (go_at_call 44; refine Calls.mono K1.out ?_; rintro e w1 ⟨v1, rfl, hB1⟩; have HB1 := (show Hid _ from hB1); have d0 := hB1.cellOther HNE.out c0; have d4 := hB1.cellOther HNE.out c4; clear hB1)
  all_goals go_wp2_with fail
  all_goals go_region_with (go_at_call 45; refine Calls.mono (K2.out _ _ HB1.out) ?_; rintro e w2 ⟨v2, rfl, hB2⟩; have HB2 := (show Hid _ from hB2); clear hB2)
  all_goals go_wp2_with fail
  all_goals go_ret
  all_goals exact ⟨_, rfl, HB1.out.undrew.drew.trans HB2.out⟩

set_option maxHeartbeats 4000000 in
theorem aif_walk (w : World) (C l0 : Nat) (bs : List Nat) (hbsl : bs.length = l0) (va : Option Addr) (vb vo n vc : Nat) (V : Nat → Nat) (lim : Int) (hn : n ≤ 65536) (hnv : n ≤ vc) (hva : va = none → vc = 0) (hv : 0 < n → va = some ⟨vb, vo, none⟩) (HF : Hid (Flo w vb vo n V)) (HT : Hid (Tab w))
    (HV : Hid (∀ i, i < n → V i < 18446744073709551616)) (HO : Hid (∀ j, j < l0 → w.cell? ⟨C, j, none⟩ = some (.int .u8 ((bs.getD j 0 : Nat) : Int)))) (hl : bs.length ≤ 2000000) :
    Calls Ybad.prog 19 #[.slice (some ⟨C, 0, none⟩) l0 l0, .slice va n vc, .int .i64 lim] w fun e w' =>
      (∃ v', e = .returned (.tuple #[v', .bool true]) ∧ ((encA V n).length : Int) < lim ∧ Bf w w' (.slice none 0 0) v' (bs ++ encA V n)) ∨ (e = .returned (.tuple #[.slice (some ⟨C, 0, none⟩) l0 l0, .bool false]) ∧ ¬ ((encA V n).length : Int) < lim ∧ Below w.heap.size w w') := by
  have KP := (show Hid _ from plan_A w va vb vo n vc V lim hn hnv hva hv HF.out HT.out)
  have KT : Hid (∀ w' ai ae ci ce gi eg, Below w.heap.size w w' → w.heap.size < w'.heap.size → Pa w w' w.heap.size n V va vc ai ae ci ce gi eg → Calls Ybad.prog 33 #[.pointer (some ⟨w.heap.size, 0, none⟩), .slice (some ⟨C, 0, none⟩) l0 l0] w' fun e w'' => ∃ v', e = .returned v' ∧ Bf w' w'' (.slice none 0 0) v' (bs ++ encA V n)) := by
    intro w' ai ae ci ce gi eg hb hlt hP
    exact appendTo_walk w.heap.size w w' C l0 bs hbsl va ai ae vb vo n vc ci ce gi eg V hn rfl hlt hP hv (fun i hi => cell_later hb (HF.out i hi)) HV.out (fun j hj => cell_later hb (HO.out j hj)) hl
  have HOO := HO
  go_enter Ybad.func19, Ybad.ntmps19
  go_wp2_with fail
  refine Calls.mono KP.out ?_
  rintro e w1 ⟨hb, ⟨rfl, hlt⟩ | ⟨rfl, hlt, ai, ae, ci, ce, gi, eg, hP⟩⟩
  · have HBL := (show Hid _ from hb)
    have HLT := (show Hid _ from hlt)
    clear hb hlt
    go_wp2_with fail
    go_ret2
    exact .inr ⟨rfl, Int.not_lt.1 HLT.out, HBL.out⟩
  · have hsz : w.heap.size < w1.heap.size := World.block_lt_of_cell? w1 _ hP.c0
    have KK := (show Hid _ from KT.out w1 ai ae ci ce gi eg hb hsz hP)
    have HBL := (show Hid _ from hb)
    have HLT := (show Hid _ from hlt)
    clear hb hP KT hlt
    go_wp2_with fail
    refine Calls.mono KK.out ?_
    rintro e w2 ⟨v2, rfl, hB2⟩
    have HB2 := (show Hid _ from hB2)
    clear hB2 KK
    go_wp2_with fail
    go_ret2
    exact .inl ⟨_, rfl, HLT.out, bf_nil HBL.out HB2.out⟩
end Go.Proofs.YbulkecgoDoor

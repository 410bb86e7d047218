/-
  appendExceptions.
-/
import Derived.Test.YbulkecgoDoorEnc
import Derived.Test.YbulkecgoDoorBits
import Derived.Test.YbulkecgoDoorFloat
namespace Go.Proofs.YbulkecgoDoor
open Go.RowKit Go.Shelf _root_.Go.Proofs.YbulkecgoDoor.Own
set_option linter.unusedVariables false
set_option maxRecDepth 100000

/-- The floats of a slice. -/
def Flo (w : World) (b o n : Nat) (V : Nat → Nat) : Prop := ∀ i, i < n → w.cell? ⟨b, o + i, none⟩ = some (.float .f64 (V i))
theorem Bf.flo {w w' : World} {v v' : Value} {bs : List Nat} (h : Bf w w' v v' bs) {b o n : Nat} {V : Nat → Nat} (hr : Flo w b o n V) (hb : v.ownBlock ≠ some b) : Flo w' b o n V := fun i hi => by
  have hc := hr i hi
  rw [← hc]
  have := h.onl.block b (World.block_lt_of_cell? w _ hc) hb
  simp only [World.cell?]
  rw [this]

set_option maxHeartbeats 1000000 in
theorem appendExceptions_walk (w : World) (v : Value) (bs : List Nat) (va ea : Option Addr) (vb vo n vc eg k ce : Nat) (V E : Nat → Nat) (hn : n ≤ 65536) (hk : k ≤ 65536) (hva : 0 < n → va = some ⟨vb, vo, none⟩) (hea : 0 < k → ea = some ⟨eg, 0, none⟩)
    (HF : Hid (Flo w vb vo n V)) (HE : Hid (Row w eg 0 k (fun j => (E j : Int)))) (HU : Hid (Up E k)) (HEn : Hid (∀ j, j < k → E j < n)) (HV : Hid (∀ i, i < n → V i < 18446744073709551616)) (HB : Hid (OwnV w 5 v (byts bs))) (h1 : v.ownBlock ≠ some vb) (h2 : v.ownBlock ≠ some eg) (hl : bs.length ≤ 100000000) :
    Calls Ybad.prog 45 #[v, .slice va n vc, .slice ea k ce] w fun e w' => ∃ v', e = .returned v' ∧ Bf w w' v v' (bs ++ exB V E k) := by
  have HA := (show Hid _ from And.intro hva hea)
  have HN := (show Hid _ from And.intro h1 h2)
  have K0 := (show Hid _ from AppendUvarint_walk w w v v bs k (by omega) (show Hid _ from Bf.refl HB.out) (by omega))
  have HBT := @bits64
  have hk' : (k : Int) ≤ 65536 := by omega
  clear hva hea h1 h2
  go_enter Ybad.func45, Ybad.ntmps45
  go_wp2_with fail
  refine Calls.mono K0.out ?_
  rintro e w1 ⟨v1, rfl, hB1⟩
  have HB1 := (show Hid _ from hB1)
  clear hB1 K0
  go_wp2_with fail
  go_loopw [0, 7, 9, 17] (fun x0 x7 x9 x17 wr => ∃ j : Nat, j ≤ k ∧ x17 = .int .i64 j ∧ x7 = .int .i64 (nxt E j) ∧ Bf w wr v x0 (bs ++ uvB k ++ xsB V E j)) (fun _ _ _ i _ => k - (intOf i).toNat)
  case atStart => exact ⟨0, by omega, rfl, rfl, by rw [xsB, List.append_nil]; exact HB1.out⟩
  case round =>
    obtain ⟨j, hj, rfl, rfl, hB⟩ := hrel
    have HBj := (show Hid _ from hB)
    have hlen : (bs ++ uvB k ++ xsB V E j).length ≤ 110000000 := by
      have h1 := xs8_le j fun i hi => HU.out i (by omega)
      have h2 := uvl_10 (n := k) (by omega)
      rw [List.length_append, List.length_append, xsB_len, uvB_len _ _ (Nat.le_refl _)]; omega
    clear HB1
    by_cases hjk : j < k
    · have hjk' : (j : Int) < k := by omega
      obtain rfl := HA.out.2 (by omega)
      have hEn := HEn.out j hjk
      obtain rfl := HA.out.1 (by omega)
      obtain ⟨u1, u2⟩ := HU.out j hjk
      have hc : wr.cell? ⟨eg, j, none⟩ = some (.int .i64 ((E j : Nat) : Int)) := by
        have h9 := hB.row HE.out HN.out.2 j hjk
        rw [Nat.zero_add] at h9
        exact h9
      have HFL : Hid (∀ (w2 : World) (v2 : Value) (ds : List Nat), Bf w w2 v v2 ds → w2.drew.cell? ⟨vb, vo + E j, none⟩ = some (.float .f64 (V (E j)))) := fun w2 v2 ds h => h.flo HF.out HN.out.1 (E j) hEn
      have hcx := hB.flo HF.out HN.out.1 (E j) hEn
      have hV := HV.out (E j) hEn
      obtain ⟨d, hd⟩ : ∃ d, E j = nxt E j + d := ⟨E j - nxt E j, by omega⟩
      have e1 : ((E j : Nat) : Int) - ((nxt E j : Nat) : Int) = (d : Int) := by omega
      have hd' : (d : Int) < 65536 := by omega
      have K1 := (show Hid _ from AppendUvarint_walk w wr v _ (bs ++ uvB k ++ xsB V E j) d (by omega) HBj (by omega))
      obtain ⟨ds, hds⟩ : ∃ ds, bs ++ uvB k ++ xsB V E j ++ uvB d = ds := ⟨_, rfl⟩
      rw [hds] at K1
      have hud := uvl_10 (n := d) (by omega)
      have hdl : ds.length ≤ 110000010 := by rw [← hds, List.length_append, uvB_len d d (Nat.le_refl _)]; omega
      have HXS : Hid (ds ++ le8 (V (E j)) = bs ++ uvB k ++ xsB V E (j + 1)) := by
        show _ = _
        have e2 : E j - nxt E j = d := by omega
        rw [← hds, xsB, e2]; simp only [List.append_assoc]
      have HNX : Hid (nxt E (j + 1) = E j + 1) := rfl
      have hEj : ((E j : Nat) : Int) < 65536 := by omega
      have hEnn : ((E j : Nat) : Int) < (n : Int) := by omega
      generalize hEE : E j = ej at *
      generalize nxt E j = nx at *
      generalize V ej = vv at *
      clear hB hlen u1 u2 hds hud hd hEE
      go_wp2_with fail
      refine Calls.mono K1.out ?_
      rintro e w2 ⟨v2, rfl, hB2⟩
      have HB2 := (show Hid _ from hB2)
      have hcx2 := HFL.out _ _ _ hB2
      obtain ⟨a2, l2, k2, hv2⟩ := hB2.form2
      subst hv2
      have K2 := (show Hid _ from leAppend_walk w2.drew (.slice a2 l2 k2) ds vv hV (show Hid _ from hB2.own.frame fun _ _ => rfl) (by omega))
      clear hB2 K1 hc hcx HFL
      go_wp2_with fail
      go_region_with (go_at_call 53; refine Calls.mono K2.out ?_; rintro e w3 ⟨v3, rfl, hB3⟩; have HB3 := (show Hid _ from hB3); clear hB3)
      all_goals go_wp2_with fail
      all_goals
        refine ⟨⟨j + 1, by omega, by go_num, by rw [HNX.out]; go_num, ?_⟩, by simp [intOf]; omega⟩
        rw [← HXS.out]
        exact HB2.out.drew.trans HB3.out
    · obtain rfl : k = j := by omega
      have hjk' : ¬ (k : Int) < k := by omega
      clear hB
      go_wp2_with fail
      go_ret
      exact ⟨_, rfl, by unfold exB; rw [← List.append_assoc]; exact HBj.out⟩
end Go.Proofs.YbulkecgoDoor

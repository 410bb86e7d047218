/-
  rebuild walked.
-/
import Derived.Test.YbulkecisRbKit
import Derived.Deep.RegionHeld3
namespace Go.Proofs.Ybulkecis
open Go.RowKit _root_.Go.Proofs.Ybulkecis.Own
set_option linter.unusedVariables false
set_option maxRecDepth 100000
attribute [-go_sem] Builtin.append_
attribute [local go_sem] clear28

/-- A pair goes on the queue. -/
theorem qstep {w0 wr w1 : World} {b bb n q gq cq k t m g1 cap1 go oc : Nat} {slv quv qv av : Value} {f7 : Nat → Value} {B B' : Nat → Bool} {ql xs : List Value} {kb : Int} {al : List (Nat × Nat)}
    (HP : Sp b bb slv (.slice (some ⟨gq, 0, none⟩) q cq) quv)
    (HR : Rs w0 wr b bb n q slv (.slice (some ⟨gq, 0, none⟩) q cq) quv (upd f7 46 qv) (fun _ => -1) kb B' qv (ql ++ ol (unq B k)))
    (HR9 : Rs w0 w1 b bb n q slv (.slice (some ⟨gq, 0, none⟩) q cq) quv (upd f7 46 qv) (fun _ => -1) kb (fun j => if j = k then true else B' j) (.slice (some ⟨g1, 0, none⟩) (m + 1) cap1) (ql ++ ol (unq B k) ++ [.int .i64 k]))
    (hgrow : ((wr.setCell ⟨gq, k, none⟩ (.bool true)).alloc (.cells #[.int .i64 k] 3)).drew.grownBy w1 qv.ownBlock)
    (hpl : qv.ownBlock = some g1 ∨ ((wr.setCell ⟨gq, k, none⟩ (.bool true)).alloc (.cells #[.int .i64 k] 3)).drew.heap.size ≤ g1)
    (hB : (∀ i, i < k → B' i = true) ∧ ∀ i, k ≤ i → B' i = B i) (hA : OwnA wr av al) (hO : OwnV wr 3 (.slice (some ⟨go, 0, none⟩) t oc) xs)
    (hFA : ∀ g, av.ownBlock = some g → w0.heap.size ≤ g) (hgo : w0.heap.size ≤ go) (hqg : ∀ g, qv.ownBlock = some g → g ≠ go ∧ av.ownBlock ≠ some g) (hBK : B k = false) :
    Rs w0 (w1.setCell ⟨b, 46, none⟩ (.slice (some ⟨g1, 0, none⟩) (m + 1) cap1)) b bb n q slv (.slice (some ⟨gq, 0, none⟩) q cq) quv (upd f7 46 (.slice (some ⟨g1, 0, none⟩) (m + 1) cap1)) (fun _ => -1) kb (fun j => if j = k then true else B' j) (.slice (some ⟨g1, 0, none⟩) (m + 1) cap1) (ql ++ ol (unq B (k + 1))) ∧ (∀ i, i < k + 1 → (fun j => if j = k then true else B' j) i = true) ∧ (∀ i, k + 1 ≤ i → (fun j => if j = k then true else B' j) i = B i) ∧ OwnA (w1.setCell ⟨b, 46, none⟩ (.slice (some ⟨g1, 0, none⟩) (m + 1) cap1)) av al ∧ OwnV (w1.setCell ⟨b, 46, none⟩ (.slice (some ⟨g1, 0, none⟩) (m + 1) cap1)) 3 (.slice (some ⟨go, 0, none⟩) t oc) xs ∧ ∀ g, (Value.slice (some ⟨g1, 0, none⟩) (m + 1) cap1).ownBlock = some g → g ≠ go ∧ av.ownBlock ≠ some g := by
  have hsz : (wr.setCell ⟨gq, k, none⟩ (.bool true)).heap.size = wr.heap.size := by simp [World.setCell]
  have hsz2 : ((wr.setCell ⟨gq, k, none⟩ (.bool true)).alloc (.cells #[.int .i64 k] 3)).drew.heap.size = wr.heap.size + 1 := by simp [World.setCell]
  have hchain : ∀ g, g < wr.heap.size → g ≠ gq → qv.ownBlock ≠ some g → g ≠ b → (w1.setCell ⟨b, 46, none⟩ (.slice (some ⟨g1, 0, none⟩) (m + 1) cap1)).heap[g]? = wr.heap[g]? := fun g h1 h2 h3 h4 => by
    have x1 : (w1.setCell ⟨b, 46, none⟩ (.slice (some ⟨g1, 0, none⟩) (m + 1) cap1)).heap[g]? = w1.heap[g]? := Below.heap_setCell _ _ _ _ h4
    have x2 := hgrow.block g (by rw [hsz2]; omega) (fun e => h3 e.symm)
    have x3 : ((wr.setCell ⟨gq, k, none⟩ (.bool true)).alloc (.cells #[.int .i64 k] 3)).drew.heap[g]? = (wr.setCell ⟨gq, k, none⟩ (.bool true)).heap[g]? := Below.heap_alloc _ _ _ (by rw [hsz]; exact h1)
    have x4 : (wr.setCell ⟨gq, k, none⟩ (.bool true)).heap[g]? = wr.heap[g]? := Below.heap_setCell _ _ _ _ h2
    exact x1.trans (x2.trans (x3.trans x4))
  have hgq := HR.ld gq rfl
  have hlb2 := HR.lb
  refine ⟨?_, fun i hi => ?_, fun i hi => ?_, hA.frame fun g hg => ?_, hO.frame fun g hg => ?_, fun g hg => ?_⟩
  · have h1 := HR9.setPg HP 46 (.slice (some ⟨g1, 0, none⟩) (m + 1) cap1) (by decide)
    rw [upd_upd] at h1
    refine h1.ext (fun _ _ => rfl) (fun _ _ => rfl) ?_
    rw [unq, hBK, List.append_assoc, ← ol_snoc]; rfl
  · by_cases e : i = k
    · simp [e]
    · simp only [e, if_false]; exact hB.1 i (by omega)
  · have e : i ≠ k := by omega
    simp only [e, if_false]; exact hB.2 i (by omega)
  · have h1 := hFA g hg
    exact hchain g (hA.lt hg) (by omega) (fun e => (hqg g e).2 hg) (by omega)
  · obtain rfl : go = g := by simpa [Value.ownBlock] using hg
    exact hchain go (hO.lt rfl) (by omega) (fun e => (hqg go e).1 rfl) (by omega)
  · obtain rfl : g1 = g := by simpa [Value.ownBlock] using hg
    rcases hpl with s | s
    · exact hqg g1 s
    · rw [hsz2] at s
      exact ⟨by have := hO.lt (g := go) rfl; omega, fun e => by have := hA.lt e; omega⟩

set_option maxHeartbeats 8000000 in
theorem rebuild_walk (w : World) (b bb n q : Nat) (slv qdv quv pv sv lv tv : Value) (ap : Option Addr) (cp : Nat) (f : Nat → Value) (O : Nat → List Nat) (th : List Nat) (B : Nat → Bool) (ql : List Value)
    (HP : Hid (Sp b bb slv qdv quv)) (HT0 : Hid (St0 w b bb slv qdv quv n O th pv sv lv tv)) (HR0 : Hid (Rs w w b bb n q slv qdv quv f (fun _ => -1) 0 B quv ql)) (HF : Hid (Fk f bb q pv sv lv slv qdv ap cp))
    (HK : Hid (f 56 = tv ∧ f 46 = quv ∧ f 100 = .slice none 0 0 ∧ f 101 = .slice none 0 0 ∧ f 104 = .slice none 0 0))
    (HN : Hid (th.Nodup ∧ (∀ v, v ∈ th → v < n) ∧ (∀ v, v < n → ∀ x, x ∈ O v → x < n) ∧ n ≤ 1000 ∧ tot (fun v => (O v).length) n ≤ 65536 ∧ q ≤ 65536 ∧ ql.length ≤ 65536)) :
    Calls Yba.prog 11 #[.pointer (some ⟨b, 0, none⟩)] w fun e w' => ∃ os, e = .returned (.bool (decide (os.length = th.length))) ∧ Kh th.length (mt (arcsA O th th.length)) os ∧ (∀ c, ¬ ready th.length (mt (arcsA O th th.length)) os c) ∧ ∃ f' av B' quv' ql', Rb w w' b bb n q slv qdv quv tv B ql O th os pv sv lv ap cp f' av B' quv' ql' := by
  obtain ⟨i3, a3, b3, c3, d3⟩ := info_parts info3
  have J3 := (show Hid _ from And.intro a3 (And.intro b3 (And.intro c3 d3)))
  clear a3 b3 c3 d3
  have HW := (show Hid _ from HR0.out.lt)
  have hlb := HR0.out.lb
  have c105 := HR0.out.pg.at 105 HF.out.k105 (by decide)
  have c97 := HR0.out.pg.at 97 HF.out.k97 (by decide)
  have c56 := HR0.out.pg.at 56 HK.out.1 (by decide)
  obtain ⟨at', ct, hform⟩ := HT0.out.th.form'
  rw [ol_len] at hform
  have hn := HN.out.2.2.2.1
  obtain ⟨t, hth⟩ : ∃ t, th.length = t := ⟨_, rfl⟩
  rw [hth] at hform
  have htn : t ≤ n := by rw [← hth]; exact nodup_le HN.out.1 HN.out.2.1
  subst hform
  have Hth : Hid (th.length = t) := hth
  have HQ0 : Hid (∀ g, quv.ownBlock = some g → g < w.heap.size) := fun g hg => HR0.out.qu.lt hg
  clear hth
  go_enter Yba.func11, Yba.ntmps11
  go_wp2_with fail
  go_big_region
  go_wp2_with fail
  have hB0 : Below w.heap.size w ((w.alloc (Obj.cells #[Value.pointer (some ⟨b, 0, none⟩)] 29)).alloc (Obj.cells #[Value.slice none 0 0] 52)).drew := (((Below.refl _ _).alloc (Nat.le_refl _) _).alloc (by simp) _).drew
  have HB0 := (show Hid _ from hB0)
  have HT : Hid (St ((w.alloc (Obj.cells #[Value.pointer (some ⟨b, 0, none⟩)] 29)).alloc (Obj.cells #[Value.slice none 0 0] 52)).drew b bb slv qdv quv w.heap.size (w.heap.size + 1) n O th pv sv lv (.slice at' t ct)) := HT0.out.open hB0 HW.out (Nat.le_refl _) (by omega) (by simp) (by simp)
  have HR : Hid (Rs _ _ b bb n q slv qdv quv f (fun _ => -1) 0 B quv ql) := HR0.out.open hB0
  have HQ : Hid (∀ g, quv.ownBlock = some g → g < ((w.alloc (Obj.cells #[Value.pointer (some ⟨b, 0, none⟩)] 29)).alloc (Obj.cells #[Value.slice none 0 0] 52)).drew.heap.size) := fun g hg => Nat.lt_of_lt_of_le (HQ0.out g hg) hB0.size
  clear HQ0 hB0 HT0 HR0 c105 c97 c56 hlb
  generalize ((w.alloc (Obj.cells #[Value.pointer (some ⟨b, 0, none⟩)] 29)).alloc (Obj.cells #[Value.slice none 0 0] 52)).drew = w0 at *
  go_loopw [4, 5, 43] (fun x4 x5 x43 wr => ∃ k : Nat, k ≤ t ∧ x43 = .int .i64 k ∧ Rs w0 wr b bb n q slv qdv quv f (fun v => ixo (th.take k) v) 0 B quv ql) (fun _ _ x _ => t - (intOf x).toNat)
  case atStart => exact ⟨0, Nat.zero_le _, rfl, HR.out.ext (fun i _ => by simp [ixo]) (fun _ _ => rfl) rfl⟩
  case round => as_aux_lemma =>
    clear HR
    obtain ⟨k, hk, rfl, hR⟩ := hrel
    have HR : Hid (Rs w0 wr b bb n q slv qdv quv f (fun v => ixo (th.take k) v) 0 B quv ql) := hR
    clear hR
    have hbx := (HT.out.later HR.out.onl).bx
    have c57 := HR.out.pg.at 57 HF.out.k57 (by decide)
    by_cases hkt : k < t
    · have hkt' : (k : Int) < (t : Int) := by omega
      have hkl : k < th.length := by rw [Hth.out]; exact hkt
      obtain ⟨u, hu⟩ : ∃ u, th[k] = u := ⟨_, rfl⟩
      have hun : u < n := by rw [← hu]; exact HN.out.2.1 _ (List.getElem_mem _)
      have hun' : (u : Int) < (n : Int) := by omega
      obtain ⟨gt, ct', hat, _⟩ := HT.out.th.block ((ol_len _).trans Hth.out) (by omega)
      cases hat
      have hct : wr.cell? ⟨gt, k, none⟩ = some (.int .i64 u) := by
        rw [(HT.out.later HR.out.onl).th.cell (by rw [ol_len, Hth.out]) (by rw [ol_len]; exact hkl), ol_get hkl, hu]
      obtain ⟨gs, cs, hsl, _⟩ := HR.out.sl.block (il_len _ _) (by omega)
      subst hsl
      have hcs : wr.cell? ⟨gs, u, none⟩ = some (.int .i64 (ixo (th.take k) u)) := by
        rw [HR.out.sl.cell (by rw [il_len]) (by rw [il_len]; exact hun)]; exact il_get hun
      have hfs := HR.out.sl.free (by rw [il_len]) u
      have Hu := (show Hid _ from hu)
      clear hu
      go_wp2_with fail
      refine ⟨⟨k + 1, by omega, by go_num, (HR.out.setSl HP.out rfl u k).ext (fun i _ => ?_) (fun _ _ => rfl) rfl⟩, by simp only [intOf]; omega⟩
      rw [take_ixo HN.out.1 hkl, Hu.out]
    · obtain rfl : t = k := by omega
      have hkt' : ¬ (t : Int) < (t : Int) := by omega
      have c104 := HR.out.pg.at 104 HK.out.2.2.2.2 (by decide)
      have f104 := HR.out.pg.z 104
      have c56 := HR.out.pg.at 56 HK.out.1 (by decide)
      clear hkt hk
      go_wp2_with fail
      go_big_region
      go_wp2_with fail
      have HR1 : Hid (Rs w0 (wr.setCell ⟨b, 104, none⟩ (.slice none 0 0)).drew b bb n q slv qdv quv (upd f 104 (.slice none 0 0)) (fun v => ixo th v) 0 B quv ql) := (HR.out.setPg HP.out 104 _ (by decide)).drew.ext (fun i _ => by rw [← Hth.out, List.take_length]) (fun _ _ => rfl) rfl
      clear HR c104 f104 c56 c57 hbx
      generalize (wr.setCell ⟨b, 104, none⟩ (.slice none 0 0)).drew = w1 at *
      clear wr
      go_loopw [6, 7, 9, 10, 69] (fun x6 x7 x9 x10 x69 wr => ∃ (k : Nat) (av : Value), k ≤ t ∧ x69 = .int .i64 k ∧ Rs w0 wr b bb n q slv qdv quv (upd f 104 av) (fun v => ixo th v) 0 B quv ql ∧ OwnA wr av (arcsA O th k) ∧ ∀ g, av.ownBlock = some g → w0.heap.size ≤ g) (fun _ _ _ _ x _ => t - (intOf x).toNat)
      case atStart => exact ⟨0, _, Nat.zero_le _, rfl, HR1.out, OwnA.nil _, fun g hg => by simp [Value.ownBlock] at hg⟩
      case round => as_aux_lemma =>
        clear HR1 w1
        obtain ⟨k, av, hk, rfl, hR, hA, hfa⟩ := hrel
        have HR : Hid (Rs w0 wr b bb n q slv qdv quv (upd f 104 av) (fun v => ixo th v) 0 B quv ql) := hR
        have HA : Hid (OwnA wr av (arcsA O th k)) := hA
        have HFA := (show Hid _ from hfa)
        clear hR hA hfa
        have hbx := (HT.out.later HR.out.onl).bx
        by_cases hkt : k < t
        · have hkt' : (k : Int) < (t : Int) := by omega
          have hkl : k < th.length := by rw [Hth.out]; exact hkt
          obtain ⟨u, hu⟩ : ∃ u, th[k] = u := ⟨_, rfl⟩
          have hun : u < n := by rw [← hu]; exact HN.out.2.1 _ (List.getElem_mem _)
          obtain ⟨gt, ct', hat, _⟩ := HT.out.th.block ((ol_len _).trans Hth.out) (by omega)
          cases hat
          have hct : wr.cell? ⟨gt, k, none⟩ = some (.int .i64 u) := by
            rw [(HT.out.later HR.out.onl).th.cell (by rw [ol_len, Hth.out]) (by rw [ol_len]; exact hkl), ol_get hkl, hu]
          have Hu := (show Hid _ from hu)
          clear hu
          have KO := (show Hid _ from out_any (HT.out.later HR.out.onl) HR.out.pg (HF.out.u104 av).k5 (HF.out.u104 av).k6 (HF.out.u104 av).k7 u hun HN.out.2.2.2.1 (by have := HN.out.2.2.2.2.1; omega))
          go_wp2_with fail
          refine Calls.mono KO.out ?_
          rintro e w2 ⟨ao, co, rfl, hOu, hw2⟩
          have HR2 : Hid (Rs w0 w2 b bb n q slv qdv quv (upd f 104 av) (fun v => ixo th v) 0 B quv ql) := by rw [hw2]; exact HR.out.drew
          have HA2 : Hid (OwnA w2 av (arcsA O th k ++ rowA th k ((O u).take 0))) := by rw [hw2, List.take_zero, show rowA th k [] = [] from rfl, List.append_nil]; exact HA.out.drew
          have HOu : Hid (Ou w0 lv ao (O u)) := hOu.move HT.out HR.out.onl (Only.refl _ _)
          obtain ⟨L, hL⟩ : ∃ L, (O u).length = L := ⟨_, rfl⟩
          rw [hL]
          have HL := (show Hid _ from hL)
          have hLb : L ≤ 65536 := by
            have h1 := tot_mono (fun v => (O v).length) (m := u + 1) (n := n) (by omega)
            have h2 : tot (fun v => (O v).length) (u + 1) = tot (fun v => (O v).length) u + (O u).length := rfl
            have h3 := HN.out.2.2.2.2.1
            omega
          clear hw2 hOu HR HA KO hL hbx hct
          go_wp2_with fail
          go_loopw [9, 10, 78] (fun x9 x10 x78 wr => ∃ (j : Nat) (av : Value), j ≤ L ∧ x78 = .int .i64 j ∧ Rs w0 wr b bb n q slv qdv quv (upd f 104 av) (fun v => ixo th v) 0 B quv ql ∧ OwnA wr av (arcsA O th k ++ rowA th k ((O u).take j)) ∧ ∀ g, av.ownBlock = some g → w0.heap.size ≤ g) (fun _ _ x _ => L - (intOf x).toNat)
          case atStart => exact ⟨0, av, Nat.zero_le _, rfl, HR2.out, HA2.out, HFA.out⟩
          case round => as_aux_lemma =>
            clear HR2 HA2 HFA w2
            obtain ⟨j, av, hj, rfl, hR, hA, hfa⟩ := hrel
            have HR : Hid (Rs w0 wr b bb n q slv qdv quv (upd f 104 av) (fun v => ixo th v) 0 B quv ql) := hR
            have HA : Hid (OwnA wr av (arcsA O th k ++ rowA th k ((O u).take j))) := hA
            have HFA := (show Hid _ from hfa)
            clear hR hA hfa
            have hbx := (HT.out.later HR.out.onl).bx
            by_cases hjL : j < L
            · have hjL' : (j : Int) < (L : Int) := by omega
              have hjl : j < (O u).length := by rw [HL.out]; exact hjL
              obtain ⟨x, hx⟩ : ∃ x, (O u)[j] = x := ⟨_, rfl⟩
              have hxn : x < n := by rw [← hx]; exact HN.out.2.2.1 u hun _ (List.getElem_mem _)
              have hxn' : (x : Int) < (n : Int) := by omega
              obtain ⟨gl, o, hao, _, hcl⟩ := (HOu.out.move HT.out (Only.refl _ _) HR.out.onl).at' (by omega)
              subst hao
              have hcx := hcl j hjl
              rw [hx] at hcx
              have c57 := HR.out.pg.at 57 (HF.out.u104 av).k57 (by decide)
              obtain ⟨gs, cs, hsl, _⟩ := HR.out.sl.block (il_len _ _) (by omega)
              have hcs : wr.cell? ⟨gs, x, none⟩ = some (.int .i64 (ixo th x)) := by
                have h1 := HR.out.sl
                rw [hsl] at h1
                rw [h1.cell (by rw [il_len]) (by rw [il_len]; exact hxn)]; exact il_get hxn
              rw [hsl] at c57
              have Hx := (show Hid _ from hx)
              have Hsl := (show Hid _ from hsl)
              clear hx hsl hcl
              have hst : (O u).take (j + 1) = (O u).take j ++ [x] := by rw [take_snoc' _ _ hjl, Hx.out]
              have Hst := (show Hid _ from hst)
              clear hst
              by_cases hin : x ∈ th
              · rw [ixo_in hin] at hcs
                have hne : ((((th.idxOf x : Nat) : Int)) == -1) = false := beq_false_of_ne (by omega)
                have Hin := (show Hid _ from hin)
                clear hin
                have c104 := HR.out.pg.at 104 (upd_at _ _ _) (by decide)
                have f104 := HR.out.pg.z 104
                have hlb := HR.out.pg.lt
                obtain ⟨s, hs⟩ : ∃ s, th.idxOf x = s := ⟨_, rfl⟩
                rw [hs] at hcs hne
                have Hs := (show Hid _ from hs)
                clear hs
                have HAL : Hid ((arcsA O th k ++ rowA th k ((O u).take j)).length ≤ 100000) := by
                  show _ ≤ _
                  have h1 := arcsA_le (O := O) HN.out.1 HN.out.2.1 (k := k + 1) (by omega)
                  have h2 := HN.out.2.2.2.2.1
                  have h3 := rowA_take th k (O u) j
                  rw [arcsA, show th.getD k 0 = u by rw [List.getD_eq_getElem?_getD, List.getElem?_eq_getElem hkl, Hu.out]; rfl, List.length_append] at h1
                  rw [List.length_append]; omega
                have hB0l := (HT.out.later HR.out.onl).l0
                have HA1 : Hid (OwnA (wr.alloc (.cells #[.int .i64 k, .int .i64 s] 65)).drew av (arcsA O th k ++ rowA th k ((O u).take j))) := (HA.out.frame (w' := wr.alloc (.cells #[.int .i64 k, .int .i64 s] 65)) fun g hg => Below.heap_alloc _ _ _ (HA.out.lt hg)).drew
                have HRA : Hid (Rs w0 (wr.alloc (.cells #[.int .i64 k, .int .i64 s] 65)).drew b bb n q slv qdv quv (upd f 104 av) (fun v => ixo th v) 0 B quv ql) := (HR.out.alloc _).drew
                have HFQ : Hid (∀ g, av.ownBlock = some g → w0.heap.size ≤ g ∧ quv.ownBlock ≠ some g) := fun g hg => ⟨HFA.out g hg, fun e => by
                  have h1 := HFA.out g hg
                  have h2 := HQ.out g e
                  omega⟩
                go_wp2_with fail
                obtain ⟨g1, cap1, w1, hrun, hown, hgrow, hpl⟩ := run_append_a _ 52 av _ HA1.out ⟨wr.heap.size, 0, none⟩ 1 k s (two_newD _ _ _ _ _ rfl) HAL.out
                obtain ⟨m, hm⟩ : ∃ m, (arcsA O th k ++ rowA th k ((O u).take j)).length = m := ⟨_, rfl⟩
                rw [hm] at hrun hown
                have HO := (show Hid _ from And.intro hown (And.intro hgrow hpl))
                have Hm := (show Hid _ from hm)
                clear hm
                have HR9 : Hid (Rs w0 w1 b bb n q slv qdv quv (upd f 104 av) (fun v => ixo th v) 0 B quv ql) := HRA.out.grown hgrow HFQ.out
                have hbx9 := (HT.out.later HR9.out.onl).bx
                have d104 := HR9.out.pg.at 104 (upd_at _ _ _) (by decide)
                have e104 := HR9.out.pg.z 104
                clear hown hgrow hpl
                go_big_region
                go_wp2_with fail
                have hg1 : w0.heap.size ≤ g1 := by
                  rcases HO.out.2.2 with s | s
                  · exact HFA.out g1 s
                  · exact Nat.le_trans HRA.out.onl.size s
                have hlb0 := HR.out.lb
                refine ⟨⟨j + 1, .slice (some ⟨g1, 0, none⟩) (m + 1) cap1, by omega, by go_num, ?_, ?_, ?_⟩, by simp only [intOf]; omega⟩
                · have h1 := HR9.out.setPg HP.out 104 (.slice (some ⟨g1, 0, none⟩) (m + 1) cap1) (by decide)
                  rw [upd_upd] at h1
                  exact h1
                · rw [Hst.out, rowA_snoc, if_pos Hin.out, Hs.out, ← List.append_assoc]
                  exact HO.out.1.frame fun g hg => Below.heap_setCell _ _ _ _ (by
                    obtain rfl : g1 = g := by simpa [Value.ownBlock] using hg
                    exact (show g1 ≠ b by omega))
                · intro g hg
                  obtain rfl : g1 = g := by simpa [Value.ownBlock] using hg
                  exact hg1
              · rw [ixo_out hin] at hcs
                have Hin := (show Hid _ from hin)
                clear hin
                go_wp2_with fail
                refine ⟨⟨j + 1, av, by omega, by go_num, HR.out, ?_, HFA.out⟩, by simp only [intOf]; omega⟩
                rw [Hst.out, rowA_snoc, if_neg Hin.out, List.append_nil]
                exact HA.out
            · obtain rfl : L = j := by omega
              have hjL' : ¬ (L : Int) < (L : Int) := by omega
              go_wp2_with fail
              refine ⟨⟨k + 1, av, by omega, by go_num, HR.out, ?_, HFA.out⟩, by simp only [intOf]; omega⟩
              have h1 := HA.out
              have h2 := HL.out
              rw [List.take_of_length_le (by omega)] at h1
              rw [arcsA, show th.getD k 0 = u by rw [List.getD_eq_getElem?_getD, List.getElem?_eq_getElem hkl, Hu.out]; rfl]
              exact h1
        · obtain rfl : t = k := by omega
          have hkt' : ¬ (t : Int) < (t : Int) := by omega
          clear hkt hk
          have hox := (HT.out.later HR.out.onl).ox
          have c56 := HR.out.pg.at 56 ((upd_ne _ _ (by decide)).trans HK.out.1) (by decide)
          have c104 := HR.out.pg.at 104 (upd_at _ _ _) (by decide)
          have c110 := HR.out.pg.at 110 (HF.out.u104 av).k110 (by decide)
          obtain ⟨R, hRl⟩ : ∃ R, (arcsA O th t).length = R := ⟨_, rfl⟩
          have HRl := (show Hid _ from hRl)
          have hRb : R ≤ 65536 := by
            have h1 := arcsA_le (O := O) HN.out.1 HN.out.2.1 (k := t) (by rw [Hth.out]; exact Nat.le_refl _)
            have h2 := HN.out.2.2.2.2.1
            omega
          obtain ⟨ava, cav, hav⟩ := HA.out.form'
          rw [hRl] at hav
          subst hav
          clear hRl
          have HWR : Hid (IntKind.i64.wrap (16 * IntKind.i64.wrap ((t : Int) + (R : Int))) = 16 * ((t : Int) + (R : Int))) := by
            show _ = _
            have h1 : IntKind.i64.wrap ((t : Int) + (R : Int)) = (t : Int) + (R : Int) := by rw [IntKind.wrap_i64]; omega
            rw [h1, IntKind.wrap_i64]; omega
          go_wp2_with fail
          refine wp_loop_rounds 1 ?_
          rw [rounds_succ]
          go_wp2_with fail
          go_region_held3 (fun w' => w'.cell? ⟨w.heap.size, 0, none⟩ = some (.pointer (some ⟨b, 0, none⟩)) ∧ w'.cell? ⟨b, 56, none⟩ = some (.slice at' t ct) ∧ w'.cell? ⟨b, 104, none⟩ = some (.slice ava R cav) ∧ w'.cell? ⟨b, 110, none⟩ = some (.pointer (some ⟨bb, 0, none⟩))) ((first | exact ⟨hbx, c56, c104, c110⟩ | exact ⟨hbx9, d56, d104, d110⟩)) ((go_at_call 18; refine Calls.mono (charge_walk wr.drew bb 0 (IntKind.i64.wrap (16 * IntKind.i64.wrap ((t : Int) + (R : Int)))) HR.out.bc HR.out.bf (by omega) (by omega) (by rw [HWR.out]; omega) (by rw [HWR.out]; omega)) ?_; rintro e w2 ⟨rfl, hw2⟩; have HR2 : Hid (Rs w0 w2 b bb n q slv qdv quv (upd f 104 (.slice ava R cav)) (fun v => ixo th v) (0 + 16 * ((t : Int) + (R : Int))) B quv ql) := (by rw [hw2, HWR.out]; exact HR.out.drew.setBb HP.out _); have HA2 : Hid (OwnA w2 (.slice ava R cav) (arcsA O th t)) := (by rw [hw2]; exact HA.out.drew.frame fun g hg => Below.heap_setCell _ _ _ _ (fun e => by have h1 := HFA.out g hg; have h2 := HR.out.lbb; have h3 : g = bb := e; omega)); have hbx9 := (HT.out.later HR2.out.onl).bx; have d56 := HR2.out.pg.at 56 ((upd_ne _ _ (by decide)).trans HK.out.1) (by decide); have d104 := HR2.out.pg.at 104 (upd_at _ _ _) (by decide); have d110 := HR2.out.pg.at 110 (HF.out.u104 _).k110 (by decide); clear hw2))
          clear HR HA hbx c56 c104 c110 HWR
          go_wp2_with fail
          have HAB := (show Hid _ from arcs_bd (t := t) HRl.out (fun p hp => by have h1 := arcsA_mem hp; have h2 := Hth.out; omega))
          have KN := (show Hid _ from new_walk w2.drew t R cav ava _ _ (mt (arcsA O th t)) (HA2.out.drew.arcs HRl.out) (by omega) (by omega) HAB.out.1 HAB.out.2 (fun u _ s => mt_arcs _ HRl.out u s))
          go_region_held3 (fun w' => w'.cell? ⟨w.heap.size, 0, none⟩ = some (.pointer (some ⟨b, 0, none⟩)) ∧ w'.cell? ⟨b, 56, none⟩ = some (.slice at' t ct) ∧ w'.cell? ⟨b, 104, none⟩ = some (.slice ava R cav)) ((first | exact ⟨hbx9, d56, d104⟩ | exact ⟨hbx3, e56, e104⟩ | exact ⟨hbx4, g56, g104⟩)) ((first | (go_at_call 19; refine Calls.mono KN.out ?_; rintro e w3 ⟨gb, gf, gs, K, cf, cs, F, S, rfl, hG, hSg, hKR, hB3⟩; have HG := (show Hid _ from hG); have HSg := (show Hid _ from hSg); have HR3 : Hid (Rs w0 w3 b bb n q slv qdv quv (upd f 104 (.slice ava R cav)) (fun v => ixo th v) (0 + 16 * ((t : Int) + (R : Int))) B quv ql) := HR2.out.drew.below hB3; have HA3 : Hid (OwnA w3 (.slice ava R cav) (arcsA O th t)) := HA2.out.drew.frame fun g hg => hB3.block g (HA2.out.drew.lt hg); have hbx3 := (HT.out.later HR3.out.onl).bx; have e56 := HR3.out.pg.at 56 ((upd_ne _ _ (by decide)).trans HK.out.1) (by decide); have e104 := HR3.out.pg.at 104 (upd_at _ _ _) (by decide); clear hG hSg hB3) | (go_at_call 20; refine Calls.mono (lfo_walk w3 gb gf gs t K cf cs F S (mt (arcsA O th t)) HG.out HSg.out (by omega) (by omega)) ?_; rintro e w4 ⟨os, go, oc, rfl, hKh, hno, hOo, hgo, hB4⟩; have HKh := (show Hid _ from And.intro hKh hno); have HOo := (show Hid _ from And.intro hOo hgo); have HR4 : Hid (Rs w0 w4 b bb n q slv qdv quv (upd f 104 (.slice ava R cav)) (fun v => ixo th v) (0 + 16 * ((t : Int) + (R : Int))) B quv ql) := HR3.out.below hB4; have HA4 : Hid (OwnA w4 (.slice ava R cav) (arcsA O th t)) := HA3.out.frame fun g hg => hB4.block g (HA3.out.lt hg); have HG4 : Hid (w0.heap.size ≤ go) := Nat.le_trans HR3.out.onl.size hgo; have HG5 : Hid (∀ g, (Value.slice ava R cav).ownBlock = some g → g ≠ go) := (fun g hg => by have h1 := HA3.out.lt hg; omega); have hbx4 := (HT.out.later HR4.out.onl).bx; have g56 := HR4.out.pg.at 56 ((upd_ne _ _ (by decide)).trans HK.out.1) (by decide); have g104 := HR4.out.pg.at 104 (upd_at _ _ _) (by decide); clear hKh hno hOo hgo hB4)))
          go_wp2_with fail
          clear HR2 HA2 HR3 HA3 HG HSg KN HAB hbx9 d56 d104 d110 hbx3 e56 e104 hbx4 g56 g104 hox hKR
          have HK4 : Hid (os.length ≤ t ∧ (∀ c, c ∈ os → c < t)) := ⟨HKh.out.1.len, HKh.out.1.kd.lt⟩
          obtain ⟨av, hav⟩ : ∃ av, av = Value.slice ava R cav := ⟨_, rfl⟩
          have HAV := (show Hid _ from hav)
          rw [← hav] at HR4 HA4 HG5 HFA
          clear hav
          go_loopw [16, 174] (fun x16 x174 wr => ∃ (k : Nat) (S : Nat → Int), k ≤ t ∧ x174 = .int .i64 k ∧ Rs w0 wr b bb n q slv qdv quv (upd f 104 av) S (0 + 16 * ((t : Int) + (R : Int))) B quv ql ∧ (∀ u, u < n → u ∉ th.drop k → S u = -1) ∧ OwnA wr av (arcsA O th t) ∧ OwnV wr 3 (.slice (some ⟨go, 0, none⟩) os.length oc) (ol os)) (fun _ x _ => t - (intOf x).toNat)
          case atStart => exact ⟨0, _, Nat.zero_le _, rfl, HR4.out, fun u _ hn => ixo_out (by simpa using hn), HA4.out, HOo.out.1⟩
          case round => as_aux_lemma =>
            clear HR4 HA4 HOo
            obtain ⟨k, S, hk, rfl, hR, hS, hA, hO⟩ := hrel
            have HR : Hid (Rs w0 wr b bb n q slv qdv quv (upd f 104 av) S (0 + 16 * ((t : Int) + (R : Int))) B quv ql) := hR
            have HS := (show Hid _ from hS)
            have HA : Hid (OwnA wr av (arcsA O th t)) := hA
            have HO : Hid (OwnV wr 3 (.slice (some ⟨go, 0, none⟩) os.length oc) (ol os)) := hO
            clear hR hS hA hO
            have hbx := (HT.out.later HR.out.onl).bx
            by_cases hkt : k < t
            · have hkt' : (k : Int) < (t : Int) := by omega
              have hkl : k < th.length := by rw [Hth.out]; exact hkt
              obtain ⟨u, hu⟩ : ∃ u, th[k] = u := ⟨_, rfl⟩
              have hun : u < n := by rw [← hu]; exact HN.out.2.1 _ (List.getElem_mem _)
              have hun' : (u : Int) < (n : Int) := by omega
              obtain ⟨gt, ct', hat, _⟩ := HT.out.th.block ((ol_len _).trans Hth.out) (by omega)
              cases hat
              have hct : wr.cell? ⟨gt, k, none⟩ = some (.int .i64 u) := by
                rw [(HT.out.later HR.out.onl).th.cell (by rw [ol_len, Hth.out]) (by rw [ol_len]; exact hkl), ol_get hkl, hu]
              have c57 := HR.out.pg.at 57 (HF.out.u104 av).k57 (by decide)
              obtain ⟨gs, cs, hsl, _⟩ := HR.out.sl.block (il_len _ _) (by omega)
              subst hsl
              have hcs : wr.cell? ⟨gs, u, none⟩ = some (.int .i64 (S u)) := by
                rw [HR.out.sl.cell (by rw [il_len]) (by rw [il_len]; exact hun)]; exact il_get hun
              have hfs := HR.out.sl.free (by rw [il_len]) u
              have Hu := (show Hid _ from hu)
              clear hu
              go_wp2_with fail
              have hgs := HR.out.ls gs rfl
              have h3 := drop_next hkl HS.out
              rw [Hu.out] at h3
              refine ⟨⟨k + 1, _, by omega, by go_num, HR.out.setSl HP.out rfl u (-1), h3, HA.out.frame fun g hg => Below.heap_setCell _ _ _ _ (by
                have h1 := HFA.out g hg
                exact (show g ≠ gs by omega)), HO.out.frame fun g hg => Below.heap_setCell _ _ _ _ (by
                obtain rfl : go = g := by simpa [Value.ownBlock] using hg
                have h1 := HG4.out
                exact (show go ≠ gs by omega))⟩, by simp only [intOf]; omega⟩
            · obtain rfl : t = k := by omega
              have hkt' : ¬ (t : Int) < (t : Int) := by omega
              have HR1 : Hid (Rs w0 wr b bb n q slv qdv quv (upd f 104 av) (fun _ => -1) (0 + 16 * ((t : Int) + (R : Int))) B quv ql) := HR.out.ext (fun i hi => HS.out i hi (by rw [← Hth.out]; simp)) (fun _ _ => rfl) rfl
              clear hkt hk HR HS
              by_cases hos : os.length = t
              · have HOS : Hid (os.length = t) := hos
                have HO1 : Hid (OwnV wr 3 (.slice (some ⟨go, 0, none⟩) t oc) (il t fun j => ((if j < 0 then th.getD (os.getD j 0) 0 else os.getD j 0 : Nat) : Int))) := by
                  show OwnV _ _ _ _
                  have h1 := HO.out
                  rw [ol_il, hos] at h1
                  exact h1
                rw [hos]
                clear hos HO
                go_wp2_with fail
                generalize hw5 : wr = w5 at *
                clear hw5
                go_loopw [17, 18, 189] (fun x17 x18 x189 wr => ∃ k : Nat, k ≤ t ∧ x189 = .int .i64 k ∧ Rs w0 wr b bb n q slv qdv quv (upd f 104 av) (fun _ => -1) (0 + 16 * ((t : Int) + (R : Int))) B quv ql ∧ OwnA wr av (arcsA O th t) ∧ OwnV wr 3 (.slice (some ⟨go, 0, none⟩) t oc) (il t fun j => ((if j < k then th.getD (os.getD j 0) 0 else os.getD j 0 : Nat) : Int))) (fun _ _ x _ => t - (intOf x).toNat)
                case atStart => exact ⟨0, Nat.zero_le _, rfl, HR1.out, HA.out, HO1.out⟩
                case round => as_aux_lemma =>
                  clear HR1 HA HO1 hbx
                  obtain ⟨k, hk, rfl, hR, hA, hO⟩ := hrel
                  have HR : Hid (Rs w0 wr b bb n q slv qdv quv (upd f 104 av) (fun _ => -1) (0 + 16 * ((t : Int) + (R : Int))) B quv ql) := hR
                  have HA : Hid (OwnA wr av (arcsA O th t)) := hA
                  have HO : Hid (OwnV wr 3 (.slice (some ⟨go, 0, none⟩) t oc) (il t fun j => ((if j < k then th.getD (os.getD j 0) 0 else os.getD j 0 : Nat) : Int))) := hO
                  clear hR hA hO
                  have hbx := (HT.out.later HR.out.onl).bx
                  by_cases hkt : k < t
                  · have hkt' : (k : Int) < (t : Int) := by omega
                    obtain ⟨x, hx⟩ : ∃ x, os.getD k 0 = x := ⟨_, rfl⟩
                    have hxt : x < t := by rw [← hx]; exact HK4.out.2 _ (getD_mem (by rw [HOS.out]; exact hkt))
                    have hxt' : (x : Int) < (t : Int) := by omega
                    obtain ⟨y, hy⟩ : ∃ y, th.getD x 0 = y := ⟨_, rfl⟩
                    have hco : wr.cell? ⟨go, k, none⟩ = some (.int .i64 x) := by
                      rw [HO.out.cell (by rw [il_len]) (by rw [il_len]; exact hkt), il_get hkt, if_neg (by omega), hx]
                    have hfo := HO.out.free (by rw [il_len]) k
                    obtain ⟨gt, ct', hat, _⟩ := HT.out.th.block ((ol_len _).trans Hth.out) (by omega)
                    cases hat
                    have hct : wr.cell? ⟨gt, x, none⟩ = some (.int .i64 y) := by
                      have hxl : x < th.length := by rw [Hth.out]; exact hxt
                      rw [(HT.out.later HR.out.onl).th.cell (by rw [ol_len, Hth.out]) (by rw [ol_len]; exact hxl), ol_get hxl, ← hy, List.getD_eq_getElem?_getD, List.getElem?_eq_getElem hxl]; rfl
                    have c56 := HR.out.pg.at 56 ((upd_ne _ _ (by decide)).trans HK.out.1) (by decide)
                    have Hx := (show Hid _ from And.intro hx hy)
                    clear hx hy
                    go_wp2_with fail
                    have h4 := HG4.out
                    refine ⟨⟨k + 1, by omega, by go_num, HR.out.move ((Only.refl (fun j => j = go) wr).setCell ⟨go, k, none⟩ _ fun _ => rfl) (fun j hj => ⟨by omega, fun e => by have := HQ.out j e; omega⟩), HA.out.frame fun g hg => Below.heap_setCell _ _ _ _ (HG5.out g hg), ?_⟩, by simp only [intOf]; omega⟩
                    have h1 := HO.out.set (by rw [il_len]) k (.int .i64 y)
                    rw [il_set] at h1
                    have e : il t (fun j => if j = k then (y : Int) else ((if j < k then th.getD (os.getD j 0) 0 else os.getD j 0 : Nat) : Int)) = il t fun j => ((if j < k + 1 then th.getD (os.getD j 0) 0 else os.getD j 0 : Nat) : Int) := il_ext fun j _ => by
                      by_cases e : j = k
                      · subst e; rw [if_pos rfl, if_pos (by omega), Hx.out.1, Hx.out.2]
                      · by_cases e2 : j < k
                        · rw [if_neg e, if_pos e2, if_pos (by omega)]
                        · rw [if_neg e, if_neg e2, if_neg (by omega)]
                    rw [e] at h1
                    exact h1
                  · obtain rfl : t = k := by omega
                    have hkt' : ¬ (t : Int) < (t : Int) := by omega
                    have HO2 : Hid (OwnV wr 3 (.slice (some ⟨go, 0, none⟩) t oc) (ol (os.map fun i => th.getD i 0))) := by
                      show OwnV _ _ _ _
                      have e : (il t fun j => ((if j < t then th.getD (os.getD j 0) 0 else os.getD j 0 : Nat) : Int)) = ol (os.map fun i => th.getD i 0) := by
                        rw [map_il, HOS.out]
                        exact il_ext fun j hj => by rw [if_pos hj]
                      rw [← e]; exact HO.out
                    clear hkt hk HO
                    obtain ⟨th', hth'⟩ : ∃ th', (os.map fun i => th.getD i 0) = th' := ⟨_, rfl⟩
                    have Hth' : Hid ((os.map fun i => th.getD i 0) = th') := hth'
                    rw [hth'] at HO2
                    have HM' : Hid (th'.length = t ∧ ∀ v, v ∈ th' → v < n) := by
                      show _ ∧ _
                      rw [← hth', List.length_map]
                      refine ⟨HOS.out, fun v hv => ?_⟩
                      obtain ⟨i, hi, e⟩ := List.mem_map.1 hv
                      rw [← e]
                      exact HN.out.2.1 _ (getD_mem (by rw [Hth.out]; exact HK4.out.2 i hi))
                    clear hth'
                    have c56 := HR.out.pg.at 56 ((upd_ne _ _ (by decide)).trans HK.out.1) (by decide)
                    have f56 := HR.out.pg.z 56
                    go_wp2_with fail
                    have hnb : go ≠ b := by have h1 := HG4.out; have h2 := HR.out.lb; omega
                    have HR1 : Hid (Rs w0 (wr.setCell ⟨b, 56, none⟩ (.slice (some ⟨go, 0, none⟩) t oc)) b bb n q slv qdv quv (upd (upd f 104 av) 56 (.slice (some ⟨go, 0, none⟩) t oc)) (fun _ => -1) (0 + 16 * ((t : Int) + (R : Int))) B quv ql) := HR.out.setPg HP.out 56 _ (by decide)
                    have HO3 : Hid (OwnV (wr.setCell ⟨b, 56, none⟩ (.slice (some ⟨go, 0, none⟩) t oc)) 3 (.slice (some ⟨go, 0, none⟩) t oc) (ol th')) := HO2.out.frame fun g hg => Below.heap_setCell _ _ _ _ (by
                      obtain rfl : go = g := by simpa [Value.ownBlock] using hg
                      exact hnb)
                    have HA3 : Hid (OwnA (wr.setCell ⟨b, 56, none⟩ (.slice (some ⟨go, 0, none⟩) t oc)) av (arcsA O th t)) := HA.out.frame fun g hg => Below.heap_setCell _ _ _ _ (by
                      have h1 := HFA.out g hg
                      have h2 := HR.out.lb
                      exact (show g ≠ b by omega))
                    clear HR HO2 HA c56 f56 hbx
                    generalize wr.setCell ⟨b, 56, none⟩ (.slice (some ⟨go, 0, none⟩) t oc) = w6 at *
                    obtain ⟨f6, hf6⟩ : ∃ f6, upd (upd f 104 av) 56 (.slice (some ⟨go, 0, none⟩) t oc) = f6 := ⟨_, rfl⟩
                    have HF6 : Hid (Fk f6 bb q pv sv lv slv qdv ap cp ∧ f6 56 = .slice (some ⟨go, 0, none⟩) t oc ∧ f6 46 = quv ∧ f6 100 = .slice none 0 0 ∧ f6 101 = .slice none 0 0 ∧ f6 104 = av) := by
                      show _ ∧ _
                      rw [← hf6]
                      refine ⟨(HF.out.u104 av).u56 _, upd_at _ _ _, ?_, ?_, ?_, ?_⟩
                      · rw [upd_ne _ _ (by decide), upd_ne _ _ (by decide)]; exact HK.out.2.1
                      · rw [upd_ne _ _ (by decide), upd_ne _ _ (by decide)]; exact HK.out.2.2.1
                      · rw [upd_ne _ _ (by decide), upd_ne _ _ (by decide)]; exact HK.out.2.2.2.1
                      · rw [upd_ne _ _ (by decide), upd_at]
                    rw [hf6] at HR1
                    clear hf6
                    go_loopw [19, 20, 214] (fun x19 x20 x214 wr => ∃ (k : Nat) (S : Nat → Int), k ≤ t ∧ x214 = .int .i64 k ∧ Rs w0 wr b bb n q slv qdv quv f6 S (0 + 16 * ((t : Int) + (R : Int))) B quv ql ∧ (∀ u, u < n → u ∉ th' → S u = -1) ∧ OwnA wr av (arcsA O th t) ∧ OwnV wr 3 (.slice (some ⟨go, 0, none⟩) t oc) (ol th')) (fun _ _ x _ => t - (intOf x).toNat)
                    case atStart => exact ⟨0, _, Nat.zero_le _, rfl, HR1.out, fun _ _ _ => rfl, HA3.out, HO3.out⟩
                    case round => as_aux_lemma =>
                      clear HR1 HA3 HO3
                      obtain ⟨k, S, hk, rfl, hR, hS, hA, hO⟩ := hrel
                      have HR : Hid (Rs w0 wr b bb n q slv qdv quv f6 S (0 + 16 * ((t : Int) + (R : Int))) B quv ql) := hR
                      have HS := (show Hid _ from hS)
                      have HA : Hid (OwnA wr av (arcsA O th t)) := hA
                      have HO : Hid (OwnV wr 3 (.slice (some ⟨go, 0, none⟩) t oc) (ol th')) := hO
                      clear hR hS hA hO
                      have hbx := (HT.out.later HR.out.onl).bx
                      by_cases hkt : k < t
                      · have hkt' : (k : Int) < (t : Int) := by omega
                        have hkl : k < th'.length := by rw [HM'.out.1]; exact hkt
                        obtain ⟨u, hu⟩ : ∃ u, th'[k] = u := ⟨_, rfl⟩
                        have hum : u ∈ th' := by rw [← hu]; exact List.getElem_mem _
                        have hun : u < n := HM'.out.2 u hum
                        have hun' : (u : Int) < (n : Int) := by omega
                        have hct : wr.cell? ⟨go, k, none⟩ = some (.int .i64 u) := by
                          rw [HO.out.cell (by rw [ol_len, HM'.out.1]) (by rw [ol_len]; exact hkl), ol_get hkl, hu]
                        have c57 := HR.out.pg.at 57 HF6.out.1.k57 (by decide)
                        obtain ⟨gs, cs, hsl, _⟩ := HR.out.sl.block (il_len _ _) (by omega)
                        subst hsl
                        have hcs : wr.cell? ⟨gs, u, none⟩ = some (.int .i64 (S u)) := by
                          rw [HR.out.sl.cell (by rw [il_len]) (by rw [il_len]; exact hun)]; exact il_get hun
                        have hfs := HR.out.sl.free (by rw [il_len]) u
                        have Hum := (show Hid _ from hum)
                        clear hu hum
                        go_wp2_with fail
                        have hgs := HR.out.ls gs rfl
                        refine ⟨⟨k + 1, _, by omega, by go_num, HR.out.setSl HP.out rfl u k, fun v hv hn => ?_, HA.out.frame fun g hg => Below.heap_setCell _ _ _ _ (by
                          have h1 := HFA.out g hg
                          exact (show g ≠ gs by omega)), HO.out.frame fun g hg => Below.heap_setCell _ _ _ _ (by
                          obtain rfl : go = g := by simpa [Value.ownBlock] using hg
                          have h1 := HG4.out
                          exact (show go ≠ gs by omega))⟩, by simp only [intOf]; omega⟩
                        have hne : v ≠ u := fun e => hn (by rw [e]; exact Hum.out)
                        show (if v = u then (k : Int) else S v) = -1
                        rw [if_neg hne]; exact HS.out v hv hn
                      · obtain rfl : t = k := by omega
                        have hkt' : ¬ (t : Int) < (t : Int) := by omega
                        clear hkt hk
                        have hox := (HT.out.later HR.out.onl).ox
                        have c1 := HR.out.pg.at 1 HF6.out.1.k1 (by decide)
                        go_wp2_with fail
                        go_region_held3 (fun w' => w'.cell? ⟨w.heap.size, 0, none⟩ = some (.pointer (some ⟨b, 0, none⟩)) ∧ w'.cell? ⟨w.heap.size + 1, 0, none⟩ = some (.slice none 0 0) ∧ w'.cell? ⟨b, 1, none⟩ = some (.slice none 0 0)) ((first | exact ⟨hbx, hox, c1⟩ | exact ⟨hbx7, hox7, d1⟩)) ((go_at_call 21; refine Calls.mono (set_zero wr.drew b f6 _ HR.out.drew.pg HF6.out.2.2.2.1 HF6.out.2.2.2.2.1) ?_; rintro e w7 ⟨rfl, v7, f7, hP7, hf7, hv7, hl7, hN7⟩; have HR7 : Hid (Rs w0 w7 b bb n q slv qdv quv f7 S (0 + 16 * ((t : Int) + (R : Int))) B quv ql) := HR.out.drew.onB HP.out hN7 hP7; have HF7 : Hid (Fk f7 bb q pv sv lv slv qdv ap cp ∧ f7 56 = .slice (some ⟨go, 0, none⟩) t oc ∧ f7 46 = quv ∧ f7 101 = .slice none 0 0 ∧ f7 104 = av) := ⟨HF6.out.1.congr fun k _ _ h3 h4 _ => hf7 k h3 h4, (hf7 56 (by decide) (by decide)).trans HF6.out.2.1, (hf7 46 (by decide) (by decide)).trans HF6.out.2.2.1, hl7, (hf7 104 (by decide) (by decide)).trans HF6.out.2.2.2.2.2⟩; have HA7 : Hid (OwnA w7 av (arcsA O th t)) := HA.out.drew.frame fun g hg => hN7.block g (HA.out.drew.lt hg) (fun e => by have h1 := HFA.out g hg; have h2 := HR.out.lb; have h3 : g = b := e; omega); have HO7 : Hid (OwnV w7 3 (.slice (some ⟨go, 0, none⟩) t oc) (ol th')) := (OwnV.frame (w' := wr.drew) HO.out fun _ _ => rfl).frame fun g hg => hN7.block g (HO.out.lt hg) (fun e => by have h1 := HG4.out; have h2 := HR.out.lb; have h3 : g = b := e; have h4 : go = g := (by simpa [Value.ownBlock] using hg); omega); have hbx7 := (HT.out.later HR7.out.onl).bx; have hox7 := (HT.out.later HR7.out.onl).ox; have d1 := HR7.out.pg.at 1 HF7.out.1.k1 (by decide); clear hP7 hf7 hv7 hl7 hN7))
                        clear HR HA HO hbx hox c1 HF6
                        go_wp2_with fail
                        have d102 := HR7.out.pg.at 102 HF7.out.1.k102 (by decide)
                        have e102 := HR7.out.pg.z 102
                        have HR8 : Hid (Rs w0 (w7.setCell ⟨b, 102, none⟩ (.slice none 0 0)).drew b bb n q slv qdv quv f7 S (0 + 16 * ((t : Int) + (R : Int))) B quv ql) := by
                          have h1 := (HR7.out.setPg HP.out 102 (.slice none 0 0) (by decide)).drew
                          rw [upd_self HF7.out.1.k102] at h1
                          exact h1
                        have hbx8 := (HT.out.later HR8.out.onl).bx
                        have hox8 := (HT.out.later HR8.out.onl).ox
                        have d8 := HR8.out.pg.at 102 HF7.out.1.k102 (by decide)
                        go_region_held3 (fun w' => w'.cell? ⟨w.heap.size, 0, none⟩ = some (.pointer (some ⟨b, 0, none⟩)) ∧ w'.cell? ⟨w.heap.size + 1, 0, none⟩ = some (.slice none 0 0) ∧ w'.cell? ⟨b, 102, none⟩ = some (.slice none 0 0)) ((first | exact ⟨hbx7, hox7, d102⟩ | exact ⟨hbx8, hox8, d8⟩)) ((go_at_call 8; refine Calls.mono (resize_int0 w7.drew) ?_; rintro e w8 ⟨rfl, rfl⟩))
                        have HA8 : Hid (OwnA (w7.setCell ⟨b, 102, none⟩ (.slice none 0 0)).drew av (arcsA O th t)) := (OwnA.frame (w' := w7.setCell ⟨b, 102, none⟩ (.slice none 0 0)) HA7.out fun g hg => Below.heap_setCell _ _ _ _ (by
                          have h1 := HFA.out g hg
                          have h2 := HR7.out.lb
                          exact (show g ≠ b by omega))).drew
                        have HO8 : Hid (OwnV (w7.setCell ⟨b, 102, none⟩ (.slice none 0 0)).drew 3 (.slice (some ⟨go, 0, none⟩) t oc) (ol th')) := (OwnV.frame (w' := w7.setCell ⟨b, 102, none⟩ (.slice none 0 0)) HO7.out fun g hg => Below.heap_setCell _ _ _ _ (by
                          obtain rfl : go = g := by simpa [Value.ownBlock] using hg
                          have h1 := HG4.out
                          have h2 := HR7.out.lb
                          exact (show go ≠ b by omega))).frame fun _ _ => rfl
                        clear HR7 HA7 HO7 hbx7 hox7 d1 d102 e102 d8
                        have d101 := HR8.out.pg.at 101 HF7.out.2.2.2.1 (by decide)
                        generalize (w7.setCell ⟨b, 102, none⟩ (.slice none 0 0)).drew = w8 at *
                        go_wp2_with fail
                        refine wp_loop_rounds 1 ?_
                        rw [rounds_succ]
                        go_wp2_with fail
                        have d103 := HR8.out.pg.at 103 HF7.out.1.k103 (by decide)
                        have e103 := HR8.out.pg.z 103
                        have HR9 : Hid (Rs w0 (w8.setCell ⟨b, 103, none⟩ (.slice none 0 0)).drew b bb n q slv qdv quv f7 S (0 + 16 * ((t : Int) + (R : Int))) B quv ql) := by
                          have h1 := (HR8.out.setPg HP.out 103 (.slice none 0 0) (by decide)).drew
                          rw [upd_self HF7.out.1.k103] at h1
                          exact h1
                        have hbx9 := (HT.out.later HR9.out.onl).bx
                        have hox9 := (HT.out.later HR9.out.onl).ox
                        have d9 := HR9.out.pg.at 103 HF7.out.1.k103 (by decide)
                        go_region_held3 (fun w' => w'.cell? ⟨w.heap.size, 0, none⟩ = some (.pointer (some ⟨b, 0, none⟩)) ∧ w'.cell? ⟨w.heap.size + 1, 0, none⟩ = some (.slice none 0 0) ∧ w'.cell? ⟨b, 103, none⟩ = some (.slice none 0 0)) ((first | exact ⟨hbx8, hox8, d103⟩ | exact ⟨hbx9, hox9, d9⟩)) ((go_at_call 10; refine Calls.mono (resize_bool0 w8.drew) ?_; rintro e w9 ⟨rfl, rfl⟩))
                        have HA9 : Hid (OwnA (w8.setCell ⟨b, 103, none⟩ (.slice none 0 0)).drew av (arcsA O th t)) := (OwnA.frame (w' := w8.setCell ⟨b, 103, none⟩ (.slice none 0 0)) HA8.out fun g hg => Below.heap_setCell _ _ _ _ (by
                          have h1 := HFA.out g hg
                          have h2 := HR8.out.lb
                          exact (show g ≠ b by omega))).drew
                        have HO9 : Hid (OwnV (w8.setCell ⟨b, 103, none⟩ (.slice none 0 0)).drew 3 (.slice (some ⟨go, 0, none⟩) t oc) (ol th')) := (OwnV.frame (w' := w8.setCell ⟨b, 103, none⟩ (.slice none 0 0)) HO8.out fun g hg => Below.heap_setCell _ _ _ _ (by
                          obtain rfl : go = g := by simpa [Value.ownBlock] using hg
                          have h1 := HG4.out
                          have h2 := HR8.out.lb
                          exact (show go ≠ b by omega))).frame fun _ _ => rfl
                        clear HR8 HA8 HO8 hbx8 hox8 d101 d103 e103
                        generalize (w8.setCell ⟨b, 103, none⟩ (.slice none 0 0)).drew = w9 at *
                        go_wp2_with fail
                        have p90 := HR9.out.pg.at 90 HF7.out.1.k90 (by decide)
                        have p91 := HR9.out.pg.at 91 HF7.out.1.k91 (by decide)
                        have p92 := HR9.out.pg.at 92 HF7.out.1.k92 (by decide)
                        have p93 := HR9.out.pg.at 93 HF7.out.1.k93 (by decide)
                        have p94 := HR9.out.pg.at 94 HF7.out.1.k94 (by decide)
                        have p95 := HR9.out.pg.at 95 HF7.out.1.k95 (by decide)
                        have p96 := HR9.out.pg.at 96 HF7.out.1.k96 (by decide)
                        have p110 := HR9.out.pg.at 110 HF7.out.1.k110 (by decide)
                        go_region_held3 (fun w' => w'.cell? ⟨w.heap.size, 0, none⟩ = some (.pointer (some ⟨b, 0, none⟩)) ∧ w'.cell? ⟨w.heap.size + 1, 0, none⟩ = some (.slice none 0 0) ∧ w'.cell? ⟨b, 110, none⟩ = some (.pointer (some ⟨bb, 0, none⟩)) ∧ w'.cell? ⟨b, 90, none⟩ = some (.int .i64 0) ∧ w'.cell? ⟨b, 91, none⟩ = some (.int .i64 0) ∧ w'.cell? ⟨b, 92, none⟩ = some (.bool false) ∧ w'.cell? ⟨b, 93, none⟩ = some (.int .i64 0) ∧ w'.cell? ⟨b, 94, none⟩ = some (.int .i64 0) ∧ w'.cell? ⟨b, 95, none⟩ = some (.int .i64 0) ∧ w'.cell? ⟨b, 96, none⟩ = some (.bool false)) ((first | exact ⟨hbx9, hox9, p110, p90, p91, p92, p93, p94, p95, p96⟩ | exact SA | exact SB | exact SC)) ((first | (go_at_call 23; refine Calls.mono (orders_zero w9.drew) ?_; rintro e wa ⟨rfl, hBa⟩; have HRa : Hid (Rs w0 wa b bb n q slv qdv quv f7 S (0 + 16 * ((t : Int) + (R : Int))) B quv ql) := HR9.out.drew.below hBa; have HAa : Hid (OwnA wa av (arcsA O th t)) := HA9.out.drew.frame fun g hg => hBa.block g (HA9.out.drew.lt hg); have HOa : Hid (OwnV wa 3 (.slice (some ⟨go, 0, none⟩) t oc) (ol th')) := (OwnV.frame (w' := w9.drew) HO9.out fun _ _ => rfl).frame fun g hg => hBa.block g (HO9.out.lt hg); have SA := And.intro (HT.out.later HRa.out.onl).bx (And.intro (HT.out.later HRa.out.onl).ox (And.intro (HRa.out.pg.at 110 HF7.out.1.k110 (by decide)) (And.intro (HRa.out.pg.at 90 HF7.out.1.k90 (by decide)) (And.intro (HRa.out.pg.at 91 HF7.out.1.k91 (by decide)) (And.intro (HRa.out.pg.at 92 HF7.out.1.k92 (by decide)) (And.intro (HRa.out.pg.at 93 HF7.out.1.k93 (by decide)) (And.intro (HRa.out.pg.at 94 HF7.out.1.k94 (by decide)) (And.intro (HRa.out.pg.at 95 HF7.out.1.k95 (by decide)) (HRa.out.pg.at 96 HF7.out.1.k96 (by decide)))))))))); clear hBa) | (go_at_call 24; refine Calls.mono (work_zero wa) ?_; rintro e wb ⟨rfl, hBb⟩; have HRb : Hid (Rs w0 wb b bb n q slv qdv quv f7 S (0 + 16 * ((t : Int) + (R : Int))) B quv ql) := HRa.out.below hBb; have HAb : Hid (OwnA wb av (arcsA O th t)) := HAa.out.frame fun g hg => hBb.block g (HAa.out.lt hg); have HOb : Hid (OwnV wb 3 (.slice (some ⟨go, 0, none⟩) t oc) (ol th')) := HOa.out.frame fun g hg => hBb.block g (HOa.out.lt hg); have SB := And.intro (HT.out.later HRb.out.onl).bx (And.intro (HT.out.later HRb.out.onl).ox (And.intro (HRb.out.pg.at 110 HF7.out.1.k110 (by decide)) (And.intro (HRb.out.pg.at 90 HF7.out.1.k90 (by decide)) (And.intro (HRb.out.pg.at 91 HF7.out.1.k91 (by decide)) (And.intro (HRb.out.pg.at 92 HF7.out.1.k92 (by decide)) (And.intro (HRb.out.pg.at 93 HF7.out.1.k93 (by decide)) (And.intro (HRb.out.pg.at 94 HF7.out.1.k94 (by decide)) (And.intro (HRb.out.pg.at 95 HF7.out.1.k95 (by decide)) (HRb.out.pg.at 96 HF7.out.1.k96 (by decide)))))))))); clear hBb) | (go_at_call 18; refine Calls.mono (charge_walk wb bb (0 + 16 * ((t : Int) + (R : Int))) 0 HRb.out.bc HRb.out.bf (by omega) (by omega) (by omega) (by omega)) ?_; rintro e wc ⟨rfl, hwc⟩; have HRc : Hid (Rs w0 wc b bb n q slv qdv quv f7 S (0 + 16 * ((t : Int) + (R : Int))) B quv ql) := (by rw [hwc, Int.add_zero]; exact HRb.out.setBb HP.out _); have HAc : Hid (OwnA wc av (arcsA O th t)) := (by rw [hwc]; exact HAb.out.frame fun g hg => Below.heap_setCell _ _ _ _ (fun e => by have h1 := HFA.out g hg; have h2 := HRb.out.lbb; have h3 : g = bb := e; omega)); have HOc : Hid (OwnV wc 3 (.slice (some ⟨go, 0, none⟩) t oc) (ol th')) := (by rw [hwc]; exact HOb.out.frame fun g hg => Below.heap_setCell _ _ _ _ (fun e => by have h1 := HG4.out; have h2 := HRb.out.lbb; have h3 : g = bb := e; have h4 : go = g := (by simpa [Value.ownBlock] using hg); omega)); have SC := And.intro (HT.out.later HRc.out.onl).bx (And.intro (HT.out.later HRc.out.onl).ox (And.intro (HRc.out.pg.at 110 HF7.out.1.k110 (by decide)) (And.intro (HRc.out.pg.at 90 HF7.out.1.k90 (by decide)) (And.intro (HRc.out.pg.at 91 HF7.out.1.k91 (by decide)) (And.intro (HRc.out.pg.at 92 HF7.out.1.k92 (by decide)) (And.intro (HRc.out.pg.at 93 HF7.out.1.k93 (by decide)) (And.intro (HRc.out.pg.at 94 HF7.out.1.k94 (by decide)) (And.intro (HRc.out.pg.at 95 HF7.out.1.k95 (by decide)) (HRc.out.pg.at 96 HF7.out.1.k96 (by decide)))))))))); clear hwc)))
                        clear HR9 HRa HRb HA9 HAa HAb HO9 HOa HOb SA SB p90 p91 p92 p93 p94 p95 p96 p110 hbx9 hox9 d9
                        have hbxc := SC.1
                        clear SC
                        have KC := (show Hid _ from close_zero wc b f7 HRc.out.pg HF7.out.1.k1 HF7.out.1.k95 HF7.out.1.k48 HF7.out.1.k49 HF7.out.1.k50 HF7.out.1.k51)
                        go_wp2_with fail
                        refine Calls.mono KC.out ?_
                        rintro e wd ⟨rfl, hPd, hNd⟩
                        have hPd2 : Pg wd b f7 := by
                          rw [upd_self HF7.out.1.k48, upd_self HF7.out.1.k49, upd_self HF7.out.1.k50, upd_self HF7.out.1.k51] at hPd
                          exact hPd
                        have HRd : Hid (Rs w0 wd b bb n q slv qdv quv f7 S (0 + 16 * ((t : Int) + (R : Int))) B quv ql) := HRc.out.onB HP.out hNd hPd2
                        have HAd : Hid (OwnA wd av (arcsA O th t)) := HAc.out.frame fun g hg => hNd.block g (HAc.out.lt hg) (fun e => by
                          have h1 := HFA.out g hg
                          have h2 := HRc.out.lb
                          have h3 : g = b := e
                          omega)
                        have HOd : Hid (OwnV wd 3 (.slice (some ⟨go, 0, none⟩) t oc) (ol th')) := HOc.out.frame fun g hg => hNd.block g (HOc.out.lt hg) (fun e => by
                          have h1 := HG4.out
                          have h2 := HRc.out.lb
                          have h3 : g = b := e
                          have h4 : go = g := by simpa [Value.ownBlock] using hg
                          omega)
                        clear hPd hPd2 hNd KC HRc HAc HOc
                        have hbxd := (HT.out.later HRd.out.onl).bx
                        have d56 := HRd.out.pg.at 56 HF7.out.2.1 (by decide)
                        have HSd := (show Hid _ from HS.out)
                        go_wp2_with fail
                        go_loopw [24, 306] (fun x24 x306 wr => ∃ (k : Nat) (S : Nat → Int), k ≤ t ∧ x306 = .int .i64 k ∧ Rs w0 wr b bb n q slv qdv quv f7 S (0 + 16 * ((t : Int) + (R : Int))) B quv ql ∧ (∀ u, u < n → u ∉ th'.drop k → S u = -1) ∧ OwnA wr av (arcsA O th t) ∧ OwnV wr 3 (.slice (some ⟨go, 0, none⟩) t oc) (ol th')) (fun _ x _ => t - (intOf x).toNat)
                        case atStart => exact ⟨0, S, Nat.zero_le _, rfl, HRd.out, fun u hu hn => HSd.out u hu (by simpa using hn), HAd.out, HOd.out⟩
                        case round => as_aux_lemma =>
                          clear HRd HAd HOd HSd HS hbxd d56 hbxc
                          obtain ⟨k, S, hk, rfl, hR, hS, hA, hO⟩ := hrel
                          have HR : Hid (Rs w0 wr b bb n q slv qdv quv f7 S (0 + 16 * ((t : Int) + (R : Int))) B quv ql) := hR
                          have HS := (show Hid _ from hS)
                          have HA : Hid (OwnA wr av (arcsA O th t)) := hA
                          have HO : Hid (OwnV wr 3 (.slice (some ⟨go, 0, none⟩) t oc) (ol th')) := hO
                          clear hR hS hA hO
                          have hbx := (HT.out.later HR.out.onl).bx
                          by_cases hkt : k < t
                          · have hkt' : (k : Int) < (t : Int) := by omega
                            have hkl : k < th'.length := by rw [HM'.out.1]; exact hkt
                            obtain ⟨u, hu⟩ : ∃ u, th'[k] = u := ⟨_, rfl⟩
                            have hun : u < n := by rw [← hu]; exact HM'.out.2 _ (List.getElem_mem _)
                            have hun' : (u : Int) < (n : Int) := by omega
                            have hct : wr.cell? ⟨go, k, none⟩ = some (.int .i64 u) := by
                              rw [HO.out.cell (by rw [ol_len, HM'.out.1]) (by rw [ol_len]; exact hkl), ol_get hkl, hu]
                            have c57 := HR.out.pg.at 57 HF7.out.1.k57 (by decide)
                            obtain ⟨gs, cs, hsl, _⟩ := HR.out.sl.block (il_len _ _) (by omega)
                            subst hsl
                            have hcs : wr.cell? ⟨gs, u, none⟩ = some (.int .i64 (S u)) := by
                              rw [HR.out.sl.cell (by rw [il_len]) (by rw [il_len]; exact hun)]; exact il_get hun
                            have hfs := HR.out.sl.free (by rw [il_len]) u
                            have Hu := (show Hid _ from hu)
                            clear hu
                            go_wp2_with fail
                            have hgs := HR.out.ls gs rfl
                            have h3 := drop_next hkl HS.out
                            rw [Hu.out] at h3
                            refine ⟨⟨k + 1, _, by omega, by go_num, HR.out.setSl HP.out rfl u (-1), h3, HA.out.frame fun g hg => Below.heap_setCell _ _ _ _ (by
                              have h1 := HFA.out g hg
                              exact (show g ≠ gs by omega)), HO.out.frame fun g hg => Below.heap_setCell _ _ _ _ (by
                              obtain rfl : go = g := by simpa [Value.ownBlock] using hg
                              have h1 := HG4.out
                              exact (show go ≠ gs by omega))⟩, by simp only [intOf]; omega⟩
                          · obtain rfl : t = k := by omega
                            have hkt' : ¬ (t : Int) < (t : Int) := by omega
                            have HR1 : Hid (Rs w0 wr b bb n q slv qdv quv f7 (fun _ => -1) (0 + 16 * ((t : Int) + (R : Int))) B quv ql) := HR.out.ext (fun i hi => HS.out i hi (by rw [← HM'.out.1]; simp)) (fun _ _ => rfl) rfl
                            clear hkt hk HR HS
                            have c102 := HR1.out.pg.at 102 HF7.out.1.k102 (by decide)
                            have g102 := HR1.out.pg.z 102
                            go_wp2_with fail
                            go_big_region
                            have HR2 : Hid (Rs w0 (wr.setCell ⟨b, 102, none⟩ (.slice none 0 0)).drew b bb n q slv qdv quv f7 (fun _ => -1) (0 + 16 * ((t : Int) + (R : Int))) B quv ql) := by
                              have h1 := (HR1.out.setPg HP.out 102 (.slice none 0 0) (by decide)).drew
                              rw [upd_self HF7.out.1.k102] at h1
                              exact h1
                            have HA2 : Hid (OwnA (wr.setCell ⟨b, 102, none⟩ (.slice none 0 0)).drew av (arcsA O th t)) := (OwnA.frame (w' := wr.setCell ⟨b, 102, none⟩ (.slice none 0 0)) HA.out fun g hg => Below.heap_setCell _ _ _ _ (by
                              have h1 := HFA.out g hg
                              have h2 := HR1.out.lb
                              exact (show g ≠ b by omega))).drew
                            have HO2 : Hid (OwnV (wr.setCell ⟨b, 102, none⟩ (.slice none 0 0)).drew 3 (.slice (some ⟨go, 0, none⟩) t oc) (ol th')) := (OwnV.frame (w' := wr.setCell ⟨b, 102, none⟩ (.slice none 0 0)) HO.out fun g hg => Below.heap_setCell _ _ _ _ (by
                              obtain rfl : go = g := by simpa [Value.ownBlock] using hg
                              have h1 := HG4.out
                              have h2 := HR1.out.lb
                              exact (show go ≠ b by omega))).frame fun _ _ => rfl
                            clear HR1 HA HO c102 g102 hbx
                            generalize (wr.setCell ⟨b, 102, none⟩ (.slice none 0 0)).drew = we at *
                            have hbx := (HT.out.later HR2.out.onl).bx
                            have hox := (HT.out.later HR2.out.onl).ox
                            go_wp2_with fail
                            refine wp_loop_rounds 1 ?_
                            rw [rounds_succ]
                            have c105 := HR2.out.pg.at 105 HF7.out.1.k105 (by decide)
                            have g105 := HR2.out.pg.z 105
                            have c97 := HR2.out.pg.at 97 HF7.out.1.k97 (by decide)
                            go_wp2_with fail
                            go_big_region
                            have HR3 : Hid (Rs w0 (we.setCell ⟨b, 105, none⟩ (.slice none 0 0)).drew b bb n q slv qdv quv f7 (fun _ => -1) (0 + 16 * ((t : Int) + (R : Int))) B quv ql) := by
                              have h1 := (HR2.out.setPg HP.out 105 (.slice none 0 0) (by decide)).drew
                              rw [upd_self HF7.out.1.k105] at h1
                              exact h1
                            have HA3 : Hid (OwnA (we.setCell ⟨b, 105, none⟩ (.slice none 0 0)).drew av (arcsA O th t)) := (OwnA.frame (w' := we.setCell ⟨b, 105, none⟩ (.slice none 0 0)) HA2.out fun g hg => Below.heap_setCell _ _ _ _ (by
                              have h1 := HFA.out g hg
                              have h2 := HR2.out.lb
                              exact (show g ≠ b by omega))).drew
                            have HO3 : Hid (OwnV (we.setCell ⟨b, 105, none⟩ (.slice none 0 0)).drew 3 (.slice (some ⟨go, 0, none⟩) t oc) (ol th')) := (OwnV.frame (w' := we.setCell ⟨b, 105, none⟩ (.slice none 0 0)) HO2.out fun g hg => Below.heap_setCell _ _ _ _ (by
                              obtain rfl : go = g := by simpa [Value.ownBlock] using hg
                              have h1 := HG4.out
                              have h2 := HR2.out.lb
                              exact (show go ≠ b by omega))).frame fun _ _ => rfl
                            clear HR2 HA2 HO2 c105 g105 c97 hbx hox
                            generalize (we.setCell ⟨b, 105, none⟩ (.slice none 0 0)).drew = wf at *
                            have hbx := (HT.out.later HR3.out.onl).bx
                            have c41 := HR3.out.pg.at 41 HF7.out.1.k41 (by decide)
                            have hq := HN.out.2.2.2.2.2.1
                            go_wp2_with fail
                            go_loopw [28, 367] (fun x28 x367 wr => ∃ (k : Nat) (B' : Nat → Bool) (qv : Value), k ≤ q ∧ x367 = .int .i64 k ∧ Rs w0 wr b bb n q slv qdv quv (upd f7 46 qv) (fun _ => -1) (0 + 16 * ((t : Int) + (R : Int))) B' qv (ql ++ ol (unq B k)) ∧ (∀ i, i < k → B' i = true) ∧ (∀ i, k ≤ i → B' i = B i) ∧ OwnA wr av (arcsA O th t) ∧ OwnV wr 3 (.slice (some ⟨go, 0, none⟩) t oc) (ol th') ∧ ∀ g, qv.ownBlock = some g → g ≠ go ∧ av.ownBlock ≠ some g) (fun _ x _ => q - (intOf x).toNat)
                            case atStart =>
                              refine ⟨0, B, quv, Nat.zero_le _, rfl, ?_, fun i hi => by omega, fun _ _ => rfl, HA3.out, HO3.out, fun g hg => ⟨fun e => ?_, fun e => ?_⟩⟩
                              · rw [upd_self HF7.out.2.2.1]
                                exact HR3.out.ext (fun _ _ => rfl) (fun _ _ => rfl) (by simp [unq, ol])
                              · have h1 := HQ.out g hg
                                have h2 := HG4.out
                                omega
                              · have h1 := HQ.out g hg
                                have h2 := HFA.out g e
                                omega
                            case round => as_aux_lemma =>
                              clear HR3 HA3 HO3 hbx c41
                              obtain ⟨k, B', qv, hk, rfl, hR, hB1, hB2, hA, hO, hqg⟩ := hrel
                              have HR : Hid (Rs w0 wr b bb n q slv qdv quv (upd f7 46 qv) (fun _ => -1) (0 + 16 * ((t : Int) + (R : Int))) B' qv (ql ++ ol (unq B k))) := hR
                              have HB1 := (show Hid _ from And.intro hB1 hB2)
                              have HA : Hid (OwnA wr av (arcsA O th t)) := hA
                              have HO : Hid (OwnV wr 3 (.slice (some ⟨go, 0, none⟩) t oc) (ol th')) := hO
                              have HQG := (show Hid _ from hqg)
                              clear hR hB1 hB2 hA hO hqg
                              have hbx := (HT.out.later HR.out.onl).bx
                              by_cases hkq : k < q
                              · have hkq' : (k : Int) < (q : Int) := by omega
                                obtain ⟨gq, cq, hqd, _⟩ := HR.out.qd.block (bl_len _ _) (by omega)
                                have c47 := HR.out.pg.at 47 (HF7.out.1.u46 qv).k47 (by decide)
                                subst hqd
                                have hcq : wr.cell? ⟨gq, k, none⟩ = some (.bool (B' k)) := by
                                  rw [HR.out.qd.cell (by rw [bl_len]) (by rw [bl_len]; exact hkq)]; exact bl_get hkq
                                have hfq := HR.out.qd.free (by rw [bl_len]) k
                                have hBk := HB1.out.2 k (Nat.le_refl _)
                                by_cases hb : B k = true
                                · rw [hBk, hb] at hcq
                                  have HBK := (show Hid _ from hb)
                                  clear hBk hb
                                  go_wp2_with fail
                                  refine ⟨⟨k + 1, B', qv, by omega, by go_num, ?_, fun i hi => ?_, fun i hi => HB1.out.2 i (by omega), HA.out, HO.out, HQG.out⟩, by simp only [intOf]; omega⟩
                                  · rw [unq, HBK.out, if_pos rfl, List.append_nil]; exact HR.out
                                  · by_cases e : i = k
                                    · rw [e, HB1.out.2 k (Nat.le_refl _)]; exact HBK.out
                                    · exact HB1.out.1 i (by omega)
                                · have hb' : B k = false := by simpa using hb
                                  rw [hBk, hb'] at hcq
                                  have HBK := (show Hid _ from hb')
                                  clear hBk hb hb'
                                  have HRs := (show Hid _ from HR.out.setQd HP.out rfl k true)
                                  have HRa := (show Hid _ from (HRs.out.alloc (.cells #[.int .i64 k] 3)).drew)
                                  have hql := HN.out.2.2.2.2.2.2
                                  obtain ⟨g1, cap1, w1, hrun, hown, hgrow, hpl⟩ := run_append_1 _ qv _ HRa.out.qu ⟨(wr.setCell ⟨gq, k, none⟩ (.bool true)).heap.size, 0, none⟩ 1 (.int .i64 k) rfl (one_newD _ _ _ _ rfl) (by rw [List.length_append, ol_len]; have := unq_len B k; omega)
                                  have hsz : (wr.setCell ⟨gq, k, none⟩ (.bool true)).heap.size = wr.heap.size := by simp [World.setCell]
                                  rw [hsz] at hrun
                                  obtain ⟨m, hm⟩ : ∃ m, (ql ++ ol (unq B k)).length = m := ⟨_, rfl⟩
                                  rw [hm] at hrun hown
                                  have HR9 : Hid (Rs w0 w1 b bb n q slv (.slice (some ⟨gq, 0, none⟩) q cq) quv (upd f7 46 qv) (fun _ => -1) (0 + 16 * ((t : Int) + (R : Int))) (fun j => if j = k then true else B' j) (.slice (some ⟨g1, 0, none⟩) (m + 1) cap1) (ql ++ ol (unq B k) ++ [.int .i64 k])) := HRa.out.push HP.out hgrow hown (fun g hg => by
                                    obtain rfl : g1 = g := by simpa [Value.ownBlock] using hg
                                    exact hpl)
                                  have HQS := (show Hid _ from qstep HP.out HR.out HR9.out hgrow hpl HB1.out HA.out HO.out HFA.out HG4.out HQG.out HBK.out)
                                  have hbx9 := (HT.out.later HR9.out.onl).bx
                                  have c46 := HR.out.pg.at 46 (upd_at _ _ _) (by decide)
                                  have d46 := HR9.out.pg.at 46 (upd_at _ _ _) (by decide)
                                  have e46 := HR9.out.pg.z 46
                                  have hl0 := (HT.out.later HR.out.onl).l0
                                  have hlb := HR.out.pg.lt
                                  have hqb : gq ≠ b := fun e => HP.out.d1 (by rw [← e]; rfl)
                                  have hqb' : b ≠ gq := Ne.symm hqb
                                  have hq0 : w.heap.size ≠ gq := fun e => HT.out.n0 (.inr (.inr (.inr (.inl (by rw [e]; rfl)))))
                                  have hql2 : gq < wr.heap.size := HR.out.qd.lt rfl
                                  clear hown hgrow hpl hm hsz hql HRs HRa HR9 HR HA HO HB1 HQG HBK
                                  go_wp2_with fail
                                  go_big_region
                                  go_wp2_with fail
                                  exact ⟨⟨k + 1, _, .slice (some ⟨g1, 0, none⟩) (m + 1) cap1, by omega, by go_num, HQS.out⟩, by simp only [intOf]; omega⟩
                              · obtain rfl : q = k := by omega
                                have hkq' : ¬ (q : Int) < (q : Int) := by omega
                                go_wp2_with fail
                                go_ret
                                refine ⟨os, ?_, ?_⟩
                                · rw [Hth.out, decide_eq_true HOS.out]; rfl
                                · rw [Hth.out]
                                  refine ⟨HKh.out.1, HKh.out.2, _, av, _, _, _, ⟨?_, HF7.out.1.u46 qv, (upd_ne _ _ (by decide)).trans HF7.out.2.2.2.2, upd_at _ _ _, by rw [Hth.out]; exact HA.out, fun g hg => Nat.le_trans HB0.out.size (HFA.out g hg), fun h => absurd (HOS.out.trans Hth.out.symm) h, fun _ => ⟨⟨_, (upd_ne _ _ (by decide)).trans HF7.out.2.1, ?_⟩, HB1.out.1, rfl⟩⟩⟩
                                  · have h1 := HR.out.back HB0.out HW.out
                                    rw [Int.zero_add] at h1
                                    rw [Hth.out, HRl.out]
                                    exact h1
                                  · rw [Hth'.out]; exact HO.out
              · have HOS : Hid (¬ os.length = t) := hos
                have hd : decide (os.length = t) = false := decide_eq_false hos
                clear hos
                go_wp2_with fail
                go_ret
                refine ⟨os, ?_, ?_⟩
                · rw [Hth.out, hd]; rfl
                · rw [Hth.out]
                  refine ⟨HKh.out.1, HKh.out.2, _, av, _, _, _, ⟨?_, HF.out.u104 av, upd_at _ _ _, (upd_ne _ _ (by decide)).trans HK.out.2.1, by rw [Hth.out]; exact HA.out, fun g hg => Nat.le_trans HB0.out.size (HFA.out g hg), fun _ => ⟨(upd_ne _ _ (by decide)).trans HK.out.1, rfl, rfl, rfl⟩, fun h => absurd (h.trans Hth.out) HOS.out⟩⟩
                  have h1 := HR1.out.back HB0.out HW.out
                  rw [Int.zero_add] at h1
                  rw [Hth.out, HRl.out]
                  exact h1
end Go.Proofs.Ybulkecis

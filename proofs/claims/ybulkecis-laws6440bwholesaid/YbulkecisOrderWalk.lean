/-
  LowestFirstOrder walked.
-/
import Derived.Test.YbulkecisOrder
namespace Go.Proofs.Ybulkecis
open Go.RowKit _root_.Go.Proofs.Ybulkecis.Own
set_option linter.unusedVariables false
set_option maxRecDepth 100000

set_option maxHeartbeats 8000000 in
theorem lfo_walk (w : World) (gb gf gs t K cf cs : Nat) (F S : Nat → Nat) (M : Nat → Nat → Bool) (HG : Hid (Gr w gb gf gs t K cf cs F S)) (HS : Hid (Sg t K F S M)) (ht : t ≤ 1000) (hK : K ≤ 100000) :
    Calls Yba.prog 20 #[.pointer (some ⟨gb, 0, none⟩)] w fun e w' => ∃ os g cap, e = .returned (.tuple #[.slice (some ⟨g, 0, none⟩) os.length cap, .bool (decide (os.length = t))]) ∧ Kh t M os ∧ (∀ c, ¬ ready t M os c) ∧ OwnV w' 3 (.slice (some ⟨g, 0, none⟩) os.length cap) (ol os) ∧ w.heap.size ≤ g ∧ Below w.heap.size w w' := by
  obtain ⟨i3, a3, b3, c3, d3⟩ := info_parts info3
  have J3 := (show Hid _ from And.intro a3 (And.intro b3 (And.intro c3 d3)))
  clear a3 b3 c3 d3
  have hc1 := HG.out.c1
  have hl0 := HG.out.l0
  have HL := (show Hid _ from len_walk w gb gf gs t K cf cs F S HG.out (by omega))
  go_enter Yba.func20, Yba.ntmps20
  go_wp2_with fail
  refine Calls.mono HL.out ?_
  rintro e w' ⟨rfl, hw'⟩
  rw [hw']
  clear hw' w'
  go_wp2_with (at_make; refine wpList_make_v _ rfl _ _ 22 rfl 3 i3 (.int .i64 0) Yba.underlying22 J3.out.1 J3.out.2.1 J3.out.2.2.1 rfl _ _ _ _ t t rfl rfl rfl rfl (Nat.le_refl _) (by rw [J3.out.2.2.2]; omega) (by omega) ?_)
  have hst : Below w.heap.size w (w.alloc (Obj.cells (Array.replicate t (Value.int IntKind.i64 0)) 3)) ∧ OwnV (w.alloc (Obj.cells (Array.replicate t (Value.int IntKind.i64 0)) 3)) 3 (.slice (some ⟨w.heap.size, 0, none⟩) t t) (il t fun s => (cnt (fun k => S k == s) 0 : Nat)) := by
    refine ⟨(Below.refl _ _).alloc (Nat.le_refl _) _, ?_⟩
    have h := OwnV.made w 3 (List.replicate t (Value.int .i64 0)) (by unfold maxLen; simp; omega)
    have e : List.replicate t (Value.int .i64 0) = il t (fun s => (cnt (fun k => S k == s) 0 : Nat)) := by
      apply List.ext_getElem?
      intro k
      by_cases hk : k < t
      · rw [il_get hk]; simp [hk, cnt]
      · rw [List.getElem?_eq_none (by simp; omega), List.getElem?_eq_none (by rw [il_len]; omega)]
    rw [e, il_len, ← e] at h
    simpa [← e] using h
  have HST := (show Hid _ from hst)
  clear hst HL
  generalize (w.alloc (Obj.cells (Array.replicate t (Value.int IntKind.i64 0)) 3)) = w1 at *
  go_loopw [6, 22] (fun x6 x22 wr => ∃ j : Nat, j ≤ K ∧ x22 = .int .i64 j ∧ Below w.heap.size w wr ∧ OwnV wr 3 (.slice (some ⟨w.heap.size, 0, none⟩) t t) (il t fun s => (cnt (fun k => S k == s) j : Nat))) (fun _ j _ => K - (intOf j).toNat)
  case atStart => exact ⟨0, Nat.zero_le _, rfl, HST.out.1, HST.out.2⟩
  case round =>
    obtain ⟨j, hj, rfl, hB, hO⟩ := hrel
    have HB := (show Hid _ from hB)
    have HO : Hid (OwnV wr 3 (.slice (some ⟨w.heap.size, 0, none⟩) t t) (il t fun s => (cnt (fun k => S k == s) j : Nat))) := hO
    clear hB hO HST hc1 hl0 w1
    by_cases hjk : j < K
    · have hjk' : (j : Int) < (K : Int) := by omega
      have hcs := (HG.out.below HB.out).s j hjk
      have hlt := HS.out.lt j hjk
      have hlt' : (S j : Int) < (t : Int) := by omega
      have hbd : cnt (fun k => S k == S j) j ≤ 100000 := Nat.le_trans (cnt_le_n _ _) (by omega)
      have hci : wr.cell? ⟨w.heap.size, S j, none⟩ = some (.int .i64 ((cnt (fun k => S k == S j) j : Nat) : Int)) := by
        rw [HO.out.cell (by rw [il_len]) (by rw [il_len]; omega)]; exact il_get hlt
      have hfi := HO.out.free (by rw [il_len]) (S j)
      generalize hX : cnt (fun k => S k == S j) j = X at *
      have HX : Hid (cnt (fun k => S k == S j) j = X) := hX
      clear hX
      go_wp2_with fail
      go_roundw
      case rel =>
        refine ⟨j + 1, by omega, by go_num, HB.out.setCell (Nat.le_refl _) _, ?_⟩
        have h1 := HO.out.set (by rw [il_len]) (S j) (.int .i64 ((X : Int) + 1))
        rw [il_set] at h1
        refine (il_ext fun s _ => ?_) ▸ h1
        have e9 := HX.out
        by_cases e : s = S j
        · subst e
          simp only [if_true, cnt, beq_self_eq_true]; omega
        · have e' : (S j == s) = false := by simpa using fun h => e h.symm
          simp only [e, if_false, cnt, e']
          simp
      case measure => simp [intOf]; omega
    · obtain rfl : K = j := by omega
      have hjk' : ¬ (K : Int) < (K : Int) := by omega
      have hO2 : OwnV wr 3 (.slice (some ⟨w.heap.size, 0, none⟩) t t) (il t fun s => (dg t M [] s : Nat)) := by
        have e : (il t fun s => ((cnt (fun k => S k == s) K : Nat) : Int)) = il t fun s => (dg t M [] s : Nat) := il_ext fun s _ => by rw [HS.out.dg s]
        rw [← e]; exact HO.out
      have hgl := HO.out.lt (g := w.heap.size) rfl
      have HO2 : Hid (OwnV wr 3 (.slice (some ⟨w.heap.size, 0, none⟩) t t) (il t fun s => (dg t M [] s : Nat))) := hO2
      clear hO2 HO
      obtain ⟨D0, hD0⟩ : ∃ D0 : Nat → Int, D0 = fun s => ((dg t M [] s : Nat) : Int) := ⟨_, rfl⟩
      rw [← hD0] at HO2
      have HD0 : Hid (∀ s, D0 s = dg t M [] s) := fun s => by rw [hD0]
      clear hD0
      go_wp2_with fail
      have hst : Ls w (wr.alloc (.cells #[.slice none 0 0] 103)) w.heap.size wr.heap.size t D0 (.slice none 0 0) 0 (fun _ => 0) := by
        refine ⟨HB.out.alloc HB.out.size _, HO2.out.frame fun g hg => Below.heap_alloc _ _ _ (HO2.out.lt hg), OwnV.nil _ _, by simp, by rw [frozen?_alloc_cells]; simp [World.frozen?], by simp, by simp [Value.ownBlock], by simp [Value.ownBlock], by omega, Nat.le_refl _, HB.out.size, fun g hg => by simp [Value.ownBlock] at hg⟩
      have HST2 := (show Hid _ from hst)
      clear hst HB HO2
      generalize wr.alloc (.cells #[.slice none 0 0] 103) = w2 at *
      generalize wr.heap.size = hb at *
      clear wr
      go_loopw [8, 9, 35] (fun x8 x9 x35 wr => ∃ (j m : Nat) (v : Value) (a : Nat → Int), j ≤ t ∧ m ≤ j ∧ x35 = .int .i64 j ∧ Ls w wr w.heap.size hb t D0 v m a ∧ Asc a m ∧ Cov a m (RP fun n => n < j ∧ D0 n = 0)) (fun _ _ j _ => t - (intOf j).toNat)
      case atStart => exact ⟨0, 0, _, _, Nat.zero_le _, Nat.le_refl _, rfl, HST2.out, fun j k _ h => by omega, fun k h => by omega, fun c h => by obtain ⟨n, _, h, _⟩ := h; omega, fun i j h => by omega⟩
      case round =>
        obtain ⟨j, m, v, a, hjt, hmj, rfl, hL, hA, hC⟩ := hrel
        have HL := (show Hid _ from hL)
        have HA : Hid (Asc a m) := hA
        have HC := (show Hid _ from hC)
        clear hL hA hC HST2
        by_cases hjt2 : j < t
        · have hjt' : (j : Int) < (t : Int) := by omega
          have hci : wr.cell? ⟨w.heap.size, j, none⟩ = some (.int .i64 (D0 j)) := by
            rw [HL.out.ind.cell (by rw [il_len]) (by rw [il_len]; omega)]; exact il_get hjt2
          by_cases hz : D0 j = 0
          · rw [hz] at hci
            have hcb := HL.out.c
            have hfb := HL.out.f
            have hlb := HL.out.lt
            have HL2 := (show Hid _ from HL.out.alloc (.cells #[.int .i64 j] 3))
            obtain ⟨ao, cap, hform⟩ := HL.out.own.form'
            rw [il_len] at hform
            subst hform
            have HZ := (show Hid _ from hz)
            clear hz
            go_wp2_with (at_builtin; go_loud (refine wpList_append_n _ rfl (.tmp 42) (.tmp 44) 103 rfl 3 i3 (.int .i64 0) 8 Yba.underlying103 J3.out.1 J3.out.2.1 J3.out.2.2.1 J3.out.2.2.2 rfl (.slice ao m cap) (il m a) rfl HL2.out.own ⟨wr.heap.size, 0, none⟩ 1 1 [.int .i64 j] rfl rfl (by decide) (one_new _ _ _ _ rfl) (by intro q hq; simp at hq; subst hq; rfl) (by rw [il_len]; unfold maxLen; omega) (by rw [il_len]; omega) ?_); intro g1 cap1 w1 hown hgrow hpl hcx; rw [il_len] at hown ⊢; have HGr := (show Hid _ from And.intro hown (And.intro hgrow hpl)); have hbk : w1.heap[hb]? = wr.heap[hb]? := (hgrow.block hb (by simp; omega) (fun e => HL.out.ne e.symm)).trans (Below.heap_alloc _ _ _ hlb); have hcb1 := (cell_of_block (i := 0) hbk).trans hcb; have hfb1 := (World.frozen?_of_block (a := ⟨hb, 0, none⟩) hbk).trans hfb; clear hown hgrow hpl hcx hbk)
            go_roundw
            case rel =>
              refine ⟨j + 1, m + 1, _, _, by omega, by omega, by go_num, HL2.out.boxed HGr.out.1 HGr.out.2.1 HGr.out.2.2, HA.out.push fun k hk => ?_, ?_⟩
              · obtain ⟨n, e, hn, _⟩ := HC.out.all k hk
                omega
              · refine (Cov.push HC.out (x := (j : Int)) (fun h => ?_) (fun k hk => by simp [show k ≠ m by omega]) (by simp)).congr fun c => (RP_or c).trans (RP_iff (fun n => ?_) c)
                · rw [RP_nat] at h
                  omega
                · have hz := HZ.out
                  constructor
                  · rintro (h1 | h1)
                    · exact ⟨by omega, h1.2⟩
                    · subst h1; exact ⟨by omega, hz⟩
                  · rintro ⟨h1, h2⟩
                    by_cases e : n = j
                    · exact .inr e
                    · exact .inl ⟨by omega, h2⟩
            case measure => simp [intOf]; omega
          · have hz' : (D0 j == 0) = false := beq_false_of_ne hz
            have HZ := (show Hid _ from hz)
            clear hz
            go_wp2_with fail
            go_roundw
            case rel =>
              refine ⟨j + 1, m, v, a, by omega, by omega, by go_num, HL.out, HA.out, HC.out.congr (RP_iff fun n => ?_)⟩
              constructor
              · exact fun h => ⟨by omega, h.2⟩
              · rintro ⟨h1, h2⟩
                have hz := HZ.out
                refine ⟨?_, h2⟩
                rcases Nat.lt_or_eq_of_le (Nat.le_of_lt_succ h1) with h3 | h3
                · exact h3
                · subst h3; exact absurd h2 hz
            case measure => simp [intOf]; omega
        · obtain rfl : t = j := by omega
          have hjt' : ¬ (t : Int) < (t : Int) := by omega
          have hKC : Cov a m (RP (ready t M [])) := HC.out.congr (RP_iff fun n => by
            have h1 := HD0.out n
            unfold ready
            constructor
            · rintro ⟨h2, h3⟩; exact ⟨h2, by simp, by omega⟩
            · rintro ⟨h2, _, h3⟩; exact ⟨h2, by omega⟩)
          have HC2 := (show Hid _ from hKC)
          clear hKC
          have HLN := (show Hid _ from len_walk wr gb gf gs t K cf cs F S (HG.out.below HL.out.bel) (by omega))
          go_wp2_with fail
          refine Calls.mono HLN.out ?_
          rintro e w' ⟨rfl, hw'⟩
          rw [hw']
          clear hw' w' HLN
          have hlb := HL.out.lt
          have hcb := HL.out.c
          go_wp2_with (at_make; refine wpList_make_v _ rfl _ _ 22 rfl 3 i3 (.int .i64 0) Yba.underlying22 J3.out.1 J3.out.2.1 J3.out.2.2.1 rfl _ _ _ _ 0 t rfl rfl rfl rfl (Nat.zero_le _) (by rw [J3.out.2.2.2]; omega) (by omega) ?_)
          have hst : Ls w (wr.alloc (Obj.cells (Array.replicate t (Value.int IntKind.i64 0)) 3)) w.heap.size hb t D0 v m a ∧ Od w (wr.alloc (Obj.cells (Array.replicate t (Value.int IntKind.i64 0)) 3)) w.heap.size hb v wr.heap.size t [] := by
            refine ⟨HL.out.alloc _, ?_, HL.out.bel.size, fun e => ?_, fun e => ?_, fun e => ?_⟩
            · have h := OwnV.made wr 3 (List.replicate t (Value.int .i64 0)) (by unfold maxLen; simp; omega)
              obtain ⟨h1, h2⟩ := h
              refine ⟨by simp [ol], .inr ?_⟩
              rcases h2 with ⟨h2, _⟩ | ⟨g, cap, cur, h2, h3, h4, h5, h6, h7⟩
              · simp at h2
              · simp at h2
                obtain ⟨rfl, rfl⟩ := h2
                exact ⟨_, _, cur, rfl, h3, by simpa using h4, by simp [ol], h6, h7.1, by simp [ol]⟩
            · have := HL.out.ind.lt (g := w.heap.size) rfl; omega
            · have := HL.out.lt; omega
            · have := HL.out.own.lt e; omega
          have HST := (show Hid _ from hst)
          clear hst hcb hlb
          have HP0 : Hid (Hp a m) := HA.out.hp
          have HM0 : Hid (∀ s, s < t → D0 s = dg t M [] s) := fun s _ => HD0.out s
          generalize wr.alloc (Obj.cells (Array.replicate t (Value.int IntKind.i64 0)) 3) = w3 at *
          obtain ⟨go0, hgo0⟩ : ∃ go0, wr.heap.size = go0 := ⟨_, rfl⟩
          rw [hgo0] at HST ⊢
          clear hgo0 HC HA HL HD0 wr
          go_loopw [10, 11, 13] (fun x10 x11 x13 wr => ∃ (os : List Nat) (D : Nat → Int) (v : Value) (m : Nat) (a : Nat → Int) (go cap : Nat), x10 = .slice (some ⟨go, 0, none⟩) os.length cap ∧ Kh t M os ∧ Ls w wr w.heap.size hb t D v m a ∧ (∀ s, s < t → D s = dg t M os s) ∧ Hp a m ∧ Cov a m (RP (ready t M os)) ∧ Od w wr w.heap.size hb v go cap os) (fun x10 _ _ _ => t - slen x10)
          case atStart => exact ⟨[], D0, v, m, a, go0, t, rfl, .nil, HST.out.1, HM0.out, HP0.out, HC2.out, HST.out.2⟩
          case round =>
            clear HST HP0 HM0 HC2 m a hmj v
            obtain ⟨os, D, v, m, a, go, cap, rfl, hKh, hL, hD, hHp, hCv, hOd⟩ := hrel
            have HKh : Hid (Kh t M os) := hKh
            have HL : Hid (Ls w wr w.heap.size hb t D v m a) := hL
            have HD := (show Hid _ from hD)
            have HH : Hid (Hp a m) := hHp
            have HC : Hid (Cov a m (RP (ready t M os))) := hCv
            have HO : Hid (Od w wr w.heap.size hb v go cap os) := hOd
            clear hKh hL hD hHp hCv hOd
            have hcb := HL.out.c
            have hfb := HL.out.f
            have hlb := HL.out.lt
            obtain ⟨ao, capv, hform⟩ := HL.out.own.form'
            rw [il_len] at hform
            subst hform
            by_cases hm0 : m = 0
            · subst hm0
              have HLN := (show Hid _ from len_walk wr gb gf gs t K cf cs F S (HG.out.below HL.out.bel) (by omega))
              go_wp2_with fail
              refine Calls.mono HLN.out ?_
              rintro e w' ⟨rfl, hw'⟩
              rw [hw']
              clear hw' w' HLN
              go_wp2_with fail
              go_ret2
              refine ⟨os, go, cap, ?_, HKh.out, fun c hc => ?_, HO.out.own, HO.out.f0, HL.out.bel⟩
              · congr 5
                by_cases e : os.length = t
                · simp [e]
                · have : ((os.length : Int) == (t : Int)) = false := beq_false_of_ne (by omega)
                  rw [this]; simp [e]
              · obtain ⟨k, hk, _⟩ := HC.out.get (c : Int) (RP_nat.2 hc)
                omega
            · obtain ⟨m1, rfl⟩ : ∃ m1, m = m1 + 1 := ⟨m - 1, by omega⟩
              have hmt : m1 + 1 ≤ t := HC.out.bound fun n hn => hn.1
              have hpos : (0 : Int) < (m1 : Int) + 1 := by omega
              obtain ⟨g, hg1, hg2⟩ : ∃ g, ao = some ⟨g, 0, none⟩ ∧ m1 + 1 ≤ capv := by
                rcases HL.out.own.form with ⟨h1, h2⟩ | ⟨g, c, h1, _, h3, _⟩
                · have := congrArg List.length h2; rw [il_len] at this; simp at this
                · rw [il_len] at h1 h3; cases h1; exact ⟨g, rfl, h3⟩
              subst hg1
              have KP := (show Hid _ from pop_walk wr hb m1 g capv a (by omega) HL.out.own hcb hfb hlb (fun e => HL.out.ne (by rw [e]; rfl)) hg2)
              clear hm0
              go_wp2_with fail
              refine Calls.mono KP.out ?_
              rintro e w4 ⟨rfl, b, hq, hHb, hCb⟩
              obtain ⟨u, hu0, hru⟩ : ∃ u : Nat, a 0 = (u : Int) ∧ ready t M os u := HC.out.all 0 (by omega)
              have HRU : Hid (ready t M os u) := hru
              have hlow : ∀ c, ready t M os c → u ≤ c := fun c hc => by
                obtain ⟨k, hk, e⟩ := HC.out.get (c : Int) (RP_nat.2 hc)
                have := HH.out.min k hk
                omega
              have HKn : Hid (Kh t M (os ++ [u])) := .step HKh.out hru hlow
              have hut := hru.1
              have hlen : os.length + 1 ≤ t := by have := HKn.out.len; simpa using this
              rw [hu0]
              have HL4 : Hid (Ls w w4 w.heap.size hb t D (.slice (some ⟨g, 0, none⟩) m1 capv) m1 b) := HL.out.turn hq
              have HO4 : Hid (Od w w4 w.heap.size hb (.slice (some ⟨g, 0, none⟩) m1 capv) go cap os) := HO.out.turn hq
              have HMid : Hid (Mid t M F S os u 0 D m1 b) := Mid.start HKh.out.kd hru HD.out (hHb HH.out) ((hCb _ HC.out).congr fun c => by
                unfold RP
                constructor
                · rintro ⟨⟨n, e1, h1⟩, h2⟩
                  exact ⟨n, e1, h1, fun e => h2 (by omega)⟩
                · rintro ⟨n, e1, h1, h2⟩
                  exact ⟨⟨n, e1, h1⟩, by omega⟩)
              clear hru hlow hu0 hq hHb hCb KP HL HO HC HH HD hcb hfb hlb hpos a
              have HO5 : Hid (OwnV (w4.alloc (.cells #[.int .i64 u] 3)) 3 (.slice (some ⟨go, 0, none⟩) os.length cap) (ol os)) := HO4.out.own.frame fun g hg => Below.heap_alloc _ _ _ (HO4.out.own.lt hg)
              have HL5 := (show Hid _ from HL4.out.alloc (.cells #[.int .i64 u] 3))
              have hul := ol_len os
              have HUL := (show Hid _ from hul)
              clear hul
              go_upto_block 0 with (at_builtin; go_loud (refine wpList_append_n _ rfl (.tmp 54) (.tmp 56) 22 rfl 3 i3 (.int .i64 0) 8 Yba.underlying22 J3.out.1 J3.out.2.1 J3.out.2.2.1 J3.out.2.2.2 rfl (.slice (some ⟨go, 0, none⟩) os.length cap) (ol os) rfl HO5.out ⟨w4.heap.size, 0, none⟩ 1 1 [.int .i64 u] rfl rfl (by decide) (one_new _ _ _ _ rfl) (by intro q hq; simp at hq; subst hq; rfl) (by rw [ol_len]; unfold maxLen; omega) (by rw [ol_len]; omega) ?_); intro g5 cap5 w5 hown hgrow hpl hcx; rw [ol_len] at hown ⊢; have HGr := (show Hid _ from And.intro hown (And.intro hgrow hpl)); clear hown hgrow hpl hcx)
              have hO6 : Od w w5 w.heap.size hb (.slice (some ⟨g, 0, none⟩) m1 capv) g5 cap5 (os ++ [u]) := by
                have h1 := HGr.out.1
                have h2 := HGr.out.2.2
                have hl := HO4.out.lt
                have hlt5 := HL4.out.lt
                have hgi := HL4.out.ind.lt (g := w.heap.size) rfl
                have hs5 := HL4.out.bel.size
                refine ⟨?_, ?_, fun e => ?_, fun e => ?_, fun e => ?_⟩
                · have e : ol os ++ [.int .i64 u] = ol (os ++ [u]) := by simp [ol]
                  rw [e] at h1
                  simpa using h1
                all_goals rcases h2 with h2 | h2
                · obtain rfl : go = g5 := by simpa [Value.ownBlock] using h2
                  exact HO4.out.f0
                · simp at h2; omega
                · obtain rfl : go = g5 := by simpa [Value.ownBlock] using h2
                  exact HO4.out.n1 e
                · simp at h2; omega
                · obtain rfl : go = g5 := by simpa [Value.ownBlock] using h2
                  exact HO4.out.n2 e
                · simp at h2; omega
                · obtain rfl : go = g5 := by simpa [Value.ownBlock] using h2
                  exact HO4.out.n3 e
                · have := HL4.out.own.lt e
                  simp at h2; omega
              have HO6 : Hid (Od w w5 w.heap.size hb (.slice (some ⟨g, 0, none⟩) m1 capv) g5 cap5 (os ++ [u])) := hO6
              have HL6 : Hid (Ls w w5 w.heap.size hb t D (.slice (some ⟨g, 0, none⟩) m1 capv) m1 b) := HL5.out.grown HGr.out.2.1 fun k hk => by
                obtain rfl : go = k := by simpa [Value.ownBlock] using hk
                exact ⟨HO4.out.f0, HO4.out.n1, HO4.out.n2, HO4.out.n3⟩
              clear hO6 HGr HL5 HO5 HL4 HO4
              have hup := HS.out.up u hut
              have hle := HS.out.leK (v := u + 1) hut
              have KS := (show Hid _ from succ_walk w5 gb gf gs t K cf cs u F S (HG.out.below HL6.out.bel) (by omega) hut hup hle)
              refine Calls.mono KS.out ?_
              rintro e w6 ⟨o, rfl, ho, hw6⟩
              have HL7 : Hid (Ls w w6 w.heap.size hb t D (.slice (some ⟨g, 0, none⟩) m1 capv) m1 b) := by rw [hw6]; exact HL6.out.drew
              have HO7 : Hid (Od w w6 w.heap.size hb (.slice (some ⟨g, 0, none⟩) m1 capv) g5 cap5 (os ++ [u])) := by rw [hw6]; exact HO6.out.frame rfl
              clear hw6 HL6 HO6 KS
              obtain ⟨N, hN⟩ : ∃ N, F (u + 1) - F u = N := ⟨_, rfl⟩
              rw [hN]
              have HFN : Hid (F u + N = F (u + 1)) := by show _ = _; omega
              have HFo : Hid (0 < N → o = F u) := fun h => ho (by omega)
              have hNK : N ≤ 100000 := by omega
              clear hN ho
              go_wp2_with fail
              go_loopw [13, 62] (fun x13 x62 wr => ∃ (j : Nat) (D : Nat → Int) (v : Value) (m : Nat) (a : Nat → Int), j ≤ N ∧ x62 = .int .i64 j ∧ Ls w wr w.heap.size hb t D v m a ∧ Mid t M F S os u j D m a ∧ Od w wr w.heap.size hb v g5 cap5 (os ++ [u])) (fun _ j _ => N - (intOf j).toNat)
              case atStart => exact ⟨0, D, _, m1, b, Nat.zero_le _, rfl, HL7.out, HMid.out, HO7.out⟩
              case round =>
                clear HL7 HO7 HMid D b hup hle
                obtain ⟨j, D, v, m, a, hj, rfl, hL, hM, hO⟩ := hrel
                have HL : Hid (Ls w wr w.heap.size hb t D v m a) := hL
                have HM : Hid (Mid t M F S os u j D m a) := hM
                have HO : Hid (Od w wr w.heap.size hb v g5 cap5 (os ++ [u])) := hO
                clear hL hM hO
                by_cases hjN : j < N
                · have hjN' : (j : Int) < (N : Int) := by omega
                  have hFj : F u + j < F (u + 1) := by have := HFN.out; omega
                  have hKj : F u + j < K := Nat.lt_of_lt_of_le hFj (HS.out.leK (v := u + 1) hut)
                  have hcs := (HG.out.below HL.out.bel).s (F u + j) hKj
                  obtain rfl : o = F u := HFo.out (by omega)
                  have hat := HM.out.at HS.out HRU.out hFj
                  have hslt := HS.out.lt _ hKj
                  have HSK := (show Hid _ from HM.out.skip HS.out HRU.out hFj)
                  have HPU := (show Hid _ from fun (b : Nat → Int) hz hb hc => HM.out.push HS.out HRU.out hFj hz (b := b) hb hc)
                  have hmt : m ≤ 100000 := by
                    have := HM.out.cov.bound (t := t) fun n hn => hn.elim (fun h => h.1.1) (fun h => h.2.1)
                    omega
                  have HFj : Hid (F u + j < F (u + 1)) := hFj
                  have hdle : dg t M (os ++ [u]) (S (F u + j)) ≤ t := cnt_le_n _ _
                  clear hFj hKj
                  generalize hs : S (F u + j) = s at *
                  clear hs
                  have hslt' : (s : Int) < (t : Int) := by omega
                  have hci : wr.cell? ⟨w.heap.size, s, none⟩ = some (.int .i64 (D s)) := by
                    rw [HL.out.ind.cell (by rw [il_len]) (by rw [il_len]; omega)]; exact il_get hslt
                  have hfi := HL.out.ind.free (by rw [il_len]) s
                  obtain ⟨d, hd⟩ : ∃ d : Nat, D s = (d : Int) + 1 := ⟨_, hat⟩
                  have hdt : d ≤ 100000 := by omega
                  rw [hd] at hci
                  have HDd := (show Hid _ from hd)
                  clear hat hd hdle
                  by_cases hz : d = 0
                  · subst hz
                    have HL2 := (show Hid _ from HL.out.count s 0)
                    have KP := (show Hid _ from push_walk _ hb m v a (s : Int) hmt HL2.out.own HL2.out.c HL2.out.f HL2.out.lt HL2.out.ne)
                    go_wp2_with fail
                    refine Calls.mono KP.out ?_
                    rintro e w8 ⟨rfl, v8, b8, hq, hH8, hC8⟩
                    have hd0 := HDd.out
                    have HL8 : Hid (Ls w w8 w.heap.size hb t (fun k => if k = s then D s - 1 else D k) v8 (m + 1) b8) := (HL2.out.turn hq).ext fun i _ => by
                      by_cases e : i = s
                      · simp only [e, if_true]; omega
                      · simp only [e, if_false]
                    have HM8 := (show Hid _ from HPU.out b8 (by omega) hH8 hC8)
                    have HO8 : Hid (Od w w8 w.heap.size hb v8 g5 cap5 (os ++ [u])) := (HO.out.frame (Below.heap_setCell _ _ _ _ HO.out.n1)).turn hq
                    clear hq hH8 hC8 KP HL2 HPU HSK hd0
                    go_wp2_with fail
                    exact ⟨⟨j + 1, _, v8, m + 1, b8, by omega, by go_num, HL8.out, HM8.out, HO8.out⟩, by simp only [intOf]; omega⟩
                  · have hz' : ((d : Int) == 0) = false := beq_false_of_ne (by omega)
                    have HZ := (show Hid _ from hz)
                    clear hz
                    go_wp2_with fail
                    have hd0 := HDd.out
                    have hz0 : d ≠ 0 := HZ.out
                    exact ⟨⟨j + 1, _, v, m, a, by omega, by go_num, (HL.out.count s d).ext fun i _ => by
                      by_cases e : i = s
                      · simp only [e, if_true]; omega
                      · simp only [e, if_false], HSK.out (by omega), HO.out.frame (Below.heap_setCell _ _ _ _ HO.out.n1)⟩, by simp only [intOf]; omega⟩
                · obtain rfl : N = j := by omega
                  have hjN' : ¬ (N : Int) < (N : Int) := by omega
                  obtain ⟨hD2, hC2⟩ := HM.out.stop HS.out HKh.out.kd HRU.out HFN.out
                  have HD2 := (show Hid _ from hD2)
                  have HC2 := (show Hid _ from hC2)
                  clear hD2 hC2
                  go_wp2_with fail
                  exact ⟨⟨os ++ [u], D, v, m, a, g5, cap5, by simp, HKn.out, HL.out, HD2.out, HM.out.hp, HC2.out, HO.out⟩, by simp [slen]; omega⟩
end Go.Proofs.Ybulkecis

/-
  (*view.search).unforce: it takes back the orders behind the first mark of them.
-/
import Derived.Test.YbulkecisInv
import Derived.BigQuiet
import Derived.Deep.QuietTactic
import Derived.BigRegion
import Derived.Deep.LoopGhost
import Derived.WalkSpells
namespace Go.Proofs.Ybulkecis
open Go.RowKit Own
set_option linter.unusedVariables false

def rowOf (S : List (Nat × Nat)) (u : Nat) : List Int := (S.filter (fun p => p.1 == u)).map (fun p => (p.2 : Int))
def ffOf (S : List (Nat × Nat)) : List Int := S.map (fun p => (p.1 : Int))
def cnt (S : List (Nat × Nat)) (v : Nat) : Nat := (S.filter (fun p => p.2 == v)).length
def wtOf (n : Nat) (base : Nat → Int) (S : List (Nat × Nat)) : List Int := (List.range n).map (fun v => base v + (cnt S v : Int))

structure Good (n : Nat) (base : Nat → Int) (S : List (Nat × Nat)) (d : SD) : Prop where
  fcv : ∀ u, u < n → d.fc u = d.fv u
  ffcv : d.ffc = d.ffv
  R : ∀ u, u < n → d.R u = rowOf S u
  ff : d.ff = ffOf S
  wt : d.wt = wtOf n base S

theorem rowOf_snoc_same (S : List (Nat × Nat)) (u v : Nat) : rowOf (S ++ [(u, v)]) u = rowOf S u ++ [(v : Int)] := by simp [rowOf, List.filter_append]
theorem rowOf_snoc_other (S : List (Nat × Nat)) (u v x : Nat) (h : x ≠ u) : rowOf (S ++ [(u, v)]) x = rowOf S x := by
  have : ¬ u = x := fun e => h e.symm
  simp [rowOf, List.filter_append, this]
theorem ffOf_snoc (S : List (Nat × Nat)) (u v : Nat) : ffOf (S ++ [(u, v)]) = ffOf S ++ [(u : Int)] := by simp [ffOf]
theorem cnt_snoc (S : List (Nat × Nat)) (u v x : Nat) : cnt (S ++ [(u, v)]) x = cnt S x + if x = v then 1 else 0 := by
  by_cases h : x = v
  · subst h; simp [cnt, List.filter_append]
  · have : ¬ v = x := fun e => h e.symm
    simp [cnt, List.filter_append, this, h]
theorem wtOf_get (n : Nat) (base : Nat → Int) (S : List (Nat × Nat)) (v : Nat) (hv : v < n) : (wtOf n base S).getD v 0 = base v + (cnt S v : Int) := by simp [wtOf, hv]
theorem wtOf_snoc (n : Nat) (base : Nat → Int) (S : List (Nat × Nat)) (u v : Nat) (hv : v < n) : (wtOf n base (S ++ [(u, v)])) = (wtOf n base S).set v (base v + (cnt S v : Int) + 1) := by
  apply List.ext_getElem
  · simp [wtOf]
  · intro i h1 h2
    have hi : i < n := by simpa [wtOf] using h1
    rw [List.getElem_set]
    simp only [wtOf, List.getElem_map, List.getElem_range, cnt_snoc]
    by_cases h : v = i
    · subst h; simp; omega
    · have : ¬ i = v := fun e => h e.symm
      simp [h, this]
theorem wtOf_unsnoc (n : Nat) (base : Nat → Int) (S : List (Nat × Nat)) (u v : Nat) (hv : v < n) : (wtOf n base (S ++ [(u, v)])).set v (base v + (cnt S v : Int)) = wtOf n base S := by
  rw [wtOf_snoc n base S u v hv, List.set_set]
  apply List.ext_getElem
  · simp [wtOf]
  · intro i h1 h2
    rw [List.getElem_set]
    by_cases h : v = i
    · subst h; simp [wtOf]
    · simp [h]

set_option maxHeartbeats 1000000 in
set_option maxRecDepth 100000 in
theorem unforce_any (n sb wb fb : Nat) (rv : Value) (ls : List (Nat × Nat)) (base : Nat → Int) (S : List (Nat × Nat)) (d0 : SD) (mark : Int) (w : World) (hn : n ≤ 200) (hS : S.length ≤ 65536) (hm : 0 ≤ mark)
    (hSn : ∀ p ∈ S, p.1 < n ∧ p.2 < n) (hbase : ∀ v, 0 ≤ base v ∧ base v ≤ 255) (hfs : 0 < S.length → d0.fs = true) (HI : Hid (Inv n sb wb fb rv ls d0 w)) (HG : Hid (Good n base S d0)) (B : Nat) (HB : Hid (∀ g, g < B → d0.own g = n + 9)) :
    Calls Yba.prog 14 #[.pointer (some ⟨sb, 0, none⟩), .int .i64 mark] w fun e w' => e = .returned (.tuple #[]) ∧ ∃ d, d.fs = d0.fs ∧ d.own = d0.own ∧ Inv n sb wb fb rv ls d w' ∧ Good n base (S.take mark.toNat) d ∧ Only (fun b => B ≤ b) w w' := by
  have Hfs := (show Hid _ from hfs)
  have HSn := (show Hid _ from hSn)
  have Hbase := (show Hid _ from hbase)
  clear hfs hSn hbase
  go_enter Yba.func14, Yba.ntmps14
  go_wp2_with fail
  go_loopg [4] S.length (fun g x wr => ∃ d, g ≤ S.length ∧ min mark.toNat S.length ≤ g ∧ (d.fs = d0.fs ∧ d.own = d0.own ∧ Only (fun b => B ≤ b) w wr) ∧ Inv n sb wb fb rv ls d wr ∧ Good n base (S.take g) d)
  case atStart => exact ⟨d0, by omega, by omega, ⟨rfl, rfl, Only.refl _ _⟩, HI.out, by rw [List.take_length]; exact HG.out⟩
  case round =>
    obtain ⟨d, hg1, hg2, hfd, hI, hG⟩ := hrel
    have HI1 := (show Hid _ from hI)
    have HG1 := (show Hid _ from hG)
    have hfl : d.ff.length = gk := by rw [hG.ff]; simp [ffOf]; omega
    have hff : OwnV wr 3 d.ffv (ints d.ff) := hI.ffrow
    have hcff : wr.cell? ⟨sb, 8, none⟩ = some d.ffv := by rw [hI.cff, hG.ffcv]
    obtain ⟨aff, cff, eff⟩ := hff.form'
    rw [show (ints d.ff).length = gk by simp [ints, hfl]] at eff
    rw [eff] at hcff
    have Heff := (show Hid _ from eff)
    have Hfl := (show Hid _ from hfl)
    have HFD := (show Hid _ from hfd)
    have HG2 := (show Hid _ from hg2)
    clear hff hI hG eff hfl hfd hg2
    by_cases hgm : mark < gk
    · obtain ⟨k, rfl⟩ : ∃ k, gk = k + 1 := ⟨gk - 1, by omega⟩
      obtain ⟨u, v, huv⟩ : ∃ u v, S[k]? = some (u, v) := ⟨(S[k]'(by omega)).1, (S[k]'(by omega)).2, List.getElem?_eq_getElem (by omega)⟩
      have hSk : S.take (k + 1) = S.take k ++ [(u, v)] := by rw [List.take_add_one, huv]; rfl
      have hn2 := HSn.out (u, v) (List.mem_of_getElem? huv)
      simp only at hn2
      -- forcedFrom
      have hffe : d.ff = ffOf (S.take k) ++ [(u : Int)] := by rw [HG1.out.ff, hSk, ffOf_snoc]
      have hown1 := HI1.out.ffrow
      rw [Heff.out] at hown1
      obtain ⟨gf, rfl, hcf⟩ : ∃ gf, aff = some ⟨gf, 0, none⟩ ∧ k + 1 ≤ cff := by
        rcases hown1.form with ⟨h, h2⟩ | ⟨g, c, h, _, h3, _⟩
        · simp at h
        · simp at h
          rw [show (ints d.ff).length = k + 1 by simp [ints, Hfl.out]] at h3
          exact ⟨g, h.1, by omega⟩
      have hcu : wr.cell? ⟨gf, k, none⟩ = some (.int .i64 u) := by
        rw [hown1.cell (by simp [ints, Hfl.out]) (by simp [ints, Hfl.out])]
        rw [hffe]
        have hl : (ffOf (S.take k)).length = k := by simp [ffOf]; omega
        simp [ints, hl]
      have HO1 := (show Hid _ from hown1)
      have HFE := (show Hid _ from hffe)
      have HSK := (show Hid _ from hSk)
      have HUV := (show Hid _ from huv)
      clear hown1 hffe hSk huv
      have hfr := HI1.out.free 8
      go_wp2_with fail
      go_quiet (fail)
      go_wp2_with fail
      go_region
      have hpop : OwnV wr 3 (.slice (some ⟨gf, 0, none⟩) k cff) (ints (ffOf (S.take k))) := by
        have h := HO1.out
        have hl : (ints (ffOf (S.take k))).length = k := by simp [ints, ffOf]; omega
        have h2 : OwnV wr 3 (.slice (some ⟨gf, 0, none⟩) (k + 1) cff) (ints (ffOf (S.take k)) ++ [.int .i64 (u : Int)]) := by
          rw [HFE.out] at h
          simpa [OwnV, ints] using h
        have h3 := h2.pop (by rw [hl])
        rw [hl] at h3
        exact h3
      have I2 := ((HI1.out.popFF (v1 := .slice (some ⟨gf, 0, none⟩) k cff) (by rw [Heff.out]; rfl) hpop).drewN (nq + 1)).setFF (.slice (some ⟨gf, 0, none⟩) k cff)
      clear hpop
      have hfar : ∀ g t, d.own g = t → t < n + 9 → B ≤ g := fun g t h1 h2 => by
        rcases Nat.lt_or_ge g B with h | h
        · have := HB.out g h
          rw [HFD.out.2.1] at h1
          omega
        · exact h
      have hO2 : Only (fun b => B ≤ b) w ((wr.drewN (nq + 1)).setCell { block := sb, off := 8 } (Value.slice (some { block := gf, off := 0 }) k cff)) := (HFD.out.2.2.drewN _).setCell _ _ (fun _ => hfar sb _ HI1.out.tsb (by omega))
      have HO2 := (show Hid _ from hO2)
      have HFar := (show Hid _ from hfar)
      clear hO2 hfar
      generalize (wr.drewN (nq + 1)).setCell { block := sb, off := 8 } (Value.slice (some { block := gf, off := 0 }) k cff) = w2 at *
      have hfst : d.fs = true := by rw [HFD.out.1]; exact Hfs.out (by omega)
      have cf2 : w2.cell? ⟨sb, 7, none⟩ = some (.slice (some ⟨fb, 0, none⟩) n n) := by
        have := I2.cf
        rw [if_pos (show (_ : Bool) = true from hfst)] at this
        exact this
      have hRu : d.R u = rowOf (S.take k) u ++ [(v : Int)] := by rw [HG1.out.R u hn2.1, HSK.out, rowOf_snoc_same]
      have hru : OwnV w2 3 (d.fv u) (ints (rowOf (S.take k) u ++ [(v : Int)])) := by have := I2.rows u hn2.1; rw [← hRu]; exact this
      obtain ⟨m, hm1⟩ : ∃ m, m = (rowOf (S.take k) u).length := ⟨_, rfl⟩
      obtain ⟨gu, cu, efu, hmc⟩ : ∃ gu cu, d.fv u = .slice (some ⟨gu, 0, none⟩) (m + 1) cu ∧ m + 1 ≤ cu := by
        rcases hru.form with ⟨_, h2⟩ | ⟨g, c, h, _, h3, _⟩
        · simp [ints] at h2
        · rw [show (ints (rowOf (S.take k) u ++ [(v : Int)])).length = m + 1 by simp [ints, hm1]] at h h3
          exact ⟨g, c, h, h3⟩
      have hml : m ≤ 65536 := by
        have h1 : (rowOf (S.take k) u).length ≤ (S.take k).length := by simp only [rowOf, List.length_map]; exact List.length_filter_le _ _
        have h2 : (S.take k).length ≤ S.length := by simp; omega
        omega
      rw [efu] at hru
      have hcf2 : w2.cell? ⟨fb, u, none⟩ = some (.slice (some ⟨gu, 0, none⟩) (m + 1) cu) := by
        have := (I2.fcell hfst hn2.1).1
        rw [← efu, ← HG1.out.fcv u hn2.1]
        exact this
      have hff2 : w2.frozen? ⟨fb, u, none⟩ = false := (I2.fcell hfst hn2.1).2
      have hcv : w2.cell? ⟨gu, m, none⟩ = some (.int .i64 v) := by
        rw [hru.cell (by simp [ints, hm1]) (by simp [ints, hm1])]
        simp [ints, hm1]
      have HI2 := (show Hid _ from I2)
      have HRU := (show Hid _ from hru)
      have HEFU := (show Hid _ from efu)
      have HM := (show Hid _ from hm1)
      have HFT := (show Hid _ from hfst)
      clear I2 hru efu hm1 hRu hfst hcff hcu hfr
      have hun : (u : Int) < n := by omega
      go_wp2_with fail
      go_quiet (fail)
      go_wp2_with fail
      go_region
      have hpop : OwnV (w2.drewN (nq + 1)) 3 (.slice (some ⟨gu, 0, none⟩) m cu) (ints (rowOf (S.take k) u)) := by
        have hl : (ints (rowOf (S.take k) u)).length = m := by simp [ints, HM.out]
        have h2 : OwnV w2 3 (.slice (some ⟨gu, 0, none⟩) (m + 1) cu) (ints (rowOf (S.take k) u) ++ [.int .i64 (v : Int)]) := by
          have h := HRU.out
          simpa [OwnV, ints] using h
        have h3 := h2.pop (by rw [hl])
        rw [hl] at h3
        exact h3.frame fun _ _ => rfl
      have I3 := ((HI2.out.drewN (nq + 1)).popRow (u := u) hn2.1 (v1 := .slice (some ⟨gu, 0, none⟩) m cu) (by show _ = (d.fv u).ownBlock; rw [HEFU.out]; rfl) hpop).setForced HFT.out (u := u) hn2.1 (.slice (some ⟨gu, 0, none⟩) m cu)
      clear hpop
      have hO3 : Only (fun b => B ≤ b) w ((w2.drewN (nq + 1)).setCell { block := fb, off := u } (Value.slice (some { block := gu, off := 0 }) m cu)) := (HO2.out.drewN _).setCell _ _ (fun _ => HFar.out fb _ (HI1.out.tfb HFT.out) (by omega))
      have HO3 := (show Hid _ from hO3)
      clear hO3 HO2
      generalize (w2.drewN (nq + 1)).setCell { block := fb, off := u } (Value.slice (some { block := gu, off := 0 }) m cu) = w3 at *
      clear hcf2 hff2 hcv cf2
      have cw3 := I3.cw
      have hcr := I3.cr
      obtain ⟨W, hW⟩ : ∃ W, W = base v + (cnt (S.take k) v : Int) := ⟨_, rfl⟩
      have hcl : cnt (S.take k) v ≤ 65536 := by
        have h1 : cnt (S.take k) v ≤ (S.take k).length := List.length_filter_le _ _
        have h2 : (S.take k).length ≤ S.length := by simp; omega
        omega
      have hbv := Hbase.out v
      have hW0 : 0 ≤ W := by omega
      have hW1 : W ≤ 70000 := by omega
      have hwc : w3.cell? ⟨wb, v, none⟩ = some (.int .i64 (W + 1)) := by
        rw [(I3.wcell hn2.2).1]
        show some (Value.int .i64 (d.wt.getD v 0)) = _
        rw [HG1.out.wt, HSK.out, wtOf_get _ _ _ _ hn2.2, cnt_snoc, if_pos rfl, hW]
        congr 2
        omega
      have hwf : w3.frozen? ⟨wb, v, none⟩ = false := (I3.wcell hn2.2).2
      have I4 := I3.setWait v W
      have hG4 : Good n base (S.take k) { own := d.own, fs := d.fs, fc := upd d.fc u (.slice (some ⟨gu, 0, none⟩) m cu), fv := upd d.fv u (.slice (some ⟨gu, 0, none⟩) m cu), R := upd d.R u (rowOf (S.take k) u), ffc := .slice (some ⟨gf, 0, none⟩) k cff, ffv := .slice (some ⟨gf, 0, none⟩) k cff, ff := ffOf (S.take k), wt := d.wt.set v W } := by
        refine ⟨?_, rfl, ?_, rfl, ?_⟩
        · intro x hx
          show upd d.fc u _ x = upd d.fv u _ x
          by_cases h : x = u
          · subst h; rw [upd_same, upd_same]
          · rw [upd_other _ _ _ _ h, upd_other _ _ _ _ h]; exact HG1.out.fcv x hx
        · intro x hx
          show upd d.R u _ x = _
          by_cases h : x = u
          · subst h; rw [upd_same]
          · rw [upd_other _ _ _ _ h, HG1.out.R x hx, HSK.out, rowOf_snoc_other _ _ _ _ h]
        · show d.wt.set v W = _
          rw [HG1.out.wt, HSK.out, hW, wtOf_unsnoc _ _ _ _ _ hn2.2]
      have hcw4 := I4.cw
      have hcr4 := I4.cr
      have hwc4 : (w3.setCell ⟨wb, v, none⟩ (.int .i64 W)).cell? ⟨wb, v, none⟩ = some (.int .i64 W) := World.cell?_setCell_same _ _ _ hwc
      have HI4 := (show Hid _ from I4)
      have HO4 : Hid (Only (fun b => B ≤ b) w (w3.setCell ⟨wb, v, none⟩ (.int .i64 W))) := HO3.out.setCell _ _ (fun _ => HFar.out wb _ HI1.out.twb (by omega))
      have HG4 := (show Hid _ from hG4)
      have HW := (show Hid _ from hW)
      clear I3 I4 hG4 hW hcl hbv
      have hvn : (v : Int) < n := by omega
      have hWe : W + 1 - 1 = W := by omega
      by_cases hW2 : W = 0
      · have hWb : (W == 0) = true := by simp [hW2]
        have HW2 := (show Hid _ from hW2)
        clear hW2
        go_wp2_with fail
        refine (add_any sb 13 n rv ls v _ hn hn2.2 hcr4 HI4.out.nset).mono ?_
        rintro e w5 ⟨rfl, hN5, hO5⟩
        have HI5 := (show Hid _ from HI4.out.added hN5 hO5)
        have HO5 : Hid (Only (fun b => B ≤ b) w w5) := HO4.out.trans (hO5.mono fun b _ hb => by
          obtain ⟨p, hp, rfl⟩ := List.mem_map.1 hb
          exact HFar.out p.1 _ (HI1.out.tls p hp) (by omega))
        clear hN5 hO5
        go_wp2_with fail
        go_roundg k
        case measure => omega
        case rel => exact ⟨{ own := d.own, fs := d.fs, fc := upd d.fc u (.slice (some ⟨gu, 0, none⟩) m cu), fv := upd d.fv u (.slice (some ⟨gu, 0, none⟩) m cu), R := upd d.R u (rowOf (S.take k) u), ffc := .slice (some ⟨gf, 0, none⟩) k cff, ffv := .slice (some ⟨gf, 0, none⟩) k cff, ff := ffOf (S.take k), wt := d.wt.set v W }, by omega, by have := HG2.out; omega, ⟨HFD.out.1, HFD.out.2.1, HO5.out⟩, HI5.out, HG4.out⟩
      · have hWb : (W == 0) = false := by simp [hW2]
        clear hW2
        go_wp2_with fail
        go_roundg k
        case measure => omega
        case rel => exact ⟨{ own := d.own, fs := d.fs, fc := upd d.fc u (.slice (some ⟨gu, 0, none⟩) m cu), fv := upd d.fv u (.slice (some ⟨gu, 0, none⟩) m cu), R := upd d.R u (rowOf (S.take k) u), ffc := .slice (some ⟨gf, 0, none⟩) k cff, ffv := .slice (some ⟨gf, 0, none⟩) k cff, ff := ffOf (S.take k), wt := d.wt.set v W }, by omega, by have := HG2.out; omega, ⟨HFD.out.1, HFD.out.2.1, HO4.out⟩, HI4.out, HG4.out⟩
    · go_wp2
      go_end0
      refine ⟨rfl, d, HFD.out.1, HFD.out.2.1, HI1.out, ?_, HFD.out.2.2⟩
      have h2 := HG2.out
      have e : S.take mark.toNat = S.take gk := by
        by_cases h : S.length ≤ mark.toNat
        · rw [List.take_of_length_le h, List.take_of_length_le (by omega)]
        · rw [show mark.toNat = gk by omega]
      rw [e]; exact HG1.out
end Go.Proofs.Ybulkecis

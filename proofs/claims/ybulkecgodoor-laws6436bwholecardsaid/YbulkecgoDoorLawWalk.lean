/-
  The law's own walk.
-/
import Derived.Test.YbulkecgoDoorOpen
import Derived.Deep.CutRange
import Derived.Deep.CutBlock
import Derived.BigRegion
namespace Go.Proofs.YbulkecgoDoor
open Go.RowKit Go.Shelf _root_.Go.Proofs.YbulkecgoDoor.Own
set_option linter.unusedVariables false
set_option maxRecDepth 100000

/-- The six cells of the state that came in. -/
structure Par (w : World) (pb : Nat) (v0 v1 v2 v3 v4 v5 : Value) : Prop where
  c0 : w.cell? ⟨pb, 0, none⟩ = some v0
  c1 : w.cell? ⟨pb, 1, none⟩ = some v1
  c2 : w.cell? ⟨pb, 2, none⟩ = some v2
  c3 : w.cell? ⟨pb, 3, none⟩ = some v3
  c4 : w.cell? ⟨pb, 4, none⟩ = some v4
  c5 : w.cell? ⟨pb, 5, none⟩ = some v5
theorem Par.later {w w' : World} {pb : Nat} {v0 v1 v2 v3 v4 v5 : Value} (h : Par w pb v0 v1 v2 v3 v4 v5) (hb : Below w.heap.size w w') : Par w' pb v0 v1 v2 v3 v4 v5 :=
  ⟨cell_later hb h.c0, cell_later hb h.c1, cell_later hb h.c2, cell_later hb h.c3, cell_later hb h.c4, cell_later hb h.c5⟩

theorem Pln.exc {w wr : World} {B0 sb gi n : Nat} {R : Nat → Int} {ev : Value} {V : Nat → Nat} {k m : Nat} (h : Pln w wr B0 sb gi n R ev (exV' V k m)) :
    ∃ ae ce eg, ev = .slice ae (exs V k m).length ce ∧ (0 < (exs V k m).length → ae = some ⟨eg, 0, none⟩) ∧ Row wr eg 0 (exs V k m).length (fun j => exE V k m j) := by
  rcases h.own.form with ⟨hv, hx⟩ | ⟨g, c', hv, hb, _⟩
  · have h9 : (exV' V k m).length = 0 := by rw [hx]; rfl
    rw [exV'_len] at h9
    exact ⟨none, 0, 0, by rw [hv, h9], fun h => by omega, fun i hi => by omega⟩
  · rw [exV'_len] at hv
    refine ⟨some ⟨g, 0, none⟩, c', g, hv, fun _ => rfl, fun i hi => ?_⟩
    rw [Nat.zero_add]
    subst hv
    have := h.own.cell (by rw [exV'_len]) (j := i) (by rw [exV'_len]; exact hi)
    rw [this]
    unfold exV' exE
    simp [hi]
theorem Row.pos {w : World} {b n : Nat} {D : Nat → Int} (h : Row w b 0 n D) {i : Nat} (hi : i < n) : w.cell? ⟨b, i, none⟩ = some (.int .i64 (D i)) := by
  have := h i hi
  rwa [Nat.zero_add] at this

/-- The first i of a series, nought behind. -/
def upTo (F : Nat → Int) (i j : Nat) : Int := if j < i then F j else 0
theorem upTo_step {F : Nat → Int} {i j : Nat} : (if j = i then F i else upTo F i j) = upTo F (i + 1) j := by
  unfold upTo
  by_cases h : j = i
  · subst h; rw [if_pos rfl, if_pos (by omega)]
  · rw [if_neg h]
    by_cases h2 : j < i
    · rw [if_pos h2, if_pos (by omega)]
    · rw [if_neg h2, if_neg (by omega)]
theorem upTo_all {F : Nat → Int} {n j : Nat} (h : j < n) : upTo F n j = F j := by unfold upTo; rw [if_pos h]
theorem But.later {b : Nat} {w0 w w' : World} (h : But b w w') (h0 : Below w0.heap.size w0 w) (hb : w0.heap.size ≤ b) : Below w0.heap.size w0 w' := h0.trans (h.below hb)
theorem below_drewN (w : World) (m : Nat) : Below w.heap.size w (w.drewN m) := ⟨rfl, rfl, rfl, Nat.le_refl _, fun _ _ => rfl⟩
/-- The order, its bytes and the wanted series, as far as order o has been tried. -/
def Wnt (wx : World) (B : Nat → Int) (n o : Nat) (x32 x33 x34 : Value) : Prop :=
  ∃ g, x32 = .int .i64 (best B n o).1 ∧ x33 = .int .i64 (best B n o).2 ∧ x34 = .slice (some ⟨g, 0, none⟩) n n ∧ Row wx g 0 n (dd B (best B n o).1)

/-- The two ends of plan told as one: T is the first place where it stops, n where it does not. -/
theorem PlanAll.fork {w w' : World} {e : Ending} {B0 sb n : Nat} {V : Nat → Nat} {k : Nat} {lim : Int} {E0 : Nat → Int} {ia ea : Option Addr} {vv u0 u1 u2 u5 : Value} (h : PlanAll w w' e B0 sb n V k lim E0 ia ea vv u0 u1 u2 u5) :
    ∃ (ai ae : Option Addr) (ci ce gi eg T M : Nat) (R : Nat → Int) (z0 z1 z2 z5 : Value) (rb : Bool), (ai = none ↔ ia = none ∧ n = 0) ∧ Below B0 w w' ∧ T ≤ n ∧ M = min (T + 1) n ∧ (∀ j, j < T → ¬ StopAt V k lim j) ∧ (T < n → StopAt V k lim T) ∧ e = .returned (.bool rb) ∧
      (ae = none ↔ ea = none ∧ exs V k M = []) ∧ Aft w' sb gi eg n (exs V k M).length ai ae ci ce R (exE V k M) z0 z1 z2 z5 ∧
      ((T < n ∧ rb = false ∧ R = mixR V k E0 T ∧ z0 = u0 ∧ z1 = u1 ∧ z2 = u2 ∧ z5 = u5) ∨
       (T = n ∧ rb = decide (((best (bas V k) n (min 2 n)).2 + exL (exE V k n) (exs V k n).length : Nat) < lim) ∧ R = dd (bas V k) (best (bas V k) n (min 2 n)).1 ∧ z0 = vv ∧ z1 = .int .i64 k ∧ z2 = .int .i64 (best (bas V k) n (min 2 n)).1 ∧ z5 = .int .i64 ((best (bas V k) n (min 2 n)).2 + exL (exE V k n) (exs V k n).length : Nat))) := by
  obtain ⟨ai, ae, ci, ce, gi, eg, h1, h2, ⟨i, hi, hs, hns, rfl, hx, hA⟩ | ⟨hns, hx, rfl, hA⟩⟩ := h
  · exact ⟨ai, ae, ci, ce, gi, eg, i, i + 1, _, _, _, _, _, false, h1, h2, by omega, by omega, hns, fun _ => hs, rfl, hx, hA, .inl ⟨hi, rfl, rfl, rfl, rfl, rfl, rfl⟩⟩
  · exact ⟨ai, ae, ci, ce, gi, eg, n, n, _, _, _, _, _, _, h1, h2, by omega, by omega, hns, fun h => by omega, rfl, hx, hA, .inr ⟨rfl, rfl, rfl, rfl, rfl, rfl, rfl⟩⟩

set_option maxHeartbeats 16000000 in
theorem law_walk (w : World) (va ia0 ea0 pa0 : Option Addr) (n vc C ic X ec Y pc : Nat) (sc : Int) (lim S O Z : Int) (V : Nat → Nat) (D0 : Nat → Int) (csX csY : List Value)
    (SV : Hid (Src w va n (fl n V))) (SI : Hid (Src w ia0 C (il C D0))) (SX : Hid (Src w ea0 X csX)) (SY : Hid (Src w pa0 Y csY)) (hn : n ≤ 65536) (hC : C ≤ 65536) (hX : X ≤ 65536) (hY : Y ≤ 65536)
    (hiN : ia0 = none → C = 0) (heN : ea0 = none → X = 0) (hpN : pa0 = none → Y = 0) (hsc : 0 ≤ sc ∧ sc ≤ 255) (HT : Hid (Tab w)) (hnv : n ≤ vc) (hvN : va = none → vc = 0) (HV64 : Hid (∀ i, i < n → V i < 18446744073709551616)) :
    Calls Ybad.prog 4 #[.slice va n vc, .int .u8 sc, .int .i64 lim, .agg #[.slice ia0 C ic, .slice ea0 X ec, .slice pa0 Y pc, .int .i64 S, .int .i64 O, .int .i64 Z]] w
      fun e w' => e = .returned (.bool true) ∧ Below w.heap.size w w' := by
  have q1 : ¬ (65536 : Int) < n := by omega
  have q2 : ¬ (65536 : Int) < C := by omega
  have q3 : ¬ (65536 : Int) < X := by omega
  have q4 : ¬ (65536 : Int) < Y := by omega
  obtain ⟨hs1, hs2⟩ := hsc
  obtain ⟨k, hk⟩ : ∃ k : Nat, sc % 19 = (k : Int) := ⟨(sc % 19).toNat, by omega⟩
  have hk19 : k < 19 := by omega
  obtain ⟨bI, hbI⟩ : ∃ b, (!ia0.isNone) = b := ⟨_, rfl⟩
  obtain ⟨bX, hbX⟩ : ∃ b, (!ea0.isNone) = b := ⟨_, rfl⟩
  obtain ⟨bY, hbY⟩ : ∃ b, (!pa0.isNone) = b := ⟨_, rfl⟩
  have HN24 := neq24 ia0 C ic
  have HN29 := neq29 ea0 X ec
  have HN23 := neq23 pa0 Y pc
  rw [hbI] at HN24
  rw [hbX] at HN29
  rw [hbY] at HN23
  have HBI := (show Hid _ from hbI)
  have HBX := (show Hid _ from hbX)
  have HBY := (show Hid _ from hbY)
  clear hbI hbX hbY
  obtain ⟨i25, a25, b25, c25, d25⟩ := info_parts info25
  obtain ⟨i2, a2, b2, c2, d2⟩ := info_parts info2
  obtain ⟨i3, a3, b3, c3, d3⟩ := info_parts info3
  have J25 := (show Hid _ from And.intro a25 (And.intro b25 (And.intro c25 d25)))
  have J2 := (show Hid _ from And.intro a2 (And.intro b2 (And.intro c2 d2)))
  have J3 := (show Hid _ from And.intro a3 (And.intro b3 (And.intro c3 d3)))
  clear a25 b25 c25 d25 a2 b2 c2 d2 a3 b3 c3 d3
  have B0 := (show Hid _ from Below.refl w.heap.size w)
  go_enter Ybad.func4, Ybad.ntmps4
  go_upto_region 4 with fail
  -- the copy of the values
  go_upto_region 5 with (at_make; refine wpList_make_h _ rfl _ _ 23 rfl 25 i25 (.float .f64 0) Ybad.underlying23 J25.out.1 J25.out.2.1 J25.out.2.2.1 J25.out.2.2.2 rfl n rfl rfl hn ?_; intro w1 HR hB1 hs1)
  have hr1 : w1.heap[w.heap.size + 1]? = some (.cells (List.replicate n (.float .f64 0)).toArray 25 (0, 0)) := by have := HR.out; simpa using this
  have HR1 := (show Hid _ from hr1)
  clear hr1 HR
  have HB1 : Hid (Below w.heap.size w w1) := ((Below.refl _ w).alloc (Nat.le_refl _) _).trans (hB1.mono (by simp))
  have SV1 := (show Hid _ from SV.out.below HB1.out)
  go_upto_region 6 with (refine wpList_copy_splice rfl _ _ 23 23 rfl 25 Ybad.underlying23 siz25 _ _ _ _ _ _ rfl rfl (w.heap.size + 1) 0 _ 25 HR1.out (fl n V) (by rw [fl_len]; simp) (Src.pos SV1.out rfl) (by simp [fl_len]) SV1.out.one (w.heap.size + 1) w1 (Below.refl _ _) (Nat.le_refl _) ?_; intro w2 HR2 hB2)
  have hPar : Par w2 w.heap.size (.slice ia0 C ic) (.slice ea0 X ec) (.slice pa0 Y pc) (.int .i64 S) (.int .i64 O) (.int .i64 Z) := by
    have hc : ∀ q, w2.cell? ⟨w.heap.size, q, none⟩ = (w.alloc (.cells #[.slice ia0 C ic, .slice ea0 X ec, .slice pa0 Y pc, .int .i64 S, .int .i64 O, .int .i64 Z] 38)).cell? ⟨w.heap.size, q, none⟩ := fun q => (hB2.cell (p := ⟨w.heap.size, q, none⟩) (Nat.lt_succ_self _)).trans (hB1.cell (p := ⟨w.heap.size, q, none⟩) (by simp))
    constructor <;> (rw [hc]; simp)
  have HPar := (show Hid _ from hPar)
  have HB2 : Hid (Below w.heap.size w w2) := HB1.out.trans (hB2.mono (by omega))
  have hVC : w2.heap[w.heap.size + 1]? = some (.cells (fl n V).toArray 25 (0, 0)) := by
    have h := HR2.out
    have h2 := splice_all (fl n V) (.float .f64 0)
    rw [fl_len] at h2
    rw [h2] at h
    exact h
  have HVC := (show Hid _ from hVC)
  have hsz2 : w.heap.size + 2 ≤ w2.heap.size := by have := hB2.size; simp at hs1; omega
  have SV2 := (show Hid _ from SV.out.below HB2.out)
  have SI2 := (show Hid _ from SI.out.below HB2.out)
  have SX2 := (show Hid _ from SX.out.below HB2.out)
  have SY2 := (show Hid _ from SY.out.below HB2.out)
  have hT2 : Tab w2 := ⟨cell_later HB2.out HT.out.c1, fun j hj => cell_later HB2.out (HT.out.c2 j hj)⟩
  have HT2 := (show Hid _ from hT2)
  have HQ : Hid (2 < w.heap.size) := World.block_lt_of_cell? w _ (HT.out.c2 0 (by omega))
  have p0 := hPar.c0
  clear hVC hPar hB1 hs1 HB1 HR1 SV1 HR2 hB2 SI SY hT2 HT B0
  -- the copy of the ints
  go_upto_if 74 with fail
  go_cut [11] from 72 to 82 (fun x wx => Below w2.heap.size w2 wx ∧ Cop wx w2.heap.size 2 ia0 C (il C D0) x)
  case first =>
    cases bI
    rotate_left
    · have hN : ia0 ≠ none := by have := HBI.out; intro h; rw [h] at this; cases this
      go_upto_region 9 with (at_make; refine wpList_make_h _ rfl _ _ 24 rfl 2 i2 (.int .i64 0) Ybad.underlying24 J2.out.1 J2.out.2.1 J2.out.2.2.1 J2.out.2.2.2 rfl C rfl rfl hC ?_; intro w3 HR3 hB3 hs3)
      have p0' := cell_later hB3 p0
      have SI3 := (show Hid _ from SI2.out.below hB3)
      go_wp2_with (refine wpList_copy_splice rfl _ _ 24 24 rfl 2 Ybad.underlying24 siz2 _ _ _ _ _ _ rfl rfl w2.heap.size 0 _ 2 HR3.out (il C D0) (by rw [il_len]; simp) (Src.pos SI3.out rfl) (by simp [il_len]) SI3.out.one w2.heap.size w2 hB3 (Nat.le_refl _) ?_; intro w4 HR4 hB4)
      go_meet
      case rel =>
        have h2 := splice_all (il C D0) (.int .i64 0)
        rw [il_len] at h2
        have h3 := HR4.out
        rw [h2] at h3
        exact ⟨hB4, some ⟨w2.heap.size, 0, none⟩, w2.heap.size, rfl, .inr ⟨rfl, hN, Nat.le_refl _, lt_of_block h3, h3⟩⟩
    · go_wp2_with fail
      go_meet
      case rel =>
        have hN : ia0 = none := by have := HBI.out; simpa using this
        exact ⟨Below.refl _ _, none, 0, by rw [hiN hN], .inl ⟨rfl, hN, hiN hN⟩⟩
  case rest =>
    obtain ⟨hBc, hCI⟩ := hcut
    have HCI := (show Hid _ from hCI)
    have HBI3 := (show Hid _ from hBc)
    have p1 := cell_later hBc HPar.out.c1
    have SX3 := (show Hid _ from SX2.out.below hBc)
    have SY3 := (show Hid _ from SY2.out.below hBc)
    clear hBc hCI p0 SX2 SY2 HN24
    generalize hwcx : wc = w3 at *
    clear hwcx
    go_upto_if 85 with fail
    go_cut [12] from 83 to 93 (fun x wx => Below w3.heap.size w3 wx ∧ Cop wx w3.heap.size 3 ea0 X csX x)
    case first =>
      have hXl := SX3.out.len
      cases bX
      rotate_left
      · go_upto_region 13 with (at_make; refine wpList_make_h _ rfl _ _ 29 rfl 3 i3 (.int .i64 0) Ybad.underlying29 J3.out.1 J3.out.2.1 J3.out.2.2.1 J3.out.2.2.2 rfl X rfl rfl hX ?_; intro w4 HR3 hB3 hs3)
        have p0' := cell_later hB3 p1
        have SI3 := (show Hid _ from SX3.out.below hB3)
        go_wp2_with (refine wpList_copy_splice rfl _ _ 29 29 rfl 3 Ybad.underlying29 siz3 _ _ _ _ _ _ rfl rfl w3.heap.size 0 _ 3 HR3.out csX (by rw [hXl]; simp) (Src.pos SI3.out rfl) (by simp [hXl]) SI3.out.one w3.heap.size w3 hB3 (Nat.le_refl _) ?_; intro w5 HR4 hB4)
        go_meet
        case rel =>
          have hN : ea0 ≠ none := by have := HBX.out; intro h; rw [h] at this; cases this
          have h2 := splice_all csX (.int .i64 0)
          rw [hXl] at h2
          have h3 := HR4.out
          rw [h2] at h3
          exact ⟨hB4, some ⟨w3.heap.size, 0, none⟩, w3.heap.size, rfl, .inr ⟨rfl, hN, Nat.le_refl _, lt_of_block h3, h3⟩⟩
      · go_wp2_with fail
        go_meet
        case rel =>
          have hN : ea0 = none := by have := HBX.out; simpa using this
          exact ⟨Below.refl _ _, none, 0, by rw [heN hN], .inl ⟨rfl, hN, heN hN⟩⟩
    case rest =>
      obtain ⟨hBc, hCX⟩ := hcut
      have HCX := (show Hid _ from hCX)
      have HBX3 := (show Hid _ from hBc)
      have p2 := cell_later (HBI3.out.trans (hBc.mono HBI3.out.size)) HPar.out.c2
      have SY4 := (show Hid _ from SY3.out.below hBc)
      clear hBc hCX p1 SX3 SY3 HN29
      generalize hwcx : wc = w4 at *
      clear hwcx
      go_upto_if 96 with fail
      go_cut [13] from 94 to 104 (fun x wx => Below w4.heap.size w4 wx ∧ Cop wx w4.heap.size 25 pa0 Y csY x)
      case first =>
        have hXl := SY4.out.len
        cases bY
        rotate_left
        · go_upto_region 17 with (at_make; refine wpList_make_h _ rfl _ _ 23 rfl 25 i25 (.float .f64 0) Ybad.underlying23 J25.out.1 J25.out.2.1 J25.out.2.2.1 J25.out.2.2.2 rfl Y rfl rfl hY ?_; intro w5 HR3 hB3 hs3)
          have p0' := cell_later hB3 p2
          have SI3 := (show Hid _ from SY4.out.below hB3)
          go_wp2_with (refine wpList_copy_splice rfl _ _ 23 23 rfl 25 Ybad.underlying23 siz25 _ _ _ _ _ _ rfl rfl w4.heap.size 0 _ 25 HR3.out csY (by rw [hXl]; simp) (Src.pos SI3.out rfl) (by simp [hXl]) SI3.out.one w4.heap.size w4 hB3 (Nat.le_refl _) ?_; intro w6 HR4 hB4)
          go_meet
          case rel =>
            have hN : pa0 ≠ none := by have := HBY.out; intro h; rw [h] at this; cases this
            have h2 := splice_all csY (.float .f64 0)
            rw [hXl] at h2
            have h3 := HR4.out
            rw [h2] at h3
            exact ⟨hB4, some ⟨w4.heap.size, 0, none⟩, w4.heap.size, rfl, .inr ⟨rfl, hN, Nat.le_refl _, lt_of_block h3, h3⟩⟩
        · go_wp2_with fail
          go_meet
          case rel =>
            have hN : pa0 = none := by have := HBY.out; simpa using this
            exact ⟨Below.refl _ _, none, 0, by rw [hpN hN], .inl ⟨rfl, hN, hpN hN⟩⟩
      case rest =>
        obtain ⟨hBc, hCY⟩ := hcut
        have HCY := (show Hid _ from hCY)
        have HBY3 := (show Hid _ from hBc)
        have HB25 := (show Hid _ from HBI3.out.trans ((HBX3.out.trans (hBc.mono HBX3.out.size)).mono HBI3.out.size))
        have HPar5 := (show Hid _ from HPar.out.later HB25.out)
        clear hBc hCY p2 SY4 HN23
        generalize hwcx : wc = w5 at *
        clear hwcx
        obtain ⟨aI, gI, rfl, hFI⟩ := HCI.out
        obtain ⟨aX, gX, rfl, hFX⟩ := HCX.out
        obtain ⟨aY, gY, rfl, hFY⟩ := HCY.out
        have HFI := (show Hid _ from hFI)
        have HFX := (show Hid _ from hFX)
        have HFY := (show Hid _ from hFY)
        clear hFI hFX hFY HCI HCX HCY
        have p3 := HPar5.out.c3
        have p4 := HPar5.out.c4
        have p5 := HPar5.out.c5
        go_upto_region 19 with fail
        -- plan
        have hK : Calls Ybad.prog 10 #[.pointer (some ⟨w5.heap.size, 0, none⟩), .slice va n vc, .int .i64 k, .int .i64 lim] (w5.alloc (.cells #[.slice aY Y Y, .int .i64 S, .int .i64 O, .slice aI C C, .slice aX X X, .int .i64 Z] 40))
            fun e w' => PlanAll (w5.alloc (.cells #[.slice aY Y Y, .int .i64 S, .int .i64 O, .slice aI C C, .slice aX X X, .int .i64 Z] 40)) w' e w2.heap.size w5.heap.size n V k lim (old0 C D0) aI aX (.slice va n vc) (.slice aY Y Y) (.int .i64 S) (.int .i64 O) (.int .i64 Z) := by
          have hal : Below w5.heap.size w5 (w5.alloc (.cells #[.slice aY Y Y, .int .i64 S, .int .i64 O, .slice aI C C, .slice aX X X, .int .i64 Z] 40)) := (Below.refl _ w5).alloc (Nat.le_refl _) _
          have h25 := HB25.out
          have h26 := h25.trans (hal.mono h25.size)
          have hq := HQ.out
          have hnew := heap_alloc_new w5 (.cells #[.slice aY Y Y, .int .i64 S, .int .i64 O, .slice aI C C, .slice aX X X, .int .i64 Z] 40)
          refine plan_any _ w2.heap.size w5.heap.size n vc C X k va aI aX D0 V csX lim _ _ _ _ gI gX hn hnv hvN hC hX SX.out.len hk19 (by omega) (by have := hal.size; have := h25.size; omega) (by simp) h25.size ?_ ⟨cell_later h26 HT2.out.c1, fun j hj => cell_later h26 (HT2.out.c2 j hj)⟩ ?_ (fun q => frozen_of_row _ _ q _ _ hnew) ?_ ?_
          · intro h0
            obtain ⟨vb, vo, ha, hc⟩ := SV2.out.at' h0
            have hfl : ∀ i, i < n → (fl n V)[i]? = some (.float .f64 (V i)) := fun i hi => by simp [fl, hi]
            exact ⟨vb, vo, ha, World.block_lt_of_cell? w2 _ (hc 0 _ (hfl 0 h0)), fun i hi => cell_later h26 (hc i _ (hfl i hi))⟩
          · intro q hq
            rw [cell_of_row _ _ q _ _ _ hnew]
            have : q = 0 ∨ q = 1 ∨ q = 2 ∨ q = 3 ∨ q = 4 ∨ q = 5 := by omega
            rcases this with rfl | rfl | rfl | rfl | rfl | rfl <;> rfl
          · have h3 := HBX3.out
            have h4 := HBY3.out
            rcases HFI.out with ⟨h, _, h'⟩ | ⟨h, _, h', hl, hh⟩
            · exact .inl ⟨h, h'⟩
            · have := h3.size
              have := h4.size
              refine .inr ⟨h, h', by omega, ?_⟩
              rw [hal.block gI (by omega), h4.block gI (by omega), h3.block gI (by omega)]
              exact hh
          · have h2 := HBI3.out.size
            have h4 := HBY3.out
            rcases HFX.out with ⟨h, _, h'⟩ | ⟨h, _, h', hl, hh⟩
            · exact .inl ⟨h, h'⟩
            · have := h4.size
              refine .inr ⟨h, by omega, by omega, ?_, ?_⟩
              · intro e
                rcases HFI.out with ⟨h9, _⟩ | ⟨h9, _, _, hl9, _⟩
                · rw [h9] at e; cases e
                · omega
              · rw [hal.block gX (by omega), h4.block gX (by omega)]
                exact hh
        have HK := (show Hid _ from hK)
        clear hK
        go_wp2_with fail
        refine Calls.mono HK.out ?_
        rintro e w7 hpl
        obtain ⟨ai, ae, ci, ce, gi, eg, T, M, R, z0, z1, z2, z5, rb, hai, hb7, hTn, hM, hns, hstp, rfl, hae, hA, hend⟩ := hpl.fork
        have hb27 : Below w2.heap.size w2 w7 := (HB25.out.trans (((Below.refl _ w5).alloc (Nat.le_refl _) _).mono HB25.out.size)).trans hb7
        have HB7 : Hid (Below w.heap.size w w7) := HB2.out.trans (hb27.mono HB2.out.size)
        have HP7 := (show Hid _ from HPar.out.later hb27)
        have SV7 := (show Hid _ from SV2.out.below hb27)
        have SI7 := (show Hid _ from SI2.out.below hb27)
        have hVC7 : ∀ i, i < n → w7.cell? ⟨w.heap.size + 1, i, none⟩ = some (.float .f64 (V i)) := by
          intro i hi
          refine cell_later hb27 ?_
          rw [cell_of_row _ _ i _ _ _ HVC.out]
          simp [fl, hi]
        have hFC7 : ∀ q, w7.frozen? ⟨w.heap.size + 1, q, none⟩ = false := fun q => (hb27.frozen (p := ⟨w.heap.size + 1, q, none⟩) (by show w.heap.size + 1 < _; omega)).trans (frozen_of_row _ _ q _ _ HVC.out)
        have HVC7 := (show Hid _ from hVC7)
        have HFC7 := (show Hid _ from hFC7)
        have HAI := (show Hid _ from hai)
        have HM := (show Hid _ from hM)
        have HNS := (show Hid _ from hns)
        have HSTP := (show Hid _ from hstp)
        have HAE := (show Hid _ from hae)
        have HA := (show Hid _ from hA)
        have HEND := (show Hid _ from hend)
        have HS7 : Hid (w.heap.size + 2 ≤ w7.heap.size) := Nat.le_trans hsz2 hb27.size
        clear hpl hai hM hns hstp hae hA hend hb27 hb7 hVC7 hFC7 hsz2 p3 p4 p5 HK HPar5 HB25 SI2 HBY3 HBX3 HBI3 HT2 HQ SV2 HVC HPar HB2
        have HBT := @bits64
        go_wp2_with fail
        go_loopw [8, 16] (fun x8 x16 wr => x8 = .bool false ∧ (∃ i : Nat, i ≤ n ∧ x16 = .int .i64 i) ∧ Below w7.heap.size w7 wr) (fun _ i _ => n - (intOf i).toNat)
        case atStart => exact ⟨rfl, ⟨0, by omega, rfl⟩, Below.refl _ _⟩
        case round =>
          obtain ⟨rfl, ⟨i, hi, rfl⟩, hbr⟩ := hrel
          have HBR := (show Hid _ from hbr)
          by_cases hin : i < n
          · obtain ⟨vb, vo, rfl, hc⟩ := SV7.out.at' (by omega)
            have hin' : (i : Int) < n := by omega
            have h1 : wr.cell? ⟨vb, vo + i, none⟩ = some (.float .f64 (V i)) := cell_later hbr (hc i _ (by simp [fl, hin]))
            have h2 := cell_later hbr (HVC7.out i hin)
            clear hc hbr
            go_wp2_with fail
            go_big_region
            go_wp2_with fail
            go_roundw
            case rel => exact ⟨rfl, ⟨i + 1, by omega, by go_num⟩, HBR.out.drew⟩
            case measure => simp [intOf]; omega
          · obtain rfl : n = i := by omega
            have hin' : ¬ (n : Int) < n := by omega
            clear hbr
            generalize hwcx : wr = w8 at *
            clear hwcx
            go_upto_block 2 with (at_make; refine wpList_make_h _ rfl _ _ 24 rfl 2 i2 (.int .i64 0) Ybad.underlying24 J2.out.1 J2.out.2.1 J2.out.2.2.1 J2.out.2.2.2 rfl n rfl rfl hn ?_; intro w9 HR9 hB9 hs9)
            have h0 : Pln w8 w9 w8.heap.size (w.heap.size + 1) w8.heap.size n (mixR V k (fun _ => 0) 0) (.slice none 0 0) (exV' V k 0) := by
              have h7 := HBR.out.size
              have h77 := HS7.out
              refine ⟨hB9, fun i hi => ?_, fun q => frozen_of_row _ _ q _ _ HR9.out, OwnV.nil _ _, fun g hg => (by cases hg), fun q => hB9.cell (p := ⟨w.heap.size + 1, q, none⟩) (by show w.heap.size + 1 < _; omega), fun q => ?_, lt_of_block HR9.out, by omega, Nat.le_refl _, by omega⟩
              · rw [Nat.zero_add, cell_of_row _ _ i _ _ _ HR9.out, mixR_zero]
                simp [hi]
              · exact (hB9.frozen (p := ⟨w.heap.size + 1, q, none⟩) (by show w.heap.size + 1 < _; omega)).trans ((HBR.out.frozen (p := ⟨w.heap.size + 1, q, none⟩) (by show w.heap.size + 1 < _; omega)).trans (HFC7.out q))
            have HP0 := (show Hid _ from h0)
            clear h0 HR9 hB9 hs9
            go_cut [19, 20, 21, 22, 23, 24] from 145 to 177 (fun x19 x20 x21 x22 x23 x24 wx => ∃ st : Int, x21 = .int .i64 st ∧ (T < n → st = T) ∧ (T = n → st = -1) ∧ Pln w8 wx w8.heap.size (w.heap.size + 1) w8.heap.size n (mixR V k (fun _ => 0) T) x19 (exV' V k M))
            case first =>
              go_wp2_with fail
              go_loopw [19, 20, 21, 22, 23, 24] (fun x19 x20 x21 x22 x23 x24 wr => ∃ (j : Nat) (ev : Value), j ≤ T ∧ x19 = ev ∧ x20 = .int .i64 (pv V k j) ∧ x21 = .int .i64 (-1) ∧ x22 = .int .i64 j ∧ Pln w8 wr w8.heap.size (w.heap.size + 1) w8.heap.size n (mixR V k (fun _ => 0) j) ev (exV' V k j)) (fun _ _ _ i _ _ _ => n - (intOf i).toNat)
              case atStart => exact ⟨0, _, by omega, rfl, rfl, rfl, rfl, HP0.out⟩
              case round =>
                obtain ⟨i, ev, hi, rfl, rfl, rfl, rfl, hPi⟩ := hrel
                obtain ⟨ao, ex, hev⟩ := hPi.own.form'
                rw [exV'_len] at hev
                subst hev
                have hlen := exs_len V k i
                have HPI := (show Hid _ from hPi)
                clear hPi HP0
                by_cases hin : i < n
                · have h7 := HBR.out
                  have hcv : wr.cell? ⟨w.heap.size + 1, i, none⟩ = some (.float .f64 (V i)) := (HPI.out.cs i).trans (cell_later h7 (HVC7.out i hin))
                  have hin' : (i : Int) < n := by omega
                  have KS := (show Hid _ from bscaled_walk (V i) k (HV64.out i hin) hk19 wr)
                  clear h7
                  go_wp2_with fail
                  refine Calls.mono KS.out ?_
                  rintro e w10 ⟨⟨m, rfl, hm⟩, jj, hw2⟩
                  have HM' := (show Hid _ from hm)
                  have HP2 := (show Hid _ from HPI.out.drewN jj)
                  rw [← hw2] at HP2
                  clear hm hw2 hcv KS
                  cases hok : scOK (V i) k
                  · have HPV := (show Hid _ from pv_no hok)
                    have HEX := (show Hid _ from exV'_no hok)
                    have HXS := (show Hid _ from exs_no hok)
                    have HOK := (show Hid _ from hok)
                    clear hok
                    have hlen2 : (exV' V k i).length = (exs V k i).length := exV'_len V k i
                    have HOW : Hid (OwnV (w10.alloc (Obj.cells #[Value.int IntKind.i64 (i : Int)] 3)) 3 (.slice ao (exs V k i).length ex) (exV' V k i)) := HP2.out.own.frame fun g hg => Below.heap_alloc _ _ _ (HP2.out.own.lt hg)
                    go_upto_if 171 with (at_builtin; refine wpList_append_n _ rfl (.tmp 161) (.tmp 163) 29 rfl 3 i3 (.int .i64 0) 8 Ybad.underlying29 J3.out.1 J3.out.2.1 J3.out.2.2.1 J3.out.2.2.2 rfl (.slice ao (exs V k i).length ex) (exV' V k i) rfl HOW.out ⟨w10.heap.size, 0, none⟩ 1 1 [.int .i64 (i : Int)] rfl rfl (by decide) (one_new _ _ _ _ rfl) (by intro q hq; simp at hq; subst hq; rfl) (by rw [hlen2]; unfold maxLen; omega) (by rw [hlen2]; omega) ?_; intro g1 cap1 w11 hown hgrow hpl hcapx; have hP3 := HP2.out.app ((Below.refl _ w10).alloc (Nat.le_refl _) _) hown hgrow hpl; have HP3 := (show Hid _ from hP3); clear hown hgrow hpl hcapx hP3; rw [hlen2] at HP3 ⊢)
                    have hci3 := HP3.out.row i hin
                    rw [Nat.zero_add] at hci3
                    have hfi3 := HP3.out.fzr i
                    have HLX : Hid ((exs V k (i + 1)).length = (exs V k i).length + 1) := by show _ = _; rw [HXS.out]; simp
                    by_cases hs : lim ≤ 2 + 9 * (((exs V k i).length : Int) + 1)
                    · have hsto : StopAt V k lim i := ⟨HOK.out, by rw [HLX.out]; omega⟩
                      have hTi : T = i := by
                        by_cases h : i < T
                        · exact absurd hsto (HNS.out i h)
                        · omega
                      have HTI := (show Hid _ from hTi)
                      clear hsto hci3 hfi3 hTi
                      go_wp2_with fail
                      go_meet
                      case rel =>
                        have h1 := HTI.out
                        have h2 := HM.out
                        have h3 : M = i + 1 := by omega
                        refine ⟨i, rfl, fun _ => by omega, fun h => by omega, ?_⟩
                        rw [h3, h1, HEX.out]
                        exact HP3.out
                    · have hnst : ¬ StopAt V k lim i := fun h => hs (by have := h.2; rw [HLX.out] at this; omega)
                      have HTI : Hid (i < T) := by
                        show i < T
                        by_cases h : i = T
                        · exact absurd (h ▸ HSTP.out (by omega)) hnst
                        · omega
                      clear hnst
                      go_wp2_with fail
                      refine ⟨⟨i + 1, _, HTI.out, rfl, by rw [HPV.out], rfl, by go_num, ?_⟩, by simp [intOf]; omega⟩
                      rw [HEX.out]
                      refine Pln.ext (HP3.out.put i (pv V k i) hin) fun j _ => ?_
                      rw [← mixR_step, show bas V k i = pv V k i from HPV.out]
                  · have HPV := (show Hid _ from pv_ok hok)
                    have HEX := (show Hid _ from exV'_ok hok)
                    obtain rfl := HM'.out hok
                    have HTI : Hid (i < T) := by
                      show i < T
                      by_cases h : i = T
                      · have := (h ▸ HSTP.out (by omega) : StopAt V k lim i).1
                        rw [this] at hok; cases hok
                      · omega
                    have hci := HP2.out.row i hin
                    rw [Nat.zero_add] at hci
                    have hfi := HP2.out.fzr i
                    clear hok
                    go_wp2_with fail
                    refine ⟨⟨i + 1, _, HTI.out, rfl, by rw [HPV.out], rfl, by go_num, ?_⟩, by simp [intOf]; omega⟩
                    rw [HEX.out]
                    refine Pln.ext (HP2.out.put i (scV (V i) k) hin) fun j _ => ?_
                    rw [← mixR_step, show bas V k i = scV (V i) k from HPV.out]
                · obtain rfl : n = i := by omega
                  have hin' : ¬ (n : Int) < n := by omega
                  go_wp2_with fail
                  go_meet
                  case rel =>
                    have h1 : T = n := by omega
                    have h2 := HM.out
                    have h3 : M = n := by omega
                    refine ⟨-1, rfl, fun h => by omega, fun _ => rfl, ?_⟩
                    rw [h3, h1]
                    exact HPI.out
            case rest =>
              obtain ⟨st, rfl, hst1, hst2, hPc⟩ := hcut
              obtain ⟨ax, cx, xg, rfl, hax, hRX⟩ := hPc.exc
              generalize hwcx : wc = w12 at *
              clear hwcx
              have hb712 : Below w7.heap.size w7 w12 := HBR.out.trans (hPc.bel.mono HBR.out.size)
              have HA12 := (show Hid _ from HA.out.later hb712)
              have HPA := (show Hid _ from HP7.out.later hb712)
              have SI12 := (show Hid _ from SI7.out.below hb712)
              have HRB : Hid (Row w12 w8.heap.size 0 n (mixR V k (fun _ => 0) T)) := hPc.row
              have HRX := (show Hid _ from hRX)
              have HAX := (show Hid _ from hax)
              have HST := (show Hid _ from And.intro hst1 hst2)
              have HB12 := (show Hid _ from HB7.out.trans (hb712.mono HB7.out.size))
              have hMn : M ≤ n := by have := HM.out; omega
              have HUP := (show Hid _ from exs_Up V k M (by omega))
              have hLn : (exs V k M).length ≤ 65536 := by have := exs_len V k M; omega
              -- nil where it should be
              have hbA : ae.isNone = (ea0.isNone && ((exs V k M).length == 0)) := by
                have h1 := HAE.out
                have h2 : (exs V k M).length = 0 ↔ exs V k M = [] := List.length_eq_zero_iff
                rcases HFX.out with ⟨h3, h4, _⟩ | ⟨h3, h4, _⟩
                · rw [h4]
                  by_cases h5 : exs V k M = []
                  · rw [h1.2 ⟨h3, h5⟩, h5]; rfl
                  · have h6 : ae ≠ none := fun h => h5 (h1.1 h).2
                    have h7 : ((exs V k M).length == 0) = false := by simpa using h5
                    rw [h7]
                    cases ae
                    · exact absurd rfl h6
                    · rfl
                · have h6 : ae ≠ none := fun h => by have := (h1.1 h).1; rw [h3] at this; cases this
                  cases ae
                  · exact absurd rfl h6
                  · cases ea0
                    · exact absurd rfl h4
                    · rfl
              have hbB : ai.isNone = (ia0.isNone && (n == 0)) := by
                have h1 := HAI.out
                rcases HFI.out with ⟨h3, h4, _⟩ | ⟨h3, h4, _⟩
                · rw [h4]
                  by_cases h5 : n = 0
                  · rw [h1.2 ⟨h3, h5⟩, h5]; rfl
                  · have h6 : ai ≠ none := fun h => h5 (h1.1 h).2
                    have h7 : (n == 0) = false := by simpa using h5
                    rw [h7]
                    cases ai
                    · exact absurd rfl h6
                    · rfl
                · have h6 : ai ≠ none := fun h => by have := (h1.1 h).1; rw [h3] at this; cases this
                  cases ai
                  · exact absurd rfl h6
                  · cases ia0
                    · exact absurd rfl h4
                    · rfl
              have HLE : Hid (∃ L E, L = (exs V k M).length ∧ E = exE V k M) := ⟨_, _, rfl, rfl⟩
              obtain ⟨L, E, hL, hE⟩ := HLE.out
              rw [← hL] at HA12 HAX HRX HUP hLn hbA ⊢
              rw [← hE] at HA12 HRX HUP
              have HLQ := (show Hid _ from And.intro hL hE)
              have HRXr : Hid (Row w12 xg 0 L (fun j => (E j : Int))) := HRX.out
              clear HRX
              have HE1 := eq29 ae L ce
              have HE2 := eq29 ea0 X ec
              have HE3 := eq24 ai n ci
              have HE4 := eq24 ia0 C ic
              obtain ⟨bA, ha⟩ : ∃ b, ae.isNone = b := ⟨_, rfl⟩
              obtain ⟨bB, hb⟩ : ∃ b, ai.isNone = b := ⟨_, rfl⟩
              obtain ⟨bE, he⟩ : ∃ b, ea0.isNone = b := ⟨_, rfl⟩
              obtain ⟨bF, hf⟩ : ∃ b, ia0.isNone = b := ⟨_, rfl⟩
              rw [ha] at HE1 hbA
              rw [he] at HE2 hbA
              rw [hb] at HE3 hbB
              rw [hf] at HE4 hbB
              have HBA := (show Hid _ from hbA)
              have HBB := (show Hid _ from hbB)
              have c4 := HA12.out.c4
              have c3 := HA12.out.c3
              have p0 := HPA.out.c0
              have p1 := HPA.out.c1
              clear hbA hbB ha hb he hf hL hE HLE hst1 hst2 hPc hax hRX hb712 HAE HAI HFX HFI HA HP7 SI7 HVC7 HFC7 HS7 HBR HP0 SX HBI HBX HBY SV7
              go_upto_region 43 with fail
              go_cut [197] from 178 to 197 (fun x wx => x = .bool false ∧ wx = w12)
              case first =>
                cases bE
                · obtain rfl : bA = false := HBA.out
                  go_wp2_with fail
                  go_meet
                  case rel => exact ⟨rfl, rfl⟩
                · by_cases hL0 : L = 0
                  · subst hL0
                    obtain rfl : bA = true := HBA.out
                    go_wp2_with fail
                    go_meet
                    case rel => exact ⟨rfl, rfl⟩
                  · have h5 : ((L : Int) == 0) = false := beq_false_of_ne (by omega)
                    have h6 : bA = false := by rw [HBA.out]; simpa using hL0
                    subst h6
                    go_wp2_with fail
                    go_meet
                    case rel => exact ⟨rfl, rfl⟩
              case rest =>
                obtain ⟨rfl, hwc⟩ := hcut
                obtain rfl : w12 = wc := hwc.symm
                clear hwc
                go_wp2_with fail
                clear c3 c4 p0 p1
                go_loopw [8, 25] (fun x8 x25 wr => x8 = .bool false ∧ (∃ i : Nat, i ≤ L ∧ x25 = .int .i64 i) ∧ Below w12.heap.size w12 wr) (fun _ i _ => L - (intOf i).toNat)
                case atStart => exact ⟨rfl, ⟨0, by omega, rfl⟩, Below.refl _ _⟩
                case round =>
                  obtain ⟨rfl, ⟨i, hi, rfl⟩, hbr⟩ := hrel
                  have HBR := (show Hid _ from hbr)
                  by_cases hin : i < L
                  · obtain rfl := HAX.out (by omega)
                    obtain rfl := HA12.out.exc (by omega)
                    have hin' : (i : Int) < L := by omega
                    have h1 := cell_later hbr (HRXr.out.pos hin)
                    have h2 := cell_later hbr (HA12.out.rox.pos hin)
                    have h3 := cell_later hbr HA12.out.c4
                    clear hbr HE1 HE2 HE3 HE4
                    go_wp2_with fail
                    go_big_region
                    go_wp2_with fail
                    go_roundw
                    case rel => exact ⟨rfl, ⟨i + 1, by omega, by go_num⟩, HBR.out.drew⟩
                    case measure => simp [intOf]; omega
                  · obtain rfl : L = i := by omega
                    have hin' : ¬ (L : Int) < L := by omega
                    have HA13 := (show Hid _ from HA12.out.later hbr)
                    have HPA3 := (show Hid _ from HPA.out.later hbr)
                    have SI13 := (show Hid _ from SI12.out.below hbr)
                    have HRB3 : Hid (Row wr w8.heap.size 0 n (mixR V k (fun _ => 0) T)) := HRB.out.later hbr
                    have HRX3 : Hid (Row wr xg 0 L (fun j => (E j : Int))) := HRXr.out.later hbr
                    have HB13 := (show Hid _ from HB12.out.trans (hbr.mono HB12.out.size))
                    have c3 := HA13.out.c3
                    have p0 := HPA3.out.c0
                    clear hbr HBR HA12 HPA SI12 HRB HRXr HB12 HE1 HE2 HBA
                    generalize hwcx : wr = w13 at *
                    clear hwcx
                    go_upto_region 50 with fail
                    go_cut [231] from 214 to 231 (fun x wx => x = .bool false ∧ wx = w13)
                    case first =>
                      cases bF
                      · obtain rfl : bB = false := HBB.out
                        go_wp2_with fail
                        go_meet
                        case rel => exact ⟨rfl, rfl⟩
                      · by_cases hL0 : n = 0
                        · have h5 : ((n : Int) == 0) = true := by simp [hL0]
                          have h6 : bB = true := by rw [HBB.out]; simp [hL0]
                          subst h6
                          clear hL0
                          go_wp2_with fail
                          go_meet
                          case rel => exact ⟨rfl, rfl⟩
                        · have h5 : ((n : Int) == 0) = false := beq_false_of_ne (by omega)
                          have h6 : bB = false := by rw [HBB.out]; simpa using hL0
                          subst h6
                          go_wp2_with fail
                          go_meet
                          case rel => exact ⟨rfl, rfl⟩
                    case rest =>
                      obtain ⟨rfl, hwc⟩ := hcut
                      obtain rfl : w13 = wc := hwc.symm
                      clear hwc HE3 HE4 HBB
                      rcases HEND.out with ⟨hTl, rfl, rfl, rfl, rfl, rfl, rfl⟩ | ⟨hTe, hrb, rfl, rfl, rfl, rfl, rfl⟩
                      · obtain rfl : st = (T : Int) := HST.out.1 hTl
                        have hT0 : (0 : Int) ≤ T := by omega
                        clear c3 p0
                        go_wp2_with fail
                        go_loopw [8, 26, 27] (fun x8 x26 x27 wr => x8 = .bool false ∧ (∃ i : Nat, i ≤ n ∧ x26 = .int .i64 i) ∧ wr = w13) (fun _ i _ _ => n - (intOf i).toNat)
                        case atStart => exact ⟨rfl, ⟨0, by omega, rfl⟩, rfl⟩
                        case round =>
                          obtain ⟨rfl, ⟨i, hi, rfl⟩, hwr⟩ := hrel
                          obtain rfl : w13 = wr := hwr.symm
                          clear hwr
                          by_cases hin : i < n
                          · obtain rfl := HA13.out.ints (by omega)
                            have hin' : (i : Int) < n := by omega
                            have h1 := HRB3.out.pos hin
                            have h2 := HA13.out.row.pos hin
                            have h3 := HA13.out.c3
                            have h4 := HPA3.out.c0
                            by_cases hiT : i < T
                            · have hiT' : (i : Int) < T := by omega
                              rw [show mixR V k (fun _ => 0) T i = bas V k i by unfold mixR; rw [if_pos hiT]] at h1
                              rw [show mixR V k (old0 C D0) T i = bas V k i by unfold mixR; rw [if_pos hiT]] at h2
                              go_wp2_with fail
                              go_roundw
                              case rel => exact ⟨rfl, ⟨i + 1, by omega, by go_num⟩, by trivial⟩
                              case measure => simp [intOf]; omega
                            · have hiT' : ¬ (i : Int) < T := by omega
                              rw [show mixR V k (old0 C D0) T i = old0 C D0 i by unfold mixR; rw [if_neg hiT]] at h2
                              by_cases hiC : i < C
                              · have hiC' : (i : Int) < C := by omega
                                obtain ⟨ib, io, rfl, hc⟩ := SI13.out.at' (by omega)
                                have h5 := hc i (.int .i64 (D0 i)) (by simp [il, hiC])
                                rw [show old0 C D0 i = D0 i by unfold old0; rw [if_pos hiC]] at h2
                                clear hc
                                go_wp2_with fail
                                go_roundw
                                case rel => exact ⟨rfl, ⟨i + 1, by omega, by go_num⟩, by trivial⟩
                                case measure => simp [intOf]; omega
                              · have hiC' : ¬ (i : Int) < C := by omega
                                rw [show old0 C D0 i = 0 by unfold old0; rw [if_neg hiC]] at h2
                                go_wp2_with fail
                                go_roundw
                                case rel => exact ⟨rfl, ⟨i + 1, by omega, by go_num⟩, by trivial⟩
                                case measure => simp [intOf]; omega
                          · obtain rfl : n = i := by omega
                            have hin' : ¬ (n : Int) < n := by omega
                            have KB : Hid (Calls Ybad.prog 12 #[.slice aY Y Y, .slice aY Y Y] w13 fun e w' => e = .returned (.bool true) ∧ w' = w13.drew) := by
                              refine bsame_walk aY gY 0 Y Y w13 hY fun h => ?_
                              rcases HFY.out with ⟨_, _, h'⟩ | ⟨h', _⟩
                              · omega
                              · exact h'
                            have c0 := HA13.out.c0
                            have c1 : w13.drew.cell? ⟨w5.heap.size, 1, none⟩ = some (.int .i64 S) := HA13.out.c1
                            have c2 : w13.drew.cell? ⟨w5.heap.size, 2, none⟩ = some (.int .i64 O) := HA13.out.c2
                            have c5 : w13.drew.cell? ⟨w5.heap.size, 5, none⟩ = some (.int .i64 Z) := HA13.out.c5
                            have p3 : w13.drew.cell? ⟨w.heap.size, 3, none⟩ = some (.int .i64 S) := HPA3.out.c3
                            have p4 : w13.drew.cell? ⟨w.heap.size, 4, none⟩ = some (.int .i64 O) := HPA3.out.c4
                            have p5 : w13.drew.cell? ⟨w.heap.size, 5, none⟩ = some (.int .i64 Z) := HPA3.out.c5
                            go_wp2_with fail
                            refine Calls.mono KB.out ?_
                            rintro e w14 ⟨rfl, hw14⟩
                            obtain rfl : w13.drew = w14 := hw14.symm
                            clear hw14
                            go_wp2_with fail
                            go_ret
                            exact ⟨rfl, HB13.out.drew⟩
                      · obtain rfl : st = -1 := HST.out.2 hTe
                        obtain rfl : n = T := hTe.symm
                        clear hTe c3 p0
                        have hMe : M = n := by have := HM.out; omega
                        have hLQ := HLQ.out
                        rw [hMe] at hLQ
                        have HRB4 : Hid (Row w13 w8.heap.size 0 n (bas V k)) := HRB3.out.ext fun i hi => mixR_all hi
                        have hbl := best_le (bas_rng V k n) hn (min 2 n) (by omega)
                        obtain ⟨b1, b2, hb12⟩ : ∃ b1 b2, best (bas V k) n (min 2 n) = (b1, b2) := ⟨_, _, rfl⟩
                        obtain ⟨EX, hEX⟩ : ∃ EX, exL (exE V k n) (exs V k n).length = EX := ⟨_, rfl⟩
                        have HA14 := HA13
                        rw [hb12, hEX] at HA14 hrb
                        rw [hb12] at hbl
                        dsimp only at HA14 hrb hbl
                        obtain ⟨hbl1, hbl2⟩ := hbl
                        have hEX2 : EX = exL E L := by rw [← hEX, ← hLQ.1, ← hLQ.2]
                        have hEXl : EX ≤ 2000000 := by
                          have h1 := xs8_le L HUP.out
                          have h2 := uvl_10 (n := L) (by omega)
                          rw [hEX2]; unfold exL; omega
                        have HRBE : Hid (rb = decide (((b2 + EX : Nat) : Int) < lim)) := hrb
                        have HB12' : Hid (best (bas V k) n (min 2 n) = (b1, b2)) := hb12
                        have HEX : Hid (EX = exL E L) := hEX2
                        have HIB : Hid (I64 n (bas V k)) := bas_rng V k n
                        clear hb12 hEX hEX2 hrb hLQ HLQ HRB3 HA13 HPA3 SI13 HEND HST HM HNS HSTP hMe hMn
                        generalize bas V k = B at *
                        go_wp2_with (at_make; refine wpList_make_h _ rfl _ _ 24 rfl 2 i2 (.int .i64 0) Ybad.underlying24 J2.out.1 J2.out.2.1 J2.out.2.2.1 J2.out.2.2.2 rfl n rfl rfl hn ?_; intro w14 HR14 hB14 hs14)
                        have HF14 : Hid (∀ q, w14.frozen? ⟨w13.heap.size, q, none⟩ = false) := fun q => frozen_of_row _ _ q _ _ HR14.out
                        have HR14r : Hid (Row w14 w13.heap.size 0 n (upTo (dif 1 B) 0)) := fun i hi => by rw [Nat.zero_add, cell_of_row _ _ i _ _ _ HR14.out]; simp [upTo, hi]
                        have HB14 : Hid (Below w13.heap.size w13 w14) := hB14
                        clear HR14 hB14
                        go_loopw [29] (fun x29 wr => ∃ i : Nat, i ≤ n ∧ x29 = .int .i64 i ∧ Row wr w13.heap.size 0 n (upTo (dif 1 B) i) ∧ But w13.heap.size w14 wr) (fun i _ => n - (intOf i).toNat)
                        case atStart => exact ⟨0, by omega, rfl, HR14r.out, But.refl _ _⟩
                        case round =>
                          obtain ⟨i, hi, rfl, hrr, hbt⟩ := hrel
                          have HRr : Hid (Row wr w13.heap.size 0 n (upTo (dif 1 B) i)) := hrr
                          have HBt : Hid (But w13.heap.size w14 wr) := hbt
                          have hl : Below w13.heap.size w13 wr := hbt.later HB14.out (Nat.le_refl _)
                          clear hrr hbt
                          by_cases hin : i < n
                          · have hin' : (i : Int) < n := by omega
                            have h1 := cell_later hl (HRB4.out.pos hin)
                            have h2 := HRr.out.pos hin
                            have hf : wr.frozen? ⟨w13.heap.size, i, none⟩ = false := (HBt.out.frozen i).trans (HF14.out i)
                            by_cases hi0 : i = 0
                            · subst hi0
                              clear hl
                              go_wp2_with fail
                              go_roundw
                              case rel =>
                                refine ⟨1, by omega, by go_num, ?_, HBt.out.set 0 _⟩
                                refine Row.ext (HRr.out.set 0 (B 0) hin) fun j _ => ?_
                                show _ = upTo _ (0 + 1) j
                                rw [← upTo_step, show dif 1 B 0 = B 0 by simp [dif]]
                              case measure => simp [intOf]; omega
                            · have hi1 : ((i : Int) == 0) = false := beq_false_of_ne (by omega)
                              have ej : (i : Int) - 1 = ((i - 1 : Nat) : Int) := by omega
                              have h3 := cell_later hl (HRB4.out.pos (show i - 1 < n by omega))
                              clear hl
                              go_wp2_with fail
                              go_big_region
                              go_wp2_with fail
                              go_roundw
                              case rel =>
                                refine ⟨i + 1, by omega, by go_num, ?_, HBt.out.drew.set i _⟩
                                have h9 := Row.set (w := wr.drew) HRr.out i (wrap64 (B i - B (i - 1))) hin
                                rw [Nat.zero_add] at h9
                                refine Row.ext h9 fun j _ => ?_
                                rw [← upTo_step, show dif 1 B i = wrap64 (B i - B (i - 1)) by unfold dif; rw [if_neg (by omega)]]
                              case measure => simp [intOf]; omega
                          · obtain rfl : n = i := by omega
                            have hin' : ¬ (n : Int) < n := by omega
                            have HRE1 : Hid (Row wr w13.heap.size 0 n (dif 1 B)) := HRr.out.ext fun j hj => upTo_all hj
                            have HRE0 : Hid (Row wr w8.heap.size 0 n B) := HRB4.out.later hl
                            have HRX4 : Hid (Row wr xg 0 L (fun j => (E j : Int))) := HRX3.out.later hl
                            have HA15 := (show Hid _ from HA14.out.later hl)
                            have HB15 : Hid (Below w.heap.size w wr) := HB13.out.trans (hl.mono HB13.out.size)
                            clear hl HRr HBt HF14 HR14r HB14 HRB4 HRX3 HA14 hin
                            generalize hwcx : wr = w15 at *
                            clear hwcx
                            go_wp2_with (at_make; refine wpList_make_h _ rfl _ _ 24 rfl 2 i2 (.int .i64 0) Ybad.underlying24 J2.out.1 J2.out.2.1 J2.out.2.2.1 J2.out.2.2.2 rfl n rfl rfl hn ?_; intro w16 HR16 hB16 hs16)
                            have HF16 : Hid (∀ q, w16.frozen? ⟨w15.heap.size, q, none⟩ = false) := fun q => frozen_of_row _ _ q _ _ HR16.out
                            have HR16r : Hid (Row w16 w15.heap.size 0 n (upTo (dif 2 (dif 1 B)) 0)) := fun i hi => by rw [Nat.zero_add, cell_of_row _ _ i _ _ _ HR16.out]; simp [upTo, hi]
                            have HB16 : Hid (Below w15.heap.size w15 w16) := hB16
                            clear HR16 hB16
                            go_loopw [31] (fun x31 wr => ∃ i : Nat, i ≤ n ∧ x31 = .int .i64 i ∧ Row wr w15.heap.size 0 n (upTo (dif 2 (dif 1 B)) i) ∧ But w15.heap.size w16 wr) (fun i _ => n - (intOf i).toNat)
                            case atStart => exact ⟨0, by omega, rfl, HR16r.out, But.refl _ _⟩
                            case round =>
                              obtain ⟨i, hi, rfl, hrr, hbt⟩ := hrel
                              have HRr : Hid (Row wr w15.heap.size 0 n (upTo (dif 2 (dif 1 B)) i)) := hrr
                              have HBt : Hid (But w15.heap.size w16 wr) := hbt
                              have hl : Below w15.heap.size w15 wr := hbt.later HB16.out (Nat.le_refl _)
                              clear hrr hbt
                              by_cases hin : i < n
                              · have hin' : (i : Int) < n := by omega
                                have h1 := cell_later hl (HRE1.out.pos hin)
                                have h2 := HRr.out.pos hin
                                have hf : wr.frozen? ⟨w15.heap.size, i, none⟩ = false := (HBt.out.frozen i).trans (HF16.out i)
                                generalize hD : dif 1 B = D1 at *
                                by_cases hi0 : i < 2
                                · have hi1 : (i : Int) < 2 := by omega
                                  clear hl
                                  go_wp2_with fail
                                  go_roundw
                                  case rel =>
                                    refine ⟨i + 1, by omega, by go_num, ?_, HBt.out.set i _⟩
                                    have h9 := HRr.out.set i (D1 i) hin
                                    rw [Nat.zero_add] at h9
                                    refine Row.ext h9 fun j _ => ?_
                                    rw [← upTo_step, show dif 2 D1 i = D1 i by unfold dif; rw [if_pos hi0]]
                                  case measure => simp [intOf]; omega
                                · have hi1 : ¬ (i : Int) < 2 := by omega
                                  have ej : (i : Int) - 1 = ((i - 1 : Nat) : Int) := by omega
                                  have h3 := cell_later hl (HRE1.out.pos (show i - 1 < n by omega))
                                  clear hl
                                  go_wp2_with fail
                                  go_big_region
                                  go_wp2_with fail
                                  go_roundw
                                  case rel =>
                                    refine ⟨i + 1, by omega, by go_num, ?_, HBt.out.drew.set i _⟩
                                    have h9 := Row.set (w := wr.drew) HRr.out i (wrap64 (D1 i - D1 (i - 1))) hin
                                    rw [Nat.zero_add] at h9
                                    refine Row.ext h9 fun j _ => ?_
                                    rw [← upTo_step, show dif 2 D1 i = wrap64 (D1 i - D1 (i - 1)) by unfold dif; rw [if_neg hi0]]
                                  case measure => simp [intOf]; omega
                              · obtain rfl : n = i := by omega
                                have hin' : ¬ (n : Int) < n := by omega
                                have HE2 : Hid (Row wr w15.heap.size 0 n (dd B 2)) := HRr.out.ext fun j hj => upTo_all hj
                                have HE1 : Hid (Row wr w13.heap.size 0 n (dd B 1)) := HRE1.out.later hl
                                have HE0 : Hid (Row wr w8.heap.size 0 n B) := HRE0.out.later hl
                                have HRX7 : Hid (Row wr xg 0 L (fun j => (E j : Int))) := HRX4.out.later hl
                                have HA17 := (show Hid _ from HA15.out.later hl)
                                have HB17 : Hid (Below w.heap.size w wr) := HB15.out.trans (hl.mono HB15.out.size)
                                clear hl HRr HBt HF16 HR16r HB16 HRE1 HRE0 HRX4 HA15 HB15 hin
                                generalize hwcx : wr = w17 at *
                                clear hwcx
                                have KZ := (show Hid _ from bsize_walk (some ⟨w8.heap.size, 0, none⟩) w8.heap.size 0 n n 0 B w17 hn (by omega) (by omega) (fun _ => rfl) HE0 HIB)
                                go_wp2_with fail
                                refine Calls.mono KZ.out ?_
                                rintro e w18 ⟨rfl, m18, hw18⟩
                                have hb18 : Below w17.heap.size w17 w18 := by rw [hw18]; exact below_drewN _ _
                                have HF2 : Hid (Row w18 w15.heap.size 0 n (dd B 2)) := HE2.out.later hb18
                                have HF1 : Hid (Row w18 w13.heap.size 0 n (dd B 1)) := HE1.out.later hb18
                                have HF0 : Hid (Row w18 w8.heap.size 0 n B) := HE0.out.later hb18
                                have HRX8 : Hid (Row w18 xg 0 L (fun j => (E j : Int))) := HRX7.out.later hb18
                                have HA18 := (show Hid _ from HA17.out.later hb18)
                                have HB18 : Hid (Below w.heap.size w w18) := HB17.out.trans (hb18.mono HB17.out.size)
                                clear hb18 hw18 HE2 HE1 HE0 HRX7 HA17 HB17 KZ
                                have HW0 : Hid (Wnt w18 B n 0 (.int .i64 0) (.int .i64 (dln B n 0 : Nat)) (.slice (some ⟨w8.heap.size, 0, none⟩) n n)) := ⟨_, rfl, rfl, rfl, HF0.out⟩
                                go_upto_if 351 with fail
                                go_cut [32, 33, 34, 35] from 350 to 358 (fun x32 x33 x34 x35 wx => Wnt wx B n (min 1 n) x32 x33 x34 ∧ Below w18.heap.size w18 wx)
                                case first =>
                                  by_cases h1n : 1 ≤ n
                                  · have h1n' : (1 : Int) ≤ n := by omega
                                    have KZ := (show Hid _ from bsize_walk (some ⟨w13.heap.size, 0, none⟩) w13.heap.size 0 n n 1 (dd B 1) w18 hn (by omega) h1n (fun _ => rfl) HF1 (show Hid _ from dd_rng HIB.out 1))
                                    go_wp2_with fail
                                    refine Calls.mono KZ.out ?_
                                    rintro e w19 ⟨rfl, m19, hw19⟩
                                    have HB19 : Hid (Below w18.heap.size w18 w19) := by show Below _ _ _; rw [hw19]; exact below_drewN _ _
                                    have HM1 : Hid (min 1 n = 0 + 1) := by show _ = _; omega
                                    clear hw19 KZ
                                    by_cases hlt : dln (dd B (0 + 1)) n (0 + 1) < (best B n 0).2
                                    · have HBE := (show Hid _ from best_lt hlt)
                                      have hlt' : ((dln (dd B 1) n 1 : Nat) : Int) < ((dln B n 0 : Nat) : Int) := by have : dln (dd B 1) n 1 < dln B n 0 := hlt; omega
                                      clear hlt
                                      go_wp2_with fail
                                      go_meet
                                      case rel =>
                                        refine ⟨⟨w13.heap.size, ?_, ?_, rfl, ?_⟩, HB19.out⟩
                                        · rw [HM1.out, HBE.out]; rfl
                                        · rw [HM1.out, HBE.out]
                                        · rw [HM1.out, HBE.out]; exact HF1.out.later HB19.out
                                    · have HBE := (show Hid _ from best_ge hlt)
                                      have hlt' : ¬ ((dln (dd B 1) n 1 : Nat) : Int) < ((dln B n 0 : Nat) : Int) := by have : ¬ dln (dd B 1) n 1 < dln B n 0 := hlt; omega
                                      clear hlt
                                      go_wp2_with fail
                                      go_meet
                                      case rel =>
                                        refine ⟨⟨w8.heap.size, ?_, ?_, rfl, ?_⟩, HB19.out⟩
                                        · rw [HM1.out, HBE.out]; rfl
                                        · rw [HM1.out, HBE.out]; rfl
                                        · rw [HM1.out, HBE.out]; exact HF0.out.later HB19.out
                                  · have h1n' : ¬ (1 : Int) ≤ n := by omega
                                    have HM1 : Hid (min 1 n = 0) := by show _ = _; omega
                                    go_wp2_with fail
                                    go_meet
                                    case rel =>
                                      refine ⟨?_, Below.refl _ _⟩
                                      rw [HM1.out]
                                      exact HW0.out
                                case rest =>
                                  obtain ⟨⟨gq, rfl, rfl, rfl, hrq⟩, hbq⟩ := hcut
                                  have HRQ : Hid (Row wc gq 0 n (dd B (best B n (min 1 n)).1)) := hrq
                                  have HE2 : Hid (Row wc w15.heap.size 0 n (dd B 2)) := HF2.out.later hbq
                                  have HRX9 : Hid (Row wc xg 0 L (fun j => (E j : Int))) := HRX8.out.later hbq
                                  have HA19 := (show Hid _ from HA18.out.later hbq)
                                  have HB19 : Hid (Below w.heap.size w wc) := HB18.out.trans (hbq.mono HB18.out.size)
                                  clear hrq hbq HW0 HF2 HF1 HF0 HRX8 HA18 HB18
                                  generalize hwcx : wc = w19 at *
                                  clear hwcx
                                  obtain ⟨o1, ho1⟩ : ∃ o1, (best B n (min 1 n)).1 = o1 := ⟨_, rfl⟩
                                  obtain ⟨s1, hs1⟩ : ∃ s1, (best B n (min 1 n)).2 = s1 := ⟨_, rfl⟩
                                  have HO1 := (show Hid _ from ho1)
                                  have HS1 := (show Hid _ from hs1)
                                  rw [ho1] at HRQ ⊢
                                  rw [hs1]
                                  clear ho1 hs1
                                  go_upto_if 360 with fail
                                  go_cut [32, 33, 34, 36] from 359 to 367 (fun x32 x33 x34 x36 wx => Wnt wx B n (min 2 n) x32 x33 x34 ∧ Below w19.heap.size w19 wx)
                                  case first =>
                                    by_cases h1n : 2 ≤ n
                                    · have h1n' : (2 : Int) ≤ n := by omega
                                      have KZ := (show Hid _ from bsize_walk (some ⟨w15.heap.size, 0, none⟩) w15.heap.size 0 n n 2 (dd B 2) w19 hn (by omega) h1n (fun _ => rfl) HE2 (show Hid _ from dd_rng HIB.out 2))
                                      go_wp2_with fail
                                      refine Calls.mono KZ.out ?_
                                      rintro e w20 ⟨rfl, m20, hw20⟩
                                      have HB20 : Hid (Below w19.heap.size w19 w20) := by show Below _ _ _; rw [hw20]; exact below_drewN _ _
                                      have HM1 : Hid (min 2 n = 1 + 1) := by show _ = _; omega
                                      have hm1 : min 1 n = 1 := by omega
                                      have hO := HO1.out
                                      have hS := HS1.out
                                      rw [hm1] at hO hS
                                      have HO := (show Hid _ from hO)
                                      have HSS := (show Hid _ from hS)
                                      clear hw20 KZ hO hm1
                                      by_cases hlt : dln (dd B (1 + 1)) n (1 + 1) < (best B n 1).2
                                      · have HBE := (show Hid _ from best_lt hlt)
                                        have hlt' : ((dln (dd B 2) n 2 : Nat) : Int) < ((s1 : Nat) : Int) := by have : dln (dd B 2) n 2 < (best B n 1).2 := hlt; omega
                                        clear hlt hS
                                        go_wp2_with fail
                                        go_meet
                                        case rel =>
                                          refine ⟨⟨w15.heap.size, ?_, ?_, rfl, ?_⟩, HB20.out⟩
                                          · rw [HM1.out, HBE.out]; rfl
                                          · rw [HM1.out, HBE.out]
                                          · rw [HM1.out, HBE.out]; exact HE2.out.later HB20.out
                                      · have HBE := (show Hid _ from best_ge hlt)
                                        have hlt' : ¬ ((dln (dd B 2) n 2 : Nat) : Int) < ((s1 : Nat) : Int) := by have : ¬ dln (dd B 2) n 2 < (best B n 1).2 := hlt; omega
                                        clear hlt hS
                                        go_wp2_with fail
                                        go_meet
                                        case rel =>
                                          refine ⟨⟨gq, ?_, ?_, rfl, ?_⟩, HB20.out⟩
                                          · rw [HM1.out, HBE.out, HO.out]
                                          · rw [HM1.out, HBE.out, HSS.out]
                                          · rw [HM1.out, HBE.out, HO.out]; exact HRQ.out.later HB20.out
                                    · have h1n' : ¬ (2 : Int) ≤ n := by omega
                                      have HM1 : Hid (min 2 n = min 1 n) := by show _ = _; omega
                                      go_wp2_with fail
                                      go_meet
                                      case rel =>
                                        refine ⟨⟨gq, ?_, ?_, rfl, ?_⟩, Below.refl _ _⟩
                                        · rw [HM1.out, HO1.out]
                                        · rw [HM1.out, HS1.out]
                                        · rw [HM1.out, HO1.out]; exact HRQ.out
                                  case rest =>
                                    obtain ⟨⟨gw, rfl, rfl, rfl, hrq⟩, hbq⟩ := hcut
                                    have hbb := HB12'.out
                                    rw [hbb] at hrq ⊢
                                    dsimp only at hrq ⊢
                                    have HRW : Hid (Row wc gw 0 n (dd B b1)) := hrq
                                    have HRXA : Hid (Row wc xg 0 L (fun j => (E j : Int))) := HRX9.out.later hbq
                                    have HA20 := (show Hid _ from HA19.out.later hbq)
                                    have HB20 : Hid (Below w.heap.size w wc) := HB19.out.trans (hbq.mono HB19.out.size)
                                    clear hrq hbq hbb HRQ HE2 HRX9 HA19 HB19 HO1 HS1
                                    generalize hwcx : wc = w20 at *
                                    clear hwcx
                                    obtain ⟨U, hU⟩ : ∃ U, uvl L = U := ⟨_, rfl⟩
                                    have HEX2 : Hid (EX = U + xs8 E L) := by show _ = _; rw [HEX.out, ← hU]; rfl
                                    have KU := (show Hid _ from buvlen_walk L w20 (by omega))
                                    have hUl := uvl_10 (n := L) (by omega)
                                    rw [hU] at KU hUl
                                    clear hU HEX
                                    go_wp2_with fail
                                    refine Calls.mono KU.out ?_
                                    rintro e w21 ⟨rfl, hw21⟩
                                    obtain rfl : w20 = w21 := hw21.symm
                                    clear hw21 KU
                                    go_wp2_with fail
                                    have HX0 : Hid (0 < L → ax = some ⟨xg, 0, none⟩) := HAX.out
                                    go_loopw [37, 38, 39] (fun x37 x38 x39 wr => (∃ j : Nat, j ≤ L ∧ x37 = .int .i64 (U + xs8 E j : Nat) ∧ x38 = .int .i64 j) ∧ Below w20.heap.size w20 wr) (fun _ j _ _ => L - (intOf j).toNat)
                                    case atStart => exact ⟨⟨0, by omega, rfl, rfl⟩, Below.refl _ _⟩
                                    case round =>
                                      obtain ⟨⟨j, hj, rfl, rfl⟩, hbr⟩ := hrel
                                      have HBR := (show Hid _ from hbr)
                                      have hx := xs8_le j fun i hi => HUP.out i (by omega)
                                      obtain ⟨SJ, hSJ⟩ : ∃ SJ, U + xs8 E j = SJ := ⟨_, rfl⟩
                                      have hSJl : (SJ : Int) ≤ 2000000 := by omega
                                      have HSJ := (show Hid _ from hSJ)
                                      rw [hSJ]
                                      clear hx hSJ
                                      by_cases hin : j < L
                                      · obtain rfl := HX0.out (by omega)
                                        have hin' : (j : Int) < L := by omega
                                        obtain ⟨u1, u2⟩ := HUP.out j hin
                                        obtain ⟨a, ha⟩ : ∃ a, E j = a := ⟨_, rfl⟩
                                        have h1 : wr.cell? ⟨xg, j, none⟩ = some (.int .i64 a) := by rw [← ha]; exact cell_later hbr (HRXA.out.pos hin)
                                        have ha' : (a : Int) < 65536 := by omega
                                        by_cases hj0 : j = 0
                                        · subst hj0
                                          have KJ := (show Hid _ from buvlen_walk a wr (by omega))
                                          have hV := uvl_10 (n := a) (by omega)
                                          have HXS : Hid (U + xs8 E (0 + 1) = SJ + (uvl a + 8)) := by
                                            show _ = _
                                            have h0 := HSJ.out
                                            have h1 : xs8 E (0 + 1) = xs8 E 0 + (uvl (E 0 - 0) + 8) := rfl
                                            rw [h1, Nat.sub_zero, ha]; omega
                                          generalize uvl a = V0 at *
                                          clear hbr ha u1 u2 HSJ
                                          go_wp2_with fail
                                          refine Calls.mono KJ.out ?_
                                          rintro e w22 ⟨rfl, hw22⟩
                                          obtain rfl : wr = w22 := hw22.symm
                                          clear hw22 KJ
                                          go_wp2_with fail
                                          go_roundw
                                          case rel => exact ⟨⟨1, by omega, by rw [HXS.out]; go_num, by go_num⟩, HBR.out⟩
                                          case measure => simp [intOf]; omega
                                        · obtain ⟨p, hp⟩ : ∃ p, j = p + 1 := ⟨j - 1, by omega⟩
                                          have hpj : (j : Int) - 1 = (p : Int) := by omega
                                          have hj1 : (0 : Int) < (j : Int) := by omega
                                          have hpL : (p : Int) < L := by omega
                                          obtain ⟨b, hb⟩ : ∃ b, E p = b := ⟨_, rfl⟩
                                          have h2 : wr.cell? ⟨xg, p, none⟩ = some (.int .i64 b) := by rw [← hb]; exact cell_later hbr (HRXA.out.pos (show p < L by omega))
                                          have hnx : nxt E j = b + 1 := by rw [hp, ← hb]; rfl
                                          obtain ⟨d, hd⟩ : ∃ d, a = b + 1 + d := ⟨a - (b + 1), by omega⟩
                                          have hb' : (b : Int) < 65536 := by omega
                                          have e1 : (a : Int) - (b : Int) - 1 = (d : Int) := by omega
                                          have KJ := (show Hid _ from buvlen_walk d wr.drew (by omega))
                                          have hV := uvl_10 (n := d) (by omega)
                                          have hd' : (d : Int) < 65536 := by omega
                                          have HXS : Hid (U + xs8 E (j + 1) = SJ + (uvl d + 8)) := by
                                            show _ = _
                                            have h0 := HSJ.out
                                            have h1 : xs8 E (j + 1) = xs8 E j + (uvl (E j - nxt E j) + 8) := rfl
                                            have h3 : E j - nxt E j = d := by omega
                                            rw [h1, h3]; omega
                                          generalize uvl d = V0 at *
                                          clear hbr ha hb hnx hd hp u1 u2 HSJ hj0
                                          have HQ1 := (show Hid _ from hpj)
                                          have HQ2 := (show Hid _ from e1)
                                          have HQ3 := (show Hid _ from h2)
                                          have HQ4 := (show Hid _ from hpL)
                                          have HQ5 := (show Hid _ from And.intro hb' hd')
                                          have HQ6 := (show Hid _ from And.intro ha' hV)
                                          clear hpj e1 h2 hpL hb' hd' ha' hV
                                          go_upto_if 383 with fail
                                          go_wp2_with fail
                                          have hpj := HQ1.out
                                          have e1 := HQ2.out
                                          have h2 := HQ3.out
                                          have hpL := HQ4.out
                                          obtain ⟨hb', hd'⟩ := HQ5.out
                                          obtain ⟨ha', hV⟩ := HQ6.out
                                          go_big_region
                                          go_wp2_with fail
                                          refine Calls.mono KJ.out ?_
                                          rintro e w22 ⟨rfl, hw22⟩
                                          obtain rfl : wr.drew = w22 := hw22.symm
                                          clear hw22 KJ
                                          go_wp2_with fail
                                          go_roundw
                                          case rel => exact ⟨⟨j + 1, by omega, by rw [HXS.out]; go_num, by go_num⟩, HBR.out.drew⟩
                                          case measure => simp [intOf]; omega
                                      · obtain rfl : L = j := by omega
                                        have hin' : ¬ (L : Int) < L := by omega
                                        obtain rfl : EX = SJ := HEX2.out.trans HSJ.out
                                        have HRW2 : Hid (Row wr gw 0 n (dd B b1)) := HRW.out.later hbr
                                        have HA21 := (show Hid _ from HA20.out.later hbr)
                                        have HB21 : Hid (Below w.heap.size w wr) := HB20.out.trans (hbr.mono HB20.out.size)
                                        clear hbr HBR HRW HA20 HB20 HRXA HSJ HEX2 hin
                                        generalize hwcx : wr = w21 at *
                                        clear hwcx
                                        have eS : ((b2 + EX : Nat) : Int) = (b2 : Int) + (EX : Int) := by omega
                                        go_wp2_with fail
                                        go_loopw [8, 41] (fun x8 x41 wr => x8 = .bool false ∧ (∃ i : Nat, i ≤ n ∧ x41 = .int .i64 i) ∧ Below w21.heap.size w21 wr) (fun _ i _ => n - (intOf i).toNat)
                                        case atStart => exact ⟨rfl, ⟨0, by omega, rfl⟩, Below.refl _ _⟩
                                        case round =>
                                          obtain ⟨rfl, ⟨i, hi, rfl⟩, hbr⟩ := hrel
                                          have HBR := (show Hid _ from hbr)
                                          by_cases hin : i < n
                                          · obtain rfl := HA21.out.ints (by omega)
                                            have hin' : (i : Int) < n := by omega
                                            have h1 := cell_later hbr (HRW2.out.pos hin)
                                            have h2 := cell_later hbr (HA21.out.row.pos hin)
                                            have h3 := cell_later hbr HA21.out.c3
                                            clear hbr
                                            go_wp2_with fail
                                            go_big_region
                                            go_wp2_with fail
                                            go_roundw
                                            case rel => exact ⟨rfl, ⟨i + 1, by omega, by go_num⟩, HBR.out.drew⟩
                                            case measure => simp [intOf]; omega
                                          · obtain rfl : n = i := by omega
                                            have hin' : ¬ (n : Int) < n := by omega
                                            obtain ⟨vb, vo, hva⟩ : ∃ vb vo, 0 < n → va = some ⟨vb, vo, none⟩ := by
                                              by_cases h0 : 0 < n
                                              · obtain ⟨vb, vo, h, _⟩ := SV.out.at' h0
                                                exact ⟨vb, vo, fun _ => h⟩
                                              · exact ⟨0, 0, fun h => absurd h h0⟩
                                            have KB := (show Hid _ from bsame_walk va vb vo n vc wr hn hva)
                                            have HA22 := (show Hid _ from HA21.out.later hbr)
                                            have HB22 : Hid (Below w.heap.size w wr) := HB21.out.trans (hbr.mono HB21.out.size)
                                            have c0 := HA22.out.c0
                                            have c1 : wr.drew.cell? ⟨w5.heap.size, 1, none⟩ = some (.int .i64 k) := HA22.out.c1
                                            have c2 : wr.drew.cell? ⟨w5.heap.size, 2, none⟩ = some (.int .i64 b1) := HA22.out.c2
                                            have c5 : wr.drew.cell? ⟨w5.heap.size, 5, none⟩ = some (.int .i64 ((b2 : Int) + (EX : Int))) := by rw [← eS]; exact HA22.out.c5
                                            clear hva hbr HBR HA21 HB21 HRW2 hin
                                            by_cases hlt : (b2 : Int) + (EX : Int) < lim
                                            · obtain rfl : true = rb := by rw [HRBE.out, eS]; simp [hlt]
                                              clear eS
                                              go_wp2_with fail
                                              refine Calls.mono KB.out ?_
                                              rintro e w22 ⟨rfl, hw22⟩
                                              obtain rfl : wr.drew = w22 := hw22.symm
                                              clear hw22
                                              go_wp2_with fail
                                              go_ret
                                              exact ⟨rfl, HB22.out.drew⟩
                                            · obtain rfl : false = rb := by rw [HRBE.out, eS]; simp [hlt]
                                              clear eS
                                              go_wp2_with fail
                                              refine Calls.mono KB.out ?_
                                              rintro e w22 ⟨rfl, hw22⟩
                                              obtain rfl : wr.drew = w22 := hw22.symm
                                              clear hw22
                                              go_wp2_with fail
                                              go_ret
                                              exact ⟨rfl, HB22.out.drew⟩
end Go.Proofs.YbulkecgoDoor

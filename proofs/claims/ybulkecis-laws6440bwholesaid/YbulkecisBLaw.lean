/-
  LawS6440BWhole walked, where the slices are short.
-/
import Derived.Test.YbulkecisBEnd
import Derived.Outline
namespace Go.Proofs.Ybulkecis
open Go.RowKit _root_.Go.Proofs.Ybulkecis.Own
set_option linter.unusedVariables false
set_option maxRecDepth 100000
attribute [-go_sem] Builtin.append_

theorem tot_bd {L : Nat → Nat} {n M : Nat} (h : ∀ v, v < n → L v ≤ M) : ∀ k, k ≤ n → tot L k ≤ k * M
  | 0, _ => by simp [tot]
  | k + 1, hk => by
    have h1 := tot_bd h k (by omega)
    have h2 := h k (by omega)
    rw [tot, Nat.add_mul]; omega
theorem pg_new (w : World) (arr : Array Value) (h : arr.size = 111) (t : TypeId) : Pg (w.alloc (.cells arr t)) w.heap.size (fun i => arr.getD i undef) := by
  refine ⟨fun i hi => ?_, fun i => ?_, by simp⟩
  · have h1 : (w.alloc (.cells arr t)).heap[w.heap.size]? = some (.cells arr t (0, 0)) := by rw [heap_alloc_new]
    simp only [World.cell?, h1]
    rw [show arr.getD i undef = arr[i]'(by omega) by simp [Array.getD, h, hi]]
    simp [h, hi]
  · rw [frozen?_alloc_cells]; simp [World.frozen?]

/-- The propagator's zero. -/
def pgz : Array Value := #[.pointer none, .slice none 0 0, .slice none 0 0, .slice none 0 0, .slice none 0 0, .slice none 0 0, .slice none 0 0, .slice none 0 0, .slice none 0 0, .slice none 0 0, .slice none 0 0, .slice none 0 0, .slice none 0 0, .slice none 0 0, .slice none 0 0, .slice none 0 0, .slice none 0 0, .slice none 0 0, .slice none 0 0, .slice none 0 0, .slice none 0 0, .slice none 0 0, .slice none 0 0, .slice none 0 0, .slice none 0 0, .int .i64 0, .slice none 0 0, .slice none 0 0, .slice none 0 0, .slice none 0 0, .slice none 0 0, .slice none 0 0, .slice none 0 0, .slice none 0 0, .slice none 0 0, .map none, .slice none 0 0, .slice none 0 0, .slice none 0 0, .slice none 0 0, .slice none 0 0, .slice none 0 0, .slice none 0 0, .slice none 0 0, .slice none 0 0, .slice none 0 0, .slice none 0 0, .slice none 0 0, .int .i64 0, .slice none 0 0, .int .i64 0, .slice none 0 0, .int .i64 0, .slice none 0 0, .int .i64 0, .slice none 0 0, .slice none 0 0, .slice none 0 0, .slice none 0 0, .slice none 0 0, .slice none 0 0, .slice none 0 0, .slice none 0 0, .slice none 0 0, .slice none 0 0, .slice none 0 0, .int .i64 0, .int .i64 0, .int .i64 0, .int .i64 0, .int .i64 0, .int .i64 0, .slice none 0 0, .slice none 0 0, .slice none 0 0, .int .i64 0, .int .i64 0, .int .i64 0, .int .i64 0, .int .i64 0, .int .i64 0, .int .i64 0, .int .i64 0, .int .i64 0, .slice none 0 0, .slice none 0 0, .slice none 0 0, .int .i64 0, .slice none 0 0, .slice none 0 0, .int .i64 0, .int .i64 0, .bool false, .int .i64 0, .int .i64 0, .int .i64 0, .bool false, .int .i64 0, .int .i64 0, .bool false, .slice none 0 0, .slice none 0 0, .slice none 0 0, .slice none 0 0, .slice none 0 0, .slice none 0 0, .slice none 0 0, .slice none 0 0, .bool false, .slice none 0 0, .pointer none]
theorem pgz_size : pgz.size = 111 := rfl
theorem build57 (ρ : Operand → Value) (w : World) : (execOp ρ { dst := some 90, op := .build 57 #[], type := 57, pos := "zz_law_s6440b.go:45", after := #[], guard := none }).run Yba.prog w = .ok (.value (.agg pgz)) w := by kernel_rfl
theorem oper_value {P : Program} {o : Oper} {a : Act} {w w' : World} {K : Act → World → Prop} {Q : Exit → Act → World → Prop} {v : Value} (h : (execOp a.eval o).run P w = .ok (.value v) w') (hK : K (a.put o.dst v) w') : o.wp P a w K Q := by
  unfold Oper.wp
  rw [h]
  exact hK

theorem wpList_build57 {ops : Array Oper} {rest : List Oper} {a : Act} {w : World} {Q : Exit → Act → World → Prop} (h : wpList Yba.prog ops Q rest (a.put (some 90) (.agg pgz)) w) : wpList Yba.prog ops Q ({ dst := some 90, op := .build 57 #[], type := 57, pos := "zz_law_s6440b.go:45", after := #[], guard := none } :: rest) a w :=
  wpList_plain rfl fun K hK => oper_value (build57 _ _) (hK _ _ h)

/-- The successors of v. -/
def Oo (li : Nat → Nat) (z : Nat → Nat → Int) (n v : Nat) : List Nat := (List.range (li v)).map fun j => (z v j).toNat % n
theorem Oo_len (li : Nat → Nat) (z : Nat → Nat → Int) (n v : Nat) : (Oo li z n v).length = li v := by simp [Oo]
theorem Oo_take {li : Nat → Nat} {z : Nat → Nat → Int} {n v j : Nat} (h : j < li v) : (Oo li z n v).take (j + 1) = (Oo li z n v).take j ++ [(z v j).toNat % n] := by
  rw [take_snoc' _ _ (by rw [Oo_len]; exact h)]
  simp [Oo]
theorem Oo_get {li : Nat → Nat} {z : Nat → Nat → Int} {n v j : Nat} (h : j < li v) : (Oo li z n v)[j]'(by rw [Oo_len]; exact h) = (z v j).toNat % n := by simp [Oo]
theorem modI {x : Int} {n : Nat} (h : 0 ≤ x) : x % (n : Int) = ((x.toNat % n : Nat) : Int) := by rw [Int.natCast_emod, Int.toNat_of_nonneg h]
theorem Res.blockI {w : World} {v : Value} {n : Nat} {D : Nat → Int} (h : (Res.iv v (il n D)).ok w) (h0 : 0 < n) : ∃ g c, v = .slice (some ⟨g, 0, none⟩) n c := by
  obtain ⟨g, c, h1, _⟩ := OwnV.block (m := n) h (il_len _ _) h0
  exact ⟨g, c, h1⟩
theorem Res.blockB {w : World} {v : Value} {n : Nat} {D : Nat → Bool} (h : (Res.bv v (bl n D)).ok w) (h0 : 0 < n) : ∃ g c, v = .slice (some ⟨g, 0, none⟩) n c := by
  obtain ⟨g, c, h1, _⟩ := OwnV.block (m := n) h (bl_len _ _) h0
  exact ⟨g, c, h1⟩
theorem Res.cellI {w : World} {g n c : Nat} {D : Nat → Int} (h : (Res.iv (.slice (some ⟨g, 0, none⟩) n c) (il n D)).ok w) {j : Nat} (hj : j < n) : w.cell? ⟨g, j, none⟩ = some (.int .i64 (D j)) ∧ w.frozen? ⟨g, j, none⟩ = false := by
  refine ⟨?_, OwnV.free h (by rw [il_len]) j⟩
  rw [OwnV.cell h (by rw [il_len]) (by rw [il_len]; exact hj)]; exact il_get hj
theorem Res.cellB {w : World} {g n c : Nat} {D : Nat → Bool} (h : (Res.bv (.slice (some ⟨g, 0, none⟩) n c) (bl n D)).ok w) {j : Nat} (hj : j < n) : w.cell? ⟨g, j, none⟩ = some (.bool (D j)) ∧ w.frozen? ⟨g, j, none⟩ = false := by
  refine ⟨?_, OwnV.free h (by rw [bl_len]) j⟩
  rw [OwnV.cell h (by rw [bl_len]) (by rw [bl_len]; exact hj)]; exact bl_get hj
theorem wrap64_ok (n : Int) (h : -9223372036854775808 ≤ n ∧ n ≤ 9223372036854775807) : wrap64 n = n := by unfold wrap64; omega
theorem Spl.ext {w0 w : World} {L L' : List Res} (h : Spl w0 w L) (e : L = L') : Spl w0 w L' := e ▸ h
theorem Spl.ne {w0 w : World} {L : List Res} (h : Spl w0 w L) (i j : Nat) {r s : Res} (hij : i ≠ j) (hi : L[i]? = some r) (hj : L[j]? = some s) {g k : Nat} (hg : r.blk = some g) (hk : s.blk = some k) : g ≠ k := fun e => h.ap i j r s hij hi hj g hg (by rw [e]; exact hk)
theorem ite_next {α : Type} (k j : Nat) (x y d : α) (e : j = k → x = y) : (if j = k then y else if j < k then x else d) = if j < k + 1 then x else d := by
  by_cases h : j = k
  · rw [if_pos h, if_pos (by omega), e h]
  · by_cases h2 : j < k
    · rw [if_neg h, if_pos h2, if_pos (by omega)]
    · rw [if_neg h, if_neg h2, if_neg (by omega)]

/-- The propagator's cells ahead of rebuild. -/
theorem fk_new {f5 : Nat → Value} {bb n lq T : Nat} {apo asl go alv at' apr aqd : Option Addr} {clv t ct : Nat} (h7 : ∀ i, i ≠ 110 → i ≠ 5 → i ≠ 57 → i ≠ 6 → i ≠ 7 → i ≠ 56 → i ≠ 41 → i ≠ 47 → f5 i = pgz.getD i undef)
    (h8 : f5 110 = .pointer (some ⟨bb, 0, none⟩) ∧ f5 5 = .slice apo n n ∧ f5 57 = .slice asl n n ∧ f5 6 = .slice go (n + 1) (n + 1) ∧ f5 7 = .slice alv T clv ∧ f5 56 = .slice at' t ct ∧ f5 41 = .slice apr lq lq ∧ f5 47 = .slice aqd lq lq) (qv : Value) :
    Fk (upd f5 46 qv) bb lq (.slice apo n n) (.slice go (n + 1) (n + 1)) (.slice alv T clv) (.slice asl n n) (.slice aqd lq lq) apr lq ∧ (upd f5 46 qv 56 = .slice at' t ct ∧ upd f5 46 qv 46 = qv ∧ upd f5 46 qv 100 = .slice none 0 0 ∧ upd f5 46 qv 101 = .slice none 0 0 ∧ upd f5 46 qv 104 = .slice none 0 0) := by
  obtain ⟨k1, k2, k3, k4, k5, k6, k7, k8⟩ := h8
  have key : ∀ i, i ≠ 46 → i ≠ 110 → i ≠ 5 → i ≠ 57 → i ≠ 6 → i ≠ 7 → i ≠ 56 → i ≠ 41 → i ≠ 47 → upd f5 46 qv i = pgz.getD i undef := fun i h0 h1 h2 h3 h4 h5 h6 h7' h8' => (upd_ne _ _ h0).trans (h7 i h1 h2 h3 h4 h5 h6 h7' h8')
  refine ⟨⟨key 1 ?_ ?_ ?_ ?_ ?_ ?_ ?_ ?_ ?_, (upd_ne _ _ ?_).trans k2, (upd_ne _ _ ?_).trans k4, (upd_ne _ _ ?_).trans k5, (upd_ne _ _ ?_).trans k7, (upd_ne _ _ ?_).trans k8, key 48 ?_ ?_ ?_ ?_ ?_ ?_ ?_ ?_ ?_, key 49 ?_ ?_ ?_ ?_ ?_ ?_ ?_ ?_ ?_, key 50 ?_ ?_ ?_ ?_ ?_ ?_ ?_ ?_ ?_, key 51 ?_ ?_ ?_ ?_ ?_ ?_ ?_ ?_ ?_, (upd_ne _ _ ?_).trans k3, key 90 ?_ ?_ ?_ ?_ ?_ ?_ ?_ ?_ ?_, key 91 ?_ ?_ ?_ ?_ ?_ ?_ ?_ ?_ ?_, key 92 ?_ ?_ ?_ ?_ ?_ ?_ ?_ ?_ ?_, key 93 ?_ ?_ ?_ ?_ ?_ ?_ ?_ ?_ ?_, key 94 ?_ ?_ ?_ ?_ ?_ ?_ ?_ ?_ ?_, key 95 ?_ ?_ ?_ ?_ ?_ ?_ ?_ ?_ ?_, key 96 ?_ ?_ ?_ ?_ ?_ ?_ ?_ ?_ ?_, key 97 ?_ ?_ ?_ ?_ ?_ ?_ ?_ ?_ ?_, key 102 ?_ ?_ ?_ ?_ ?_ ?_ ?_ ?_ ?_, key 103 ?_ ?_ ?_ ?_ ?_ ?_ ?_ ?_ ?_, key 105 ?_ ?_ ?_ ?_ ?_ ?_ ?_ ?_ ?_, (upd_ne _ _ ?_).trans k1⟩, (upd_ne _ _ ?_).trans k6, upd_at _ _ _, key 100 ?_ ?_ ?_ ?_ ?_ ?_ ?_ ?_ ?_, key 101 ?_ ?_ ?_ ?_ ?_ ?_ ?_ ?_ ?_, key 104 ?_ ?_ ?_ ?_ ?_ ?_ ?_ ?_ ?_⟩ <;> decide
theorem Oo_lt {li : Nat → Nat} {z : Nat → Nat → Int} {n : Nat} (v : Nat) (hv : v < n) (x : Nat) (hx : x ∈ Oo li z n v) : x < n := by
  unfold Oo at hx
  rw [List.mem_map] at hx
  obtain ⟨j, _, rfl⟩ := hx
  exact Nat.mod_lt _ (by omega)

set_option maxHeartbeats 16000000 in
theorem blaw_walk (ao : Option Addr) (n co : Nat) (ap : Option Addr) (lp cp : Nat) (aq : Option Addr) (lq cq : Nat) (au : Option Addr) (lu cu : Nat) (w : World)
    (ai : Nat → Option Addr) (li ci : Nat → Nat) (z : Nat → Nat → Int) (zp : Nat → Int) (B : Nat → Bool) (zu : Nat → Int)
    (HO : Hid (Rv w ao n fun v => .slice (ai v) (li v) (ci v)))
    (HI : Hid (∀ v, v < n → Rv w (ai v) (li v) (fun j => .int .u16 (z v j)) ∧ ∀ j, j < li v → 0 ≤ z v j ∧ z v j ≤ 65535))
    (HL : Hid (∀ v, v < n → li v ≤ 281474976710656))
    (HPk : Hid (Rv w ap lp (fun j => .int .u16 (zp j)) ∧ ∀ j, j < lp → 0 ≤ zp j ∧ zp j ≤ 65535))
    (HQd : Hid (Rv w aq lq fun j => .bool (B j))) (HQu : Hid (Rv w au lu fun j => .int .i64 (zu j)))
    (hn : n ≤ 1000) (hlp : lp ≤ 65536) (hlq : lq ≤ 65536) (hlu : lu ≤ 65536) :
    Calls Yba.prog 4 #[.slice ao n co, .slice ap lp cp, .slice aq lq cq, .slice au lu cu] w fun e w' => e = .returned (.bool true) ∧ Below w.heap.size w w' := by
  obtain ⟨i3, a3, b3, c3, d3⟩ := info_parts info3
  have J3 := (show Hid _ from And.intro a3 (And.intro b3 (And.intro c3 d3)))
  clear a3 b3 c3 d3
  have h1n : ¬ (n : Int) > 1000 := by omega
  have h1p : ¬ (lp : Int) > 65536 := by omega
  have h1q : ¬ (lq : Int) > 65536 := by omega
  have h1u : ¬ (lu : Int) > 65536 := by omega
  go_enter Yba.func4, Yba.ntmps4
  go_upto_block 0 with fail
  go_cut [10, 11] from 76 to 87 (fun x10 x11 w2 => x10 = .int .i64 (tot li n : Nat) ∧ w2 = w)
  case first => as_aux_lemma =>
    go_wp2_with fail
    go_loopw [10, 11] (fun x10 x11 wr => ∃ k : Nat, k ≤ n ∧ x11 = .int .i64 k ∧ x10 = .int .i64 (tot li k : Nat) ∧ wr = w) (fun _ x _ => n - (intOf x).toNat)
    case atStart => exact ⟨0, Nat.zero_le _, rfl, rfl, rfl⟩
    case round => as_aux_lemma =>
      obtain ⟨k, hk, rfl, rfl, rfl⟩ := hrel
      have hb := tot_bd HL.out k hk
      have hb2 : tot li k ≤ 281474976710656000 := by omega
      by_cases hkn : k < n
      · have hkn' : (k : Int) < (n : Int) := by omega
        obtain ⟨bo, oo, hao, hc⟩ := HO.out.at' (by omega)
        subst hao
        have hck := hc k hkn
        have hlk := HL.out k hkn
        clear hc hb
        have HT : Hid (tot li (k + 1) = tot li k + li k) := rfl
        generalize tot li k = T at *
        go_wp2_with fail
        go_roundw
        case rel => exact ⟨k + 1, by omega, by go_num, by rw [HT.out]; go_num, trivial⟩
        case measure => simp [intOf]; omega
      · obtain rfl : n = k := by omega
        have hkn' : ¬ (n : Int) < (n : Int) := by omega
        clear hb
        go_wp2_with fail
        go_meet
        case rel => exact ⟨rfl, rfl⟩
  case rest => as_aux_lemma =>
    obtain ⟨rfl, hw2⟩ := hcut
    obtain rfl : w = wc := hw2.symm
    have hb := tot_bd HL.out n (Nat.le_refl _)
    by_cases htot : tot li n ≤ 65536
    · have htot' : ¬ ((tot li n : Nat) : Int) > 65536 := by omega
      have HTT : Hid (tot li n ≤ 65536) := htot
      clear hb htot
      generalize hTe : tot li n = T at htot' ⊢
      have HTe : Hid (T = tot li n) := hTe.symm
      clear hTe
      go_wp2_with (refine wpList_build57 ?_)
      have hP0 := pg_new w pgz pgz_size 57
      have hB0 : Below w.heap.size w (w.alloc (.cells pgz 57)) := (Below.refl _ _).alloc (Nat.le_refl _) _
      have HS0 : Hid (Spl w (w.alloc (.cells pgz 57)) [.pg w.heap.size fun i => pgz.getD i undef]) := (Spl.nil w).new hB0 (r := .pg w.heap.size fun i => pgz.getD i undef) hP0 (fun g hg => by cases hg; exact Nat.le_refl _)
      refine Calls.mono (setup_walk _ w.heap.size _ hP0 rfl) ?_
      rintro e w1 ⟨rfl, bb, hP1, hb1, hb2, hb3, hb4, hN1⟩
      obtain ⟨f1, hf1⟩ : ∃ f1, upd (fun i => pgz.getD i undef) 110 (.pointer (some ⟨bb, 0, none⟩)) = f1 := ⟨_, rfl⟩
      rw [hf1] at hP1
      have HS1 : Hid (Spl w w1 [.cl bb (.int .i64 0), .pg w.heap.size f1]) := by
        have h1 := HS0.out.upd 0 rfl (r' := .pg w.heap.size f1) (hN1.mono (T := fun k => (Res.pg w.heap.size fun i => pgz.getD i undef).blk = some k) fun k _ h => by rw [h]; rfl) hP1 (fun g hg => .inl hg)
        refine h1.add (r := .cl bb (.int .i64 0)) ⟨hb3, hb4, hb2⟩ (fun g hg => by cases hg; exact Nat.le_trans (by simp) hb1) (fun k x hx g hg e => ?_)
        cases hg
        match k, hx with
        | 0, hx =>
          cases hx
          have e' : some w.heap.size = some bb := e
          have h9 : (w.alloc (.cells pgz 57)).heap.size = w.heap.size + 1 := by simp
          have h8 := Option.some.inj e'
          omega
        | k + 1, hx => simp at hx
      have HF1 : Hid (∀ i, i ≠ 110 → f1 i = pgz.getD i undef) := fun i hi => by rw [← hf1, upd_ne _ _ hi]
      have HF2 : Hid (f1 110 = .pointer (some ⟨bb, 0, none⟩)) := by show _ = _; rw [← hf1, upd_at]
      clear hP0 hB0 HS0 hP1 hb1 hb2 hb3 hb4 hN1 hf1
      have c5 := Pg.at (HS1.out.all 1 _ rfl) 5 (HF1.out 5 (by decide)) (by decide)
      go_wp2_with fail
      refine Calls.mono (resize_int w1 n (by omega)) ?_
      rintro e w2 ⟨apo, rfl, hO, hB, hfr⟩
      have HS2 : Hid (Spl w w2 [.iv (.slice apo n n) (il n fun _ => 0), .cl bb (.int .i64 0), .pg w.heap.size f1]) := HS1.out.new hB hO fun g hg => (hfr g hg).1
      have c5 := Pg.at (HS2.out.all 2 _ rfl) 5 (HF1.out 5 (by decide)) (by decide)
      have e5 := Pg.z (HS2.out.all 2 _ rfl) 5
      have HS3 : Hid (Spl w (w2.setCell ⟨w.heap.size, 5, none⟩ (.slice apo n n)) [.iv (.slice apo n n) (il n fun _ => 0), .cl bb (.int .i64 0), .pg w.heap.size (upd f1 5 (.slice apo n n))]) := HS2.out.setP 2 rfl 5 _ (by decide)
      clear hO hB hfr HS1
      have c57 := Pg.at (HS3.out.all 2 _ rfl) 57 ((upd_ne _ _ (by decide)).trans (HF1.out 57 (by decide))) (by decide)
      go_wp2_with fail
      clear c5 e5 HS2
      generalize w2.setCell ⟨w.heap.size, 5, none⟩ (.slice apo n n) = w3 at *
      refine Calls.mono (resize_int w3 n (by omega)) ?_
      rintro e w4 ⟨asl, rfl, hO, hB, hfr⟩
      have HS4 : Hid (Spl w w4 [.iv (.slice asl n n) (il n fun _ => 0), .iv (.slice apo n n) (il n fun _ => 0), .cl bb (.int .i64 0), .pg w.heap.size (upd f1 5 (.slice apo n n))]) := HS3.out.new hB hO fun g hg => (hfr g hg).1
      have c57 := Pg.at (HS4.out.all 3 _ rfl) 57 ((upd_ne _ _ (by decide)).trans (HF1.out 57 (by decide))) (by decide)
      have e57 := Pg.z (HS4.out.all 3 _ rfl) 57
      have HS5 : Hid (Spl w (w4.setCell ⟨w.heap.size, 57, none⟩ (.slice asl n n)) [.iv (.slice asl n n) (il n fun _ => 0), .iv (.slice apo n n) (il n fun _ => 0), .cl bb (.int .i64 0), .pg w.heap.size (upd (upd f1 5 (.slice apo n n)) 57 (.slice asl n n))]) := HS4.out.setP 3 rfl 57 _ (by decide)
      clear hO hB hfr HS3
      have c6 := Pg.at (HS5.out.all 3 _ rfl) 6 ((upd_ne _ _ (by decide)).trans ((upd_ne _ _ (by decide)).trans (HF1.out 6 (by decide)))) (by decide)
      go_wp2_with fail
      clear c57 e57 HS4
      generalize w4.setCell ⟨w.heap.size, 57, none⟩ (.slice asl n n) = w5 at *
      have e1n : ((n : Int) + 1) = ((n + 1 : Nat) : Int) := by omega
      rw [e1n]
      clear e1n
      refine Calls.mono (resize_int w5 (n + 1) (by omega)) ?_
      rintro e w6 ⟨aos, rfl, hO, hB, hfr⟩
      have HS6 : Hid (Spl w w6 [.iv (.slice aos (n + 1) (n + 1)) (il (n + 1) fun _ => 0), .iv (.slice asl n n) (il n fun _ => 0), .iv (.slice apo n n) (il n fun _ => 0), .cl bb (.int .i64 0), .pg w.heap.size (upd (upd f1 5 (.slice apo n n)) 57 (.slice asl n n))]) := HS5.out.new hB hO fun g hg => (hfr g hg).1
      have c6 := Pg.at (HS6.out.all 4 _ rfl) 6 ((upd_ne _ _ (by decide)).trans ((upd_ne _ _ (by decide)).trans (HF1.out 6 (by decide)))) (by decide)
      have e6 := Pg.z (HS6.out.all 4 _ rfl) 6
      obtain ⟨f2, hf2⟩ : ∃ f2, upd (upd (upd f1 5 (.slice apo n n)) 57 (.slice asl n n)) 6 (.slice aos (n + 1) (n + 1)) = f2 := ⟨_, rfl⟩
      have HS7 : Hid (Spl w (w6.setCell ⟨w.heap.size, 6, none⟩ (.slice aos (n + 1) (n + 1))) [.iv (.slice none 0 0) [], .iv (.slice aos (n + 1) (n + 1)) (il (n + 1) fun _ => 0), .iv (.slice asl n n) (il n fun _ => 0), .iv (.slice apo n n) (il n fun _ => 0), .cl bb (.int .i64 0), .pg w.heap.size f2]) := by
        rw [← hf2]
        exact (HS6.out.setP 4 rfl 6 _ (by decide)).add (r := .iv (.slice none 0 0) []) (OwnV.nil _ _) (fun g hg => by cases hg) (fun k x hx g hg => by cases hg)
      have HF3 : Hid (∀ i, i ≠ 110 → i ≠ 5 → i ≠ 57 → i ≠ 6 → f2 i = pgz.getD i undef) := fun i h0 h1 h2 h3 => by rw [← hf2, upd_ne _ _ h3, upd_ne _ _ h2, upd_ne _ _ h1]; exact HF1.out i h0
      have HF4 : Hid (f2 110 = .pointer (some ⟨bb, 0, none⟩) ∧ f2 5 = .slice apo n n ∧ f2 57 = .slice asl n n ∧ f2 6 = .slice aos (n + 1) (n + 1)) := by
        show _ ∧ _
        rw [← hf2]
        refine ⟨?_, ?_, ?_, upd_at _ _ _⟩
        · rw [upd_ne _ _ (by decide), upd_ne _ _ (by decide), upd_ne _ _ (by decide)]; exact HF2.out
        · rw [upd_ne _ _ (by decide), upd_ne _ _ (by decide), upd_at]
        · rw [upd_ne _ _ (by decide), upd_at]
      clear hO hB hfr HS5 hf2 HF1 HF2
      dsimp only
      go_upto_block 2 with fail
      clear c6 e6 HS6
      generalize w6.setCell ⟨w.heap.size, 6, none⟩ (.slice aos (n + 1) (n + 1)) = w7 at *
      go_cut [13, 14, 16] from 122 to 164 (fun x13 x14 x16 w8 => ∃ lv, x13 = lv ∧ Spl w w8 [.iv lv (ol (flat (Oo li z n) n)), .iv (.slice aos (n + 1) (n + 1)) (il (n + 1) fun v => if v < n then ((tot li v : Nat) : Int) else 0), .iv (.slice asl n n) (il n fun v => if v < n then -1 else 0), .iv (.slice apo n n) (il n fun v => if v < n then (v : Int) else 0), .cl bb (.int .i64 0), .pg w.heap.size f2])
      case first => as_aux_lemma =>
        go_wp2_with fail
        go_loopw [13, 14, 16] (fun x13 x14 x16 wr => ∃ (k : Nat) (lv : Value), k ≤ n ∧ x14 = .int .i64 k ∧ x13 = lv ∧ Spl w wr [.iv lv (ol (flat (Oo li z n) k)), .iv (.slice aos (n + 1) (n + 1)) (il (n + 1) fun v => if v < k then ((tot li v : Nat) : Int) else 0), .iv (.slice asl n n) (il n fun v => if v < k then -1 else 0), .iv (.slice apo n n) (il n fun v => if v < k then (v : Int) else 0), .cl bb (.int .i64 0), .pg w.heap.size f2]) (fun _ x _ _ => n - (intOf x).toNat)
        case atStart => exact ⟨0, _, Nat.zero_le _, rfl, rfl, HS7.out⟩
        case round => as_aux_lemma =>
          clear HS7 w7
          obtain ⟨k, lv, hk, rfl, rfl, hS⟩ := hrel
          have HS := (show Hid _ from hS)
          clear hS
          by_cases hkn : k < n
          · have hkn' : (k : Int) < (n : Int) := by omega
            have hkn2 : (k : Int) < (n : Int) + 1 := by omega
            obtain ⟨gp, cp', hp⟩ := Res.blockI (HS.out.all 3 _ rfl) (by omega)
            obtain ⟨gs, cs', hs⟩ := Res.blockI (HS.out.all 2 _ rfl) (by omega)
            obtain ⟨go, co', ho⟩ := Res.blockI (HS.out.all 1 _ rfl) (by omega)
            cases hp
            cases hs
            cases ho
            obtain ⟨alv, clv, hlv⟩ := OwnV.form' (HS.out.all 0 _ rfl)
            rw [ol_len, flat_len] at hlv
            have e9 : tot (fun v => (Oo li z n v).length) k = tot li k := tot_ext k fun i _ => Oo_len li z n i
            rw [e9] at hlv
            subst hlv
            have hTk : tot li k ≤ 65536 := Nat.le_trans (tot_mono li hk) HTT.out
            have c5 := Pg.at (HS.out.all 5 _ rfl) 5 HF4.out.2.1 (by decide)
            have c57 := Pg.at (HS.out.all 5 _ rfl) 57 HF4.out.2.2.1 (by decide)
            have c6 := Pg.at (HS.out.all 5 _ rfl) 6 HF4.out.2.2.2 (by decide)
            have p1 := Res.cellI (HS.out.all 3 _ rfl) hkn
            have p2 := Res.cellI (HS.out.all 2 _ rfl) hkn
            have p3 := Res.cellI (HS.out.all 1 _ rfl) (j := k) (by omega)
            have n1 := HS.out.ne 3 5 (by decide) rfl rfl (g := gp) rfl rfl
            have n2 := HS.out.ne 2 5 (by decide) rfl rfl (g := gs) rfl rfl
            have n3 := HS.out.ne 1 5 (by decide) rfl rfl (g := go) rfl rfl
            have m1 := HS.out.ne 5 3 (by decide) rfl rfl (k := gp) rfl rfl
            have m2 := HS.out.ne 5 2 (by decide) rfl rfl (k := gs) rfl rfl
            have m3 := HS.out.ne 5 1 (by decide) rfl rfl (k := go) rfl rfl
            have q1 := HS.out.ne 2 3 (by decide) rfl rfl (g := gs) (k := gp) rfl rfl
            have q2 := HS.out.ne 1 3 (by decide) rfl rfl (g := go) (k := gp) rfl rfl
            have q3 := HS.out.ne 1 2 (by decide) rfl rfl (g := go) (k := gs) rfl rfl
            obtain ⟨bo, oo, hao, hc⟩ := (HO.out.below HS.out.bel).at' (by omega)
            subst hao
            have hck := hc k hkn
            have hbo : bo < w.heap.size := by
              obtain ⟨b', o', h1, h2⟩ := HO.out.at' (by omega)
              cases h1
              exact ltc (h2 k hkn)
            have hb1 : bo ≠ gp := by have := HS.out.fr 3 _ rfl gp rfl; omega
            have hb2 : bo ≠ gs := by have := HS.out.fr 2 _ rfl gs rfl; omega
            have hb3 : bo ≠ go := by have := HS.out.fr 1 _ rfl go rfl; omega
            obtain ⟨p11, p12⟩ := p1
            obtain ⟨p21, p22⟩ := p2
            obtain ⟨p31, p32⟩ := p3
            clear hc
            obtain ⟨LT, hLT⟩ : ∃ LT, LT = [Res.iv (.slice (some ⟨go, 0, none⟩) (n + 1) (n + 1)) (il (n + 1) fun v => if v < k + 1 then ((tot li v : Nat) : Int) else 0), .iv (.slice (some ⟨gs, 0, none⟩) n n) (il n fun v => if v < k + 1 then -1 else 0), .iv (.slice (some ⟨gp, 0, none⟩) n n) (il n fun v => if v < k + 1 then (v : Int) else 0), .cl bb (.int .i64 0), .pg w.heap.size f2] := ⟨_, rfl⟩
            have HS1 : Hid (Spl w (((wr.setCell ⟨gp, k, none⟩ (.int .i64 k)).setCell ⟨gs, k, none⟩ (.int .i64 (-1))).setCell ⟨go, k, none⟩ (.int .i64 ((tot li k : Nat) : Int))) (.iv (.slice alv (tot li k) clv) (ol (flat (Oo li z n) k ++ (Oo li z n k).take 0)) :: LT)) := by
              rw [hLT]
              refine (((HS.out.setI 3 rfl k (k : Int)).setI 2 rfl k (-1)).setI 1 rfl k ((tot li k : Nat) : Int)).ext ?_
              simp only [List.set_cons_succ, List.set_cons_zero, List.take_zero, List.append_nil]
              have x1 : (il (n + 1) fun j => if j = k then ((tot li k : Nat) : Int) else if j < k then ((tot li j : Nat) : Int) else 0) = il (n + 1) fun v => if v < k + 1 then ((tot li v : Nat) : Int) else 0 := il_ext fun j _ => ite_next k j _ _ _ fun e => by rw [e]
              have x2 : (il n fun j => if j = k then (-1 : Int) else if j < k then -1 else 0) = il n fun v => if v < k + 1 then -1 else 0 := il_ext fun j _ => ite_next k j _ _ _ fun e => rfl
              have x3 : (il n fun j => if j = k then (k : Int) else if j < k then (j : Int) else 0) = il n fun v => if v < k + 1 then (v : Int) else 0 := il_ext fun j _ => ite_next k j _ _ _ fun e => by rw [e]
              rw [x1, x2, x3]
            have HLT := (show Hid _ from hLT)
            have hlk : li k ≤ 65536 := by
              have h1 := tot_mono li (m := k + 1) (n := n) (by omega)
              have h2 : tot li (k + 1) = tot li k + li k := rfl
              have h3 := HTT.out
              omega
            have HI1 : Hid (Rv w (ai k) (li k) (fun j => .int .u16 (z k j)) ∧ ∀ j, j < li k → 0 ≤ z k j ∧ z k j ≤ 65535) := HI.out k hkn
            clear hLT
            go_wp2_with fail
            clear HS c5 c57 c6 p11 p12 p21 p22 p31 p32 n1 n2 n3 m1 m2 m3 q1 q2 q3 hb1 hb2 hb3 hck
            generalize ((wr.setCell ⟨gp, k, none⟩ (.int .i64 k)).setCell ⟨gs, k, none⟩ (.int .i64 (-1))).setCell ⟨go, k, none⟩ (.int .i64 ((tot li k : Nat) : Int)) = w9 at *
            clear wr
            go_loopw [13, 16, 153] (fun x13 x16 x153 wr => ∃ (j : Nat) (lv : Value), j ≤ li k ∧ x153 = .int .i64 j ∧ x13 = lv ∧ Spl w wr (.iv lv (ol (flat (Oo li z n) k ++ (Oo li z n k).take j)) :: LT)) (fun _ _ x _ => li k - (intOf x).toNat)
            case atStart => exact ⟨0, _, Nat.zero_le _, rfl, rfl, HS1.out⟩
            case round => as_aux_lemma =>
              clear HS1 w9
              obtain ⟨j, lv, hj, rfl, rfl, hS⟩ := hrel
              have HS := (show Hid _ from hS)
              clear hS
              by_cases hjl : j < li k
              · have hjl' : (j : Int) < (li k : Int) := by omega
                obtain ⟨bi, oi, hai, hc⟩ := (HI1.out.1.below HS.out.bel).at' (by omega)
                have hcj := hc j hjl
                have hz := HI1.out.2 j hjl
                obtain ⟨x, hx⟩ : ∃ x, (z k j).toNat % n = x := ⟨_, rfl⟩
                have hx1 : z k j % (n : Int) = (x : Int) := by rw [modI hz.1, hx]
                have Hx := (show Hid _ from hx)
                obtain ⟨m, hm⟩ : ∃ m, (ol (flat (Oo li z n) k ++ (Oo li z n k).take j)).length = m := ⟨_, rfl⟩
                have hm2 : m ≤ 131072 := by
                  rw [← hm, ol_len, List.length_append, flat_len, tot_ext k (fun i _ => Oo_len li z n i), List.length_take, Oo_len]; omega
                obtain ⟨g1, cap1, w1, hrun, hown, hgrow, hpl⟩ := run_append_1 _ _ _ ((HS.out.alloc (.cells #[.int .i64 x] 3)).all 0 _ rfl) ⟨wr.heap.size, 0, none⟩ 1 (.int .i64 x) rfl (one_new _ _ _ _ rfl) (by rw [hm]; omega)
                rw [hm] at hrun hown
                have HX : Hid (Spl w w1 (.iv (.slice (some ⟨g1, 0, none⟩) (m + 1) cap1) (ol (flat (Oo li z n) k ++ (Oo li z n k).take (j + 1))) :: LT)) := by
                  refine (HS.out.alloc (.cells #[.int .i64 x] 3)).growI 0 rfl hgrow ?_ fun g hg => by
                    obtain rfl : g1 = g := by simpa [Value.ownBlock] using hg
                    exact hpl
                  rw [Oo_take hjl, hx, ← List.append_assoc, ol_snoc]
                  exact hown
                generalize z k j = zz at *
                rw [hai]
                have hn0 : (0 : Int) < (n : Int) := by omega
                clear hown hgrow hpl hm hx hc HI1
                obtain ⟨hz0, hz1⟩ := hz
                go_wp2_with fail
                exact ⟨⟨j + 1, _, by omega, by go_num, rfl, HX.out⟩, by simp only [intOf]; omega⟩
              · obtain rfl : li k = j := by omega
                have hjl' : ¬ (li k : Int) < (li k : Int) := by omega
                go_wp2_with fail
                refine ⟨⟨k + 1, _, by omega, by go_num, rfl, ?_⟩, by simp only [intOf]; omega⟩
                have h1 := HS.out
                rw [List.take_of_length_le (by rw [Oo_len]; exact Nat.le_refl _), HLT.out] at h1
                exact h1
          · obtain rfl : n = k := by omega
            have hkn' : ¬ (n : Int) < (n : Int) := by omega
            go_wp2_with fail
            go_meet
            case rel => exact ⟨_, rfl, HS.out⟩
      case rest => as_aux_lemma =>
        obtain ⟨lv, hlv, hS⟩ := hcut
        clear HS7
        obtain ⟨alv, clv, hform⟩ := OwnV.form' (hS.all 0 _ rfl)
        rw [ol_len, flat_len, tot_ext n (fun i _ => Oo_len li z n i)] at hform
        rw [hform] at hlv hS
        rw [hlv]
        clear hlv hform
        obtain ⟨go, co', ho⟩ := Res.blockI (hS.all 1 _ rfl) (by omega)
        cases ho
        have HS8 := (show Hid _ from hS)
        have HT2 : Hid (T = tot li n) := HTe.out
        have p1 := Res.cellI (hS.all 1 _ rfl) (j := n) (by omega)
        obtain ⟨p11, p12⟩ := p1
        have c6 := Pg.at (hS.all 5 _ rfl) 6 HF4.out.2.2.2 (by decide)
        have c7 := Pg.at (hS.all 5 _ rfl) 7 (HF3.out 7 (by decide) (by decide) (by decide) (by decide)) (by decide)
        have e7 := Pg.z (hS.all 5 _ rfl) 7
        have n1 := hS.ne 1 5 (by decide) rfl rfl (g := go) rfl rfl
        have n2 := hS.ne 5 1 (by decide) rfl rfl (k := go) rfl rfl
        have htt : tot li n ≤ 65536 := HTT.out
        clear hS
        have hnn : (n : Int) < (n : Int) + 1 := by omega
        obtain ⟨f3, hf3⟩ : ∃ f3, upd f2 7 (.slice alv (tot li n) clv) = f3 := ⟨_, rfl⟩
        have HS9 : Hid (Spl w ((wc.setCell ⟨go, n, none⟩ (.int .i64 ((tot li n : Nat) : Int))).setCell ⟨w.heap.size, 7, none⟩ (.slice alv (tot li n) clv)) [.iv (.slice none 0 0) (ol []), .iv (.slice alv (tot li n) clv) (ol (flat (Oo li z n) n)), .iv (.slice (some ⟨go, 0, none⟩) (n + 1) (n + 1)) (il (n + 1) fun v => ((tot (fun v => (Oo li z n v).length) v : Nat) : Int)), .iv (.slice asl n n) (il n fun _ => -1), .iv (.slice apo n n) (il n fun v => (v : Int)), .cl bb (.int .i64 0), .pg w.heap.size f3]) := by
          rw [← hf3]
          refine Spl.add (r := .iv (.slice none 0 0) (ol [])) ?_ (OwnV.nil _ _) (fun g hg => by cases hg) (fun k x hx g hg => by cases hg)
          refine ((HS8.out.setI 1 rfl n ((tot li n : Nat) : Int)).setP 5 rfl 7 _ (by decide)).ext ?_
          simp only [List.set_cons_succ, List.set_cons_zero]
          have x1 : (il (n + 1) fun j => if j = n then ((tot li n : Nat) : Int) else if j < n then ((tot li j : Nat) : Int) else 0) = il (n + 1) fun v => ((tot (fun v => (Oo li z n v).length) v : Nat) : Int) := il_ext fun j hj => by
            rw [tot_ext j (fun i _ => Oo_len li z n i)]
            by_cases e : j = n
            · rw [if_pos e, e]
            · rw [if_neg e, if_pos (by omega)]
          have x2 : (il n fun v => if v < n then (-1 : Int) else 0) = il n fun _ => -1 := il_ext fun j hj => if_pos hj
          have x3 : (il n fun v => if v < n then (v : Int) else 0) = il n fun v => (v : Int) := il_ext fun j hj => if_pos hj
          rw [x1, x2, x3]
        have HF5 : Hid (∀ i, i ≠ 110 → i ≠ 5 → i ≠ 57 → i ≠ 6 → i ≠ 7 → f3 i = pgz.getD i undef) := fun i h0 h1 h2 h3 h4 => by rw [← hf3, upd_ne _ _ h4]; exact HF3.out i h0 h1 h2 h3
        have HF6 : Hid (f3 110 = .pointer (some ⟨bb, 0, none⟩) ∧ f3 5 = .slice apo n n ∧ f3 57 = .slice asl n n ∧ f3 6 = .slice (some ⟨go, 0, none⟩) (n + 1) (n + 1) ∧ f3 7 = .slice alv (tot li n) clv) := by
          show _ ∧ _
          rw [← hf3]
          refine ⟨?_, ?_, ?_, ?_, upd_at _ _ _⟩
          · rw [upd_ne _ _ (by decide)]; exact HF4.out.1
          · rw [upd_ne _ _ (by decide)]; exact HF4.out.2.1
          · rw [upd_ne _ _ (by decide)]; exact HF4.out.2.2.1
          · rw [upd_ne _ _ (by decide)]; exact HF4.out.2.2.2
        clear HS8 hf3 HF3 HF4
        go_upto_block 6 with (at_make; refine wpList_make_v _ rfl _ _ 22 rfl 3 i3 (.int .i64 0) Yba.underlying22 J3.out.1 J3.out.2.1 J3.out.2.2.1 rfl _ _ _ _ n n rfl rfl rfl rfl (Nat.le_refl _) (by rw [J3.out.2.2.2]; omega) (by omega) ?_)
        have hsz : ((wc.setCell ⟨go, n, none⟩ (.int .i64 ((tot li n : Nat) : Int))).setCell ⟨w.heap.size, 7, none⟩ (.slice alv (tot li n) clv)).heap.size = wc.heap.size := by simp [World.setCell]
        clear p11 p12 c6 c7 e7 n1 n2
        generalize (wc.setCell ⟨go, n, none⟩ (.int .i64 ((tot li n : Nat) : Int))).setCell ⟨w.heap.size, 7, none⟩ (.slice alv (tot li n) clv) = w9 at *
        obtain ⟨LB, hLB⟩ : ∃ LB, LB = [Res.iv (.slice alv (tot li n) clv) (ol (flat (Oo li z n) n)), .iv (.slice (some ⟨go, 0, none⟩) (n + 1) (n + 1)) (il (n + 1) fun v => ((tot (fun v => (Oo li z n v).length) v : Nat) : Int)), .iv (.slice asl n n) (il n fun _ => -1), .iv (.slice apo n n) (il n fun v => (v : Int)), .cl bb (.int .i64 0), .pg w.heap.size f3] := ⟨_, rfl⟩
        have HLB := (show Hid _ from hLB)
        rw [← hLB] at HS9
        clear hLB
        have HSA : Hid (Spl w (w9.alloc (Obj.cells (Array.replicate n (Value.int IntKind.i64 0)) 3)) (.iv (.slice (some ⟨wc.heap.size, 0, none⟩) n n) (il n fun v => if v < 0 then -1 else 0) :: .iv (.slice none 0 0) (ol []) :: LB)) := by
          rw [← hsz]
          exact HS9.out.new ((Below.refl _ _).alloc (Nat.le_refl _) _) (r := .iv (.slice (some ⟨w9.heap.size, 0, none⟩) n n) (il n fun v => if v < 0 then -1 else 0)) (made_il w9 n (by omega) _ (fun _ _ => rfl)) (fun g hg => by cases hg; exact Nat.le_refl _)
        generalize w9.alloc (Obj.cells (Array.replicate n (Value.int IntKind.i64 0)) 3) = w10 at *
        generalize wc.heap.size = gso at *
        clear HS9 hsz w9 wc
        go_cut [19] from 179 to 186 (fun x19 w8 => Spl w w8 (.iv (.slice (some ⟨gso, 0, none⟩) n n) (il n fun v => ixo [] v) :: .iv (.slice none 0 0) (ol []) :: LB))
        case first => as_aux_lemma =>
          go_wp2_with fail
          go_loopw [19] (fun x19 wr => ∃ k : Nat, k ≤ n ∧ x19 = .int .i64 k ∧ Spl w wr (.iv (.slice (some ⟨gso, 0, none⟩) n n) (il n fun v => if v < k then -1 else 0) :: .iv (.slice none 0 0) (ol []) :: LB)) (fun x _ => n - (intOf x).toNat)
          case atStart => exact ⟨0, Nat.zero_le _, rfl, HSA.out⟩
          case round => as_aux_lemma =>
            clear HSA w10
            obtain ⟨k, hk, rfl, hS⟩ := hrel
            have HS := (show Hid _ from hS)
            clear hS
            by_cases hkn : k < n
            · have hkn' : (k : Int) < (n : Int) := by omega
              have p1 := Res.cellI (HS.out.all 0 _ rfl) hkn
              obtain ⟨p11, p12⟩ := p1
              go_wp2_with fail
              refine ⟨⟨k + 1, by omega, by go_num, (HS.out.setI 0 rfl k (-1)).ext ?_⟩, by simp only [intOf]; omega⟩
              simp only [List.set_cons_zero]
              rw [show (il n fun j => if j = k then (-1 : Int) else if j < k then -1 else 0) = il n fun v => if v < k + 1 then -1 else 0 from il_ext fun j _ => ite_next k j _ _ _ fun _ => rfl]
            · obtain rfl : n = k := by omega
              have hkn' : ¬ (n : Int) < (n : Int) := by omega
              go_wp2_with fail
              go_meet
              case rel =>
                refine HS.out.ext ?_
                rw [show (il n fun v => if v < n then (-1 : Int) else 0) = il n fun v => ixo [] v from il_ext fun j hj => by rw [if_pos hj]; simp [ixo]]
        case rest => as_aux_lemma =>
          have HSB := (show Hid _ from hcut)
          clear hcut HSA w10
          go_upto_if 188 with fail
          go_cut [17, 21, 22] from 188 to 213 (fun x17 x21 x22 w8 => ∃ th : List Nat, th.Nodup ∧ (∀ v, v ∈ th → v < n) ∧ Spl w w8 (.iv (.slice (some ⟨gso, 0, none⟩) n n) (il n fun v => ixo th v) :: .iv x17 (ol th) :: LB))
          case first => as_aux_lemma =>
            by_cases hn0 : n = 0
            · subst hn0
              go_wp2_with fail
              go_meet
              case rel => exact ⟨[], List.nodup_nil, fun v hv => by simp at hv, HSB.out⟩
            · have hn1 : (0 : Int) < (n : Int) := by omega
              clear hn0
              go_wp2_with fail
              go_loopw [17, 21, 22, 191] (fun x17 x21 x22 x191 wr => ∃ (k : Nat) (th : List Nat), k ≤ lp ∧ x191 = .int .i64 k ∧ th.Nodup ∧ (∀ v, v ∈ th → v < n) ∧ Spl w wr (.iv (.slice (some ⟨gso, 0, none⟩) n n) (il n fun v => ixo th v) :: .iv x17 (ol th) :: LB)) (fun _ _ _ x _ => lp - (intOf x).toNat)
              case atStart => exact ⟨0, [], Nat.zero_le _, rfl, List.nodup_nil, fun v hv => by simp at hv, HSB.out⟩
              case round => as_aux_lemma =>
                clear HSB
                obtain ⟨k, th, hk, rfl, hnd, hlt, hS⟩ := hrel
                have HS := (show Hid _ from hS)
                have HND := (show Hid _ from And.intro hnd hlt)
                clear hS hnd hlt
                by_cases hkl : k < lp
                · have hkl' : (k : Int) < (lp : Int) := by omega
                  obtain ⟨bp, op, hap, hc⟩ := (HPk.out.1.below HS.out.bel).at' (by omega)
                  subst hap
                  have hck := hc k hkl
                  have hz := HPk.out.2 k hkl
                  obtain ⟨x, hx⟩ : ∃ x, (zp k).toNat % n = x := ⟨_, rfl⟩
                  have hx1 : zp k % (n : Int) = (x : Int) := by rw [modI hz.1, hx]
                  have hxn : x < n := by rw [← hx]; exact Nat.mod_lt _ (by omega)
                  have hxn' : (x : Int) < (n : Int) := by omega
                  obtain ⟨p11, p12⟩ := Res.cellI (HS.out.all 0 _ rfl) hxn
                  obtain ⟨hz0, hz1⟩ := hz
                  clear hc hx
                  generalize zp k = zz at *
                  by_cases hin : x ∈ th
                  · rw [ixo_in hin] at p11
                    have hge : ¬ ((th.idxOf x : Nat) : Int) < 0 := by omega
                    clear hin
                    go_wp2_with fail
                    exact ⟨⟨k + 1, th, by omega, by go_num, HND.out.1, HND.out.2, HS.out⟩, by simp only [intOf]; omega⟩
                  · rw [ixo_out hin] at p11
                    have Hin := (show Hid _ from hin)
                    clear hin
                    obtain ⟨at', ct, hform⟩ := OwnV.form' (HS.out.all 1 _ rfl)
                    rw [ol_len] at hform
                    rw [hform] at HS ⊢
                    obtain ⟨t, ht⟩ : ∃ t, th.length = t := ⟨_, rfl⟩
                    have htn : t ≤ n := by rw [← ht]; exact nodup_le HND.out.1 HND.out.2
                    rw [ht] at HS ⊢
                    have HS1 := (show Hid _ from HS.out.setI 0 rfl x (t : Int))
                    obtain ⟨g1, cap1, w1, hrun, hown, hgrow, hpl⟩ := run_append_1 _ _ _ ((HS1.out.alloc (.cells #[.int .i64 x] 3)).all 1 _ rfl) ⟨(wr.setCell ⟨gso, x, none⟩ (.int .i64 (t : Int))).heap.size, 0, none⟩ 1 (.int .i64 x) rfl (one_new _ _ _ _ rfl) (by rw [ol_len]; omega)
                    rw [ol_len, ht] at hrun hown
                    have hsz : (wr.setCell ⟨gso, x, none⟩ (.int .i64 (t : Int))).heap.size = wr.heap.size := by simp [World.setCell]
                    rw [hsz] at hrun
                    have HX : Hid (Spl w w1 (.iv (.slice (some ⟨gso, 0, none⟩) n n) (il n fun v => ixo (th ++ [x]) v) :: .iv (.slice (some ⟨g1, 0, none⟩) (t + 1) cap1) (ol (th ++ [x])) :: LB)) := by
                      refine ((HS1.out.alloc (.cells #[.int .i64 x] 3)).growI 1 rfl hgrow hown fun g hg => by
                        obtain rfl : g1 = g := by simpa [Value.ownBlock] using hg
                        exact hpl).ext ?_
                      simp only [List.set_cons_succ, List.set_cons_zero]
                      rw [ol_snoc, show (il n fun k => if k = x then (t : Int) else ixo th k) = il n fun v => ixo (th ++ [x]) v from il_ext fun j _ => by rw [ixo_snoc Hin.out, ht]]
                    have HND2 : Hid ((th ++ [x]).Nodup ∧ ∀ v, v ∈ th ++ [x] → v < n) := by
                      refine ⟨?_, fun v hv => ?_⟩
                      · rw [List.nodup_append]
                        exact ⟨HND.out.1, by simp, fun a ha b hb => by simp at hb; subst hb; intro e; subst e; exact Hin.out ha⟩
                      · rcases List.mem_append.1 hv with h | h
                        · exact HND.out.2 v h
                        · simp at h; rw [h]; exact hxn
                    clear hown hgrow hpl hsz ht hform
                    go_wp2_with fail
                    exact ⟨⟨k + 1, th ++ [x], by omega, by go_num, HND2.out.1, HND2.out.2, HX.out⟩, by simp only [intOf]; omega⟩
                · obtain rfl : lp = k := by omega
                  have hkl' : ¬ (lp : Int) < (lp : Int) := by omega
                  go_wp2_with fail
                  go_meet
                  case rel => exact ⟨th, HND.out.1, HND.out.2, HS.out⟩
          case rest => as_aux_lemma =>
            obtain ⟨th, hnd, hlt, hS⟩ := hcut
            have HND := (show Hid _ from And.intro hnd hlt)
            obtain ⟨at', ct, hform⟩ := OwnV.form' (hS.all 1 _ rfl)
            obtain ⟨t, ht⟩ : ∃ t, th.length = t := ⟨_, rfl⟩
            have htn : t ≤ n := by rw [← ht]; exact nodup_le hnd hlt
            rw [ol_len, ht] at hform
            rw [hform] at hS ⊢
            rw [HLB.out] at hS
            have HS := (show Hid _ from hS)
            have Hth := (show Hid _ from ht)
            have c56 := Pg.at (hS.all 7 _ rfl) 56 (HF5.out 56 (by decide) (by decide) (by decide) (by decide) (by decide)) (by decide)
            have e56 := Pg.z (hS.all 7 _ rfl) 56
            have c41 := Pg.at (hS.all 7 _ rfl) 41 (HF5.out 41 (by decide) (by decide) (by decide) (by decide) (by decide)) (by decide)
            have HS1 := (show Hid _ from hS.setP 7 rfl 56 (.slice at' t ct) (by decide))
            clear hnd hlt hform ht hS HSB HLB LB
            go_wp2_with fail
            clear c56 e56 c41 HS
            generalize wc.setCell ⟨w.heap.size, 56, none⟩ (.slice at' t ct) = w11 at *
            refine Calls.mono (resize_pairs w11 lq (by omega)) ?_
            rintro e w12 ⟨apr, rfl, hB⟩
            have HS2 := (show Hid _ from HS1.out.below hB)
            have c41 := Pg.at (HS2.out.all 7 _ rfl) 41 ((upd_ne _ _ (by decide)).trans (HF5.out 41 (by decide) (by decide) (by decide) (by decide) (by decide))) (by decide)
            have e41 := Pg.z (HS2.out.all 7 _ rfl) 41
            have c47 := Pg.at (HS2.out.all 7 _ rfl) 47 ((upd_ne _ _ (by decide)).trans (HF5.out 47 (by decide) (by decide) (by decide) (by decide) (by decide))) (by decide)
            have HS3 := (show Hid _ from HS2.out.setP 7 rfl 41 (.slice apr lq lq) (by decide))
            clear hB HS1
            go_wp2_with fail
            clear c41 e41 c47 HS2
            generalize w12.setCell ⟨w.heap.size, 41, none⟩ (.slice apr lq lq) = w13 at *
            refine Calls.mono (resize_bool w13 lq (by omega)) ?_
            rintro e w14 ⟨aqd, rfl, hO, hB, hfr⟩
            have HS4 := (show Hid _ from HS3.out.new hB (r := .bv (.slice aqd lq lq) (bl lq fun _ => false)) hO fun g hg => (hfr g hg).1)
            have c47 := Pg.at (HS4.out.all 8 _ rfl) 47 ((upd_ne _ _ (by decide)).trans ((upd_ne _ _ (by decide)).trans (HF5.out 47 (by decide) (by decide) (by decide) (by decide) (by decide)))) (by decide)
            have e47 := Pg.z (HS4.out.all 8 _ rfl) 47
            obtain ⟨f5, hf5⟩ : ∃ f5, upd (upd (upd f3 56 (.slice at' t ct)) 41 (.slice apr lq lq)) 47 (.slice aqd lq lq) = f5 := ⟨_, rfl⟩
            have HF7 : Hid (∀ i, i ≠ 110 → i ≠ 5 → i ≠ 57 → i ≠ 6 → i ≠ 7 → i ≠ 56 → i ≠ 41 → i ≠ 47 → f5 i = pgz.getD i undef) := fun i h0 h1 h2 h3 h4 h5 h6 h7 => by rw [← hf5, upd_ne _ _ h7, upd_ne _ _ h6, upd_ne _ _ h5]; exact HF5.out i h0 h1 h2 h3 h4
            have HF8 : Hid (f5 110 = .pointer (some ⟨bb, 0, none⟩) ∧ f5 5 = .slice apo n n ∧ f5 57 = .slice asl n n ∧ f5 6 = .slice (some ⟨go, 0, none⟩) (n + 1) (n + 1) ∧ f5 7 = .slice alv (tot li n) clv ∧ f5 56 = .slice at' t ct ∧ f5 41 = .slice apr lq lq ∧ f5 47 = .slice aqd lq lq) := by
              show _ ∧ _
              rw [← hf5]
              refine ⟨?_, ?_, ?_, ?_, ?_, ?_, ?_, upd_at _ _ _⟩
              · rw [upd_ne _ _ (by decide), upd_ne _ _ (by decide), upd_ne _ _ (by decide)]; exact HF6.out.1
              · rw [upd_ne _ _ (by decide), upd_ne _ _ (by decide), upd_ne _ _ (by decide)]; exact HF6.out.2.1
              · rw [upd_ne _ _ (by decide), upd_ne _ _ (by decide), upd_ne _ _ (by decide)]; exact HF6.out.2.2.1
              · rw [upd_ne _ _ (by decide), upd_ne _ _ (by decide), upd_ne _ _ (by decide)]; exact HF6.out.2.2.2.1
              · rw [upd_ne _ _ (by decide), upd_ne _ _ (by decide), upd_ne _ _ (by decide)]; exact HF6.out.2.2.2.2
              · rw [upd_ne _ _ (by decide), upd_ne _ _ (by decide), upd_at]
              · rw [upd_ne _ _ (by decide), upd_at]
            obtain ⟨LC, hLC⟩ : ∃ LC, LC = [Res.iv (.slice (some ⟨gso, 0, none⟩) n n) (il n fun v => ixo th v), .iv (.slice at' t ct) (ol th), .iv (.slice alv (tot li n) clv) (ol (flat (Oo li z n) n)), .iv (.slice (some ⟨go, 0, none⟩) (n + 1) (n + 1)) (il (n + 1) fun v => ((tot (fun v => (Oo li z n v).length) v : Nat) : Int)), .iv (.slice asl n n) (il n fun _ => -1), .iv (.slice apo n n) (il n fun v => (v : Int)), .cl bb (.int .i64 0)] := ⟨_, rfl⟩
            have HS5 : Hid (Spl w (w14.setCell ⟨w.heap.size, 47, none⟩ (.slice aqd lq lq)) (.pg w.heap.size f5 :: .iv (.slice none 0 0) (il 0 zu) :: .bv (.slice aqd lq lq) (bl lq fun i => if i < 0 then B i else false) :: LC)) := by
              rw [← hf5, hLC]
              exact Spl.rot (L := [.iv (.slice none 0 0) (il 0 zu), .bv (.slice aqd lq lq) (bl lq fun _ => false), .iv (.slice (some ⟨gso, 0, none⟩) n n) (il n fun v => ixo th v), .iv (.slice at' t ct) (ol th), .iv (.slice alv (tot li n) clv) (ol (flat (Oo li z n) n)), .iv (.slice (some ⟨go, 0, none⟩) (n + 1) (n + 1)) (il (n + 1) fun v => ((tot (fun v => (Oo li z n v).length) v : Nat) : Int)), .iv (.slice asl n n) (il n fun _ => -1), .iv (.slice apo n n) (il n fun v => (v : Int)), .cl bb (.int .i64 0)]) (Spl.add (r := .iv (.slice none 0 0) (il 0 zu)) (HS4.out.setP 8 rfl 47 (.slice aqd lq lq) (by decide)) (OwnV.nil _ _) (fun g hg => by cases hg) (fun k x hx g hg => by cases hg))
            have HLC := (show Hid _ from hLC)
            clear hO hB hfr HS3 hf5 HF5 HF6 hLC
            dsimp only
            go_upto_block 10 with fail
            clear c47 e47 HS4
            generalize w14.setCell ⟨w.heap.size, 47, none⟩ (.slice aqd lq lq) = w15 at *
            go_cut [23, 24] from 240 to 252 (fun x23 x24 w8 => Spl w w8 (.pg w.heap.size f5 :: .iv (.slice none 0 0) (il 0 zu) :: .bv (.slice aqd lq lq) (bl lq fun i => B i) :: LC))
            case first => as_aux_lemma =>
              go_wp2_with fail
              go_loopw [23, 24, 240] (fun x23 x24 x240 wr => ∃ k : Nat, k ≤ lq ∧ x240 = .int .i64 k ∧ Spl w wr (.pg w.heap.size f5 :: .iv (.slice none 0 0) (il 0 zu) :: .bv (.slice aqd lq lq) (bl lq fun i => if i < k then B i else false) :: LC)) (fun _ _ x _ => lq - (intOf x).toNat)
              case atStart => exact ⟨0, Nat.zero_le _, rfl, HS5.out⟩
              case round => as_aux_lemma =>
                clear HS5 w15
                obtain ⟨k, hk, rfl, hS⟩ := hrel
                have HS := (show Hid _ from hS)
                clear hS
                by_cases hkn : k < lq
                · have hkn' : (k : Int) < (lq : Int) := by omega
                  obtain ⟨gq, cq', hgq⟩ := Res.blockB (HS.out.all 2 _ rfl) (by omega)
                  cases hgq
                  obtain ⟨p11, p12⟩ := Res.cellB (HS.out.all 2 _ rfl) hkn
                  obtain ⟨bq, oq, haq, hc⟩ := (HQd.out.below HS.out.bel).at' (by omega)
                  subst haq
                  have hck := hc k hkn
                  have c47 := Pg.at (HS.out.all 0 _ rfl) 47 HF8.out.2.2.2.2.2.2.2 (by decide)
                  clear hc
                  go_wp2_with fail
                  refine ⟨⟨k + 1, by omega, by go_num, (HS.out.setB 2 rfl k (B k)).ext ?_⟩, by simp only [intOf]; omega⟩
                  simp only [List.set_cons_succ, List.set_cons_zero]
                  rw [show (bl lq fun j => if j = k then B k else if j < k then B j else false) = bl lq fun v => if v < k + 1 then B v else false from bl_ext fun j _ => ite_next k j _ _ _ fun e => by rw [e]]
                · obtain rfl : lq = k := by omega
                  have hkn' : ¬ (lq : Int) < (lq : Int) := by omega
                  go_wp2_with fail
                  go_meet
                  case rel =>
                    refine HS.out.ext ?_
                    rw [show (bl lq fun v => if v < lq then B v else false) = bl lq fun v => B v from bl_ext fun j hj => if_pos hj]
            case rest => as_aux_lemma =>
              have HS6 := (show Hid _ from hcut)
              clear hcut HS5 w15
              have Hnil : Hid (upd f5 46 (.slice none 0 0) = f5) := upd_self (HF7.out 46 (by decide) (by decide) (by decide) (by decide) (by decide) (by decide) (by decide) (by decide))
              go_upto_block 12 with fail
              go_cut [26] from 255 to 269 (fun x26 w8 => ∃ qv, Spl w w8 (.pg w.heap.size (upd f5 46 qv) :: .iv qv (il lu zu) :: .bv (.slice aqd lq lq) (bl lq fun i => B i) :: LC))
              case first => as_aux_lemma =>
                go_wp2_with fail
                go_loopw [26, 255] (fun x26 x255 wr => ∃ (k : Nat) (qv : Value), k ≤ lu ∧ x255 = .int .i64 k ∧ Spl w wr (.pg w.heap.size (upd f5 46 qv) :: .iv qv (il k zu) :: .bv (.slice aqd lq lq) (bl lq fun i => B i) :: LC)) (fun _ x _ => lu - (intOf x).toNat)
                case atStart => exact ⟨0, _, Nat.zero_le _, rfl, by rw [Hnil.out]; exact HS6.out⟩
                case round => as_aux_lemma =>
                  clear HS6
                  obtain ⟨k, qv, hk, rfl, hS⟩ := hrel
                  have HS := (show Hid _ from hS)
                  clear hS
                  by_cases hkn : k < lu
                  · have hkn' : (k : Int) < (lu : Int) := by omega
                    obtain ⟨bu, ou, hau, hc⟩ := (HQu.out.below HS.out.bel).at' (by omega)
                    subst hau
                    have hck := hc k hkn
                    obtain ⟨x, hx⟩ : ∃ x, zu k = x := ⟨_, rfl⟩
                    rw [hx] at hck
                    have Hx := (show Hid _ from hx)
                    have c46 := Pg.at (HS.out.all 0 _ rfl) 46 (upd_at _ _ _) (by decide)
                    have hb0 : w.heap.size < wr.heap.size := Pg.lt (HS.out.all 0 _ rfl)
                    obtain ⟨g1, cap1, w1, hrun, hown, hgrow, hpl⟩ := run_append_1 _ qv _ ((HS.out.alloc (.cells #[.int .i64 x] 3)).all 1 _ rfl) ⟨wr.heap.size, 0, none⟩ 1 (.int .i64 x) rfl (one_new _ _ _ _ rfl) (by rw [il_len]; omega)
                    rw [il_len] at hrun hown
                    have HX := (show Hid _ from (HS.out.alloc (.cells #[.int .i64 x] 3)).growI 1 rfl hgrow hown fun g hg => by
                      obtain rfl : g1 = g := by simpa [Value.ownBlock] using hg
                      exact hpl)
                    have d46 := Pg.at (HX.out.all 0 _ rfl) 46 (upd_at _ _ _) (by decide)
                    have e46 := Pg.z (HX.out.all 0 _ rfl) 46
                    clear hown hgrow hpl hx hc
                    go_wp2_with fail
                    refine ⟨⟨k + 1, .slice (some ⟨g1, 0, none⟩) (k + 1) cap1, by omega, by go_num, (HX.out.setP 0 rfl 46 (.slice (some ⟨g1, 0, none⟩) (k + 1) cap1) (by decide)).ext ?_⟩, by simp only [intOf]; omega⟩
                    simp only [List.set_cons_succ, List.set_cons_zero]
                    rw [upd_upd, il_snoc, Hx.out]
                  · obtain rfl : lu = k := by omega
                    have hkn' : ¬ (lu : Int) < (lu : Int) := by omega
                    go_wp2_with fail
                    go_meet
                    case rel => exact ⟨qv, HS.out⟩
              case rest => as_aux_lemma =>
                obtain ⟨qv, hS⟩ := hcut
                clear HS6 Hnil
                rw [HLC.out] at hS
                clear HLC
                obtain ⟨i4, a4, b4, c4, d4⟩ := info_parts info4
                have J4 := (show Hid _ from And.intro a4 (And.intro b4 (And.intro c4 d4)))
                clear a4 b4 c4 d4
                obtain ⟨tt, htt2⟩ : ∃ tt, t * t = tt := ⟨_, rfl⟩
                have httb : tt ≤ 1000000 := by rw [← htt2]; exact Nat.mul_le_mul (show t ≤ 1000 by omega) (show t ≤ 1000 by omega)
                have HWW : Hid (wrap64 ((t : Int) * (t : Int)) = (tt : Int)) := by
                  show _ = _
                  rw [wrap64_ok _ (by rw [← Int.natCast_mul, htt2]; omega), ← Int.natCast_mul, htt2]
                have Htt := (show Hid _ from htt2)
                clear htt2
                obtain ⟨LD, hLD⟩ : ∃ LD, LD = [Res.pg w.heap.size (upd f5 46 qv), .iv qv (il lu zu), .bv (.slice aqd lq lq) (bl lq fun i => B i), .iv (.slice alv (tot li n) clv) (ol (flat (Oo li z n) n)), .iv (.slice (some ⟨go, 0, none⟩) (n + 1) (n + 1)) (il (n + 1) fun v => ((tot (fun v => (Oo li z n v).length) v : Nat) : Int)), .iv (.slice asl n n) (il n fun _ => -1), .iv (.slice apo n n) (il n fun v => (v : Int)), .cl bb (.int .i64 0)] := ⟨_, rfl⟩
                have HS7 : Hid (Spl w wc (.av (.slice none 0 0) [] :: .iv (.slice (some ⟨gso, 0, none⟩) n n) (il n fun v => ixo th v) :: .iv (.slice at' t ct) (ol th) :: LD)) := by
                  rw [hLD]
                  refine Spl.add (r := .av (.slice none 0 0) []) ?_ (OwnA.nil _) (fun g hg => by cases hg) (fun k x hx g hg => by cases hg)
                  exact hS.perm (List.Perm.append_right _ (List.perm_append_comm (l₁ := [_, _, _]) (l₂ := [_, _])))
                have HLD := (show Hid _ from hLD)
                clear hLD hS
                go_upto_block 14 with (first | (at_make; refine wpList_make_v _ rfl _ _ 28 rfl 4 i4 (.bool false) Yba.underlying28 J4.out.1 J4.out.2.1 J4.out.2.2.1 rfl _ _ _ _ tt tt rfl rfl HWW.out HWW.out (Nat.le_refl _) (by rw [J4.out.2.2.2]; omega) (by omega) ?_) | (at_make; refine wpList_make_v _ rfl _ _ 22 rfl 3 i3 (.int .i64 0) Yba.underlying22 J3.out.1 J3.out.2.1 J3.out.2.2.1 rfl _ _ _ _ t t rfl rfl rfl rfl (Nat.le_refl _) (by rw [J3.out.2.2.2]; omega) (by omega) ?_))
                have HS8 : Hid (Spl w ((wc.alloc (Obj.cells (Array.replicate tt (Value.bool false)) 4)).alloc (Obj.cells (Array.replicate t (Value.int IntKind.i64 0)) 3)) (.iv (.slice (some ⟨wc.heap.size + 1, 0, none⟩) t t) (il t (dI (arcsA (Oo li z n) th 0) t)) :: .bv (.slice (some ⟨wc.heap.size, 0, none⟩) tt tt) (bl tt (mB (arcsA (Oo li z n) th 0) t)) :: .av (.slice none 0 0) (arcsA (Oo li z n) th 0) :: .iv (.slice (some ⟨gso, 0, none⟩) n n) (il n fun v => ixo th v) :: .iv (.slice at' t ct) (ol th) :: LD)) := by
                  have h1 := HS7.out.new ((Below.refl _ _).alloc (Nat.le_refl _) (Obj.cells (Array.replicate tt (Value.bool false)) 4)) (r := .bv (.slice (some ⟨wc.heap.size, 0, none⟩) tt tt) (bl tt (mB [] t))) (made_bl wc tt (by omega) _ (fun c _ => mB_nil t c)) (fun g hg => by cases hg; exact Nat.le_refl _)
                  have h2 := h1.new ((Below.refl _ _).alloc (Nat.le_refl _) (Obj.cells (Array.replicate t (Value.int IntKind.i64 0)) 3)) (r := .iv (.slice (some ⟨(wc.alloc (Obj.cells (Array.replicate tt (Value.bool false)) 4)).heap.size, 0, none⟩) t t) (il t (dI [] t))) (made_il _ t (by omega) _ (fun s _ => dI_nil t s)) (fun g hg => by cases hg; exact Nat.le_refl _)
                  rw [show (wc.alloc (Obj.cells (Array.replicate tt (Value.bool false)) 4)).heap.size = wc.heap.size + 1 by simp] at h2
                  exact h2
                clear HS7
                generalize (wc.alloc (Obj.cells (Array.replicate tt (Value.bool false)) 4)).alloc (Obj.cells (Array.replicate t (Value.int IntKind.i64 0)) 3) = w16 at *
                obtain ⟨gi, hgi⟩ : ∃ gi, wc.heap.size + 1 = gi := ⟨_, rfl⟩
                rw [hgi] at HS8 ⊢
                clear hgi
                generalize wc.heap.size = gm at *
                clear wc
                go_cut [28, 31, 33, 34] from 278 to 332 (fun x28 x31 x33 x34 w8 => Spl w w8 (.iv (.slice (some ⟨gi, 0, none⟩) t t) (il t (dI (arcsA (Oo li z n) th t) t)) :: .bv (.slice (some ⟨gm, 0, none⟩) tt tt) (bl tt (mB (arcsA (Oo li z n) th t) t)) :: .av x28 (arcsA (Oo li z n) th t) :: .iv (.slice (some ⟨gso, 0, none⟩) n n) (il n fun v => ixo th v) :: .iv (.slice at' t ct) (ol th) :: LD))
                case first => as_aux_lemma =>
                  go_wp2_with fail
                  go_loopw [28, 31, 33, 34] (fun x28 x31 x33 x34 wr => ∃ k : Nat, k ≤ t ∧ x31 = .int .i64 k ∧ Spl w wr (.iv (.slice (some ⟨gi, 0, none⟩) t t) (il t (dI (arcsA (Oo li z n) th k) t)) :: .bv (.slice (some ⟨gm, 0, none⟩) tt tt) (bl tt (mB (arcsA (Oo li z n) th k) t)) :: .av x28 (arcsA (Oo li z n) th k) :: .iv (.slice (some ⟨gso, 0, none⟩) n n) (il n fun v => ixo th v) :: .iv (.slice at' t ct) (ol th) :: LD)) (fun _ x _ _ _ => t - (intOf x).toNat)
                  case atStart => exact ⟨0, Nat.zero_le _, rfl, HS8.out⟩
                  case round => as_aux_lemma =>
                    clear HS8 w16
                    obtain ⟨k, hk, rfl, hS⟩ := hrel
                    have HS := (show Hid _ from hS)
                    clear hS
                    by_cases hkn : k < t
                    · have hkn' : (k : Int) < (t : Int) := by omega
                      have hkl : k < th.length := by rw [Hth.out]; exact hkn
                      obtain ⟨u, hu⟩ : ∃ u, th[k] = u := ⟨_, rfl⟩
                      have hun : u < n := by rw [← hu]; exact HND.out.2 _ (List.getElem_mem _)
                      have hun' : (u : Int) < (n : Int) := by omega
                      obtain ⟨gt, ct', hat, _⟩ := OwnV.block (m := t) (HS.out.all 4 _ rfl) ((ol_len _).trans Hth.out) (by omega)
                      cases hat
                      have hct : wr.cell? ⟨gt, k, none⟩ = some (.int .i64 u) := by
                        rw [OwnV.cell (HS.out.all 4 _ rfl) (by rw [ol_len, Hth.out]) (by rw [ol_len]; exact hkl), ol_get hkl, hu]
                      obtain ⟨bo, oo, hao, hc⟩ := (HO.out.below HS.out.bel).at' (by omega)
                      subst hao
                      have hck := hc u hun
                      have Hu := (show Hid _ from hu)
                      clear hc hu
                      have hlk : li u ≤ 65536 := by
                        have h1 := tot_mono li (m := u + 1) (n := n) (by omega)
                        have h2 : tot li (u + 1) = tot li u + li u := rfl
                        have h3 := HTT.out
                        omega
                      have HI1 : Hid (Rv w (ai u) (li u) (fun j => .int .u16 (z u j)) ∧ ∀ j, j < li u → 0 ≤ z u j ∧ z u j ≤ 65535) := HI.out u hun
                      have HS1 : Hid (Spl w wr (.iv (.slice (some ⟨gi, 0, none⟩) t t) (il t (dI (arcsA (Oo li z n) th k ++ rowA th k ((Oo li z n u).take 0)) t)) :: .bv (.slice (some ⟨gm, 0, none⟩) tt tt) (bl tt (mB (arcsA (Oo li z n) th k ++ rowA th k ((Oo li z n u).take 0)) t)) :: .av _ (arcsA (Oo li z n) th k ++ rowA th k ((Oo li z n u).take 0)) :: .iv (.slice (some ⟨gso, 0, none⟩) n n) (il n fun v => ixo th v) :: .iv (.slice (some ⟨gt, 0, none⟩) t ct) (ol th) :: LD)) := HS.out.ext (by rw [List.take_zero, show rowA th k [] = [] from rfl, List.append_nil])
                      obtain ⟨kt, hkt⟩ : ∃ kt, k * t = kt := ⟨_, rfl⟩
                      have hktb : kt ≤ 1000000 := by rw [← hkt]; exact Nat.mul_le_mul (show k ≤ 1000 by omega) (show t ≤ 1000 by omega)
                      have HWK : Hid (wrap64 ((k : Int) * (t : Int)) = (kt : Int)) := by
                        show _ = _
                        rw [wrap64_ok _ (by rw [← Int.natCast_mul, hkt]; omega), ← Int.natCast_mul, hkt]
                      have Hkt := (show Hid _ from hkt)
                      clear hkt
                      go_wp2_with fail
                      clear HS hct hck
                      generalize hwq : wr = w17 at *
                      clear hwq wr
                      go_loopw [28, 33, 34, 291] (fun x28 x33 x34 x291 wr => ∃ j : Nat, j ≤ li u ∧ x291 = .int .i64 j ∧ Spl w wr (.iv (.slice (some ⟨gi, 0, none⟩) t t) (il t (dI (arcsA (Oo li z n) th k ++ rowA th k ((Oo li z n u).take j)) t)) :: .bv (.slice (some ⟨gm, 0, none⟩) tt tt) (bl tt (mB (arcsA (Oo li z n) th k ++ rowA th k ((Oo li z n u).take j)) t)) :: .av x28 (arcsA (Oo li z n) th k ++ rowA th k ((Oo li z n u).take j)) :: .iv (.slice (some ⟨gso, 0, none⟩) n n) (il n fun v => ixo th v) :: .iv (.slice (some ⟨gt, 0, none⟩) t ct) (ol th) :: LD)) (fun _ _ _ x _ => li u - (intOf x).toNat)
                      case atStart => exact ⟨0, Nat.zero_le _, rfl, HS1.out⟩
                      case round => as_aux_lemma =>
                        clear HS1 w17
                        obtain ⟨j, hj, rfl, hS⟩ := hrel
                        have HS := (show Hid _ from hS)
                        clear hS
                        by_cases hjl : j < li u
                        · have hjl' : (j : Int) < (li u : Int) := by omega
                          obtain ⟨bi, oi, hai, hc⟩ := (HI1.out.1.below HS.out.bel).at' (by omega)
                          have hcj := hc j hjl
                          have hz := HI1.out.2 j hjl
                          obtain ⟨x, hx⟩ : ∃ x, (z u j).toNat % n = x := ⟨_, rfl⟩
                          have hx1 : z u j % (n : Int) = (x : Int) := by rw [modI hz.1, hx]
                          have hxn : x < n := by rw [← hx]; exact Nat.mod_lt _ (by omega)
                          have hxn' : (x : Int) < (n : Int) := by omega
                          obtain ⟨p11, p12⟩ := Res.cellI (HS.out.all 3 _ rfl) hxn
                          have Hst : Hid ((Oo li z n u).take (j + 1) = (Oo li z n u).take j ++ [x]) := by show _ = _; rw [Oo_take hjl, hx]
                          have HAL : Hid ((arcsA (Oo li z n) th k ++ rowA th k ((Oo li z n u).take j)).length ≤ 65536) := by
                            show _ ≤ _
                            have h1 := arcsA_le (O := Oo li z n) HND.out.1 HND.out.2 (k := k + 1) (by omega)
                            have h2 := HTT.out
                            have h3 := rowA_take th k (Oo li z n u) j
                            rw [arcsA, show th.getD k 0 = u by rw [List.getD_eq_getElem?_getD, List.getElem?_eq_getElem hkl, Hu.out]; rfl, List.length_append, tot_ext n (fun i _ => Oo_len li z n i)] at h1
                            rw [List.length_append]; omega
                          obtain ⟨al, hal⟩ : ∃ al, arcsA (Oo li z n) th k ++ rowA th k ((Oo li z n u).take j) = al := ⟨_, rfl⟩
                          rw [hal] at HS HAL
                          have Hal := (show Hid _ from hal)
                          clear hal
                          generalize z u j = zz at *
                          rw [hai]
                          obtain ⟨hz0, hz1⟩ := hz
                          clear hc hx HI1 p12
                          by_cases hin : x ∈ th
                          · rw [ixo_in hin] at p11
                            obtain ⟨s, hs⟩ : ∃ s, th.idxOf x = s := ⟨_, rfl⟩
                            have hst : s < t := by rw [← hs, ← Hth.out]; exact List.idxOf_lt_length_iff.2 hin
                            rw [hs] at p11
                            have Hs := (show Hid _ from And.intro hin hs)
                            clear hin hs
                            obtain ⟨g1, cap1, w1, hrun, hown, hgrow, hpl⟩ := run_append_a _ 52 _ _ ((HS.out.alloc (.cells #[.int .i64 k, .int .i64 s] 65)).all 2 _ rfl) ⟨wr.heap.size, 0, none⟩ 1 k s (two_new _ _ _ _ _ rfl) (Nat.le_trans HAL.out (by decide))
                            obtain ⟨m, hm⟩ : ∃ m, al.length = m := ⟨_, rfl⟩
                            rw [hm] at hrun hown
                            have HX := (show Hid _ from (HS.out.alloc (.cells #[.int .i64 k, .int .i64 s] 65)).growA 2 rfl hgrow hown fun g hg => by
                              obtain rfl : g1 = g := by simpa [Value.ownBlock] using hg
                              exact hpl)
                            clear hown hgrow hpl hm
                            have hidx : kt + s < tt := by rw [← Hkt.out, ← Htt.out]; exact mat_lt hkn hst
                            have hidx' : (kt : Int) + (s : Int) < (tt : Int) := by omega
                            have hidx2 : ((kt : Int) + (s : Int)).toNat = kt + s := by omega
                            obtain ⟨m11, m12⟩ := Res.cellB (HX.out.all 1 _ rfl) hidx
                            obtain ⟨d11, d12⟩ := Res.cellI (HX.out.all 0 _ rfl) hst
                            have hmt : mB al t (kt + s) = mt al k s := by rw [← Hkt.out]; exact mB_at hst
                            rw [hmt] at m11
                            have hst' : (s : Int) < (t : Int) := by omega
                            have hwk : Value.int .i64 (wrap64 ((k : Int) * (t : Int))) = Value.int .i64 (kt : Int) := by rw [HWK.out]
                            have hd := dI_le al t s
                            have HE : Hid (arcsA (Oo li z n) th k ++ rowA th k ((Oo li z n u).take (j + 1)) = al ++ [(k, s)]) := by
                              show _ = _
                              rw [Hst.out, rowA_snoc, if_pos Hs.out.1, Hs.out.2, ← List.append_assoc, Hal.out]
                            clear hmt
                            by_cases hmm : mt al k s = true
                            · rw [hmm] at m11
                              have Hmm := (show Hid _ from hmm)
                              clear hmm
                              go_wp2_with fail
                              refine ⟨⟨j + 1, by omega, by go_num, HX.out.ext ?_⟩, by simp only [intOf]; omega⟩
                              simp only [List.set_cons_succ, List.set_cons_zero]
                              rw [HE.out, dI_old Hmm.out, mB_old Hmm.out]
                            · have hmm' : mt al k s = false := by simpa using hmm
                              rw [hmm'] at m11
                              have Hmm := (show Hid _ from hmm')
                              clear hmm hmm'
                              have n1 := HX.out.ne 0 1 (by decide) rfl rfl (g := gi) (k := gm) rfl rfl
                              have n2 := HX.out.ne 1 0 (by decide) rfl rfl (g := gm) (k := gi) rfl rfl
                              generalize hdd : dI al t s = dd at *
                              have Hdd := (show Hid _ from hdd)
                              clear hdd
                              go_wp2_with fail
                              refine ⟨⟨j + 1, by omega, by go_num, ((HX.out.setB 1 rfl (kt + s) true).setI 0 rfl s (dd + 1)).ext ?_⟩, by simp only [intOf]; omega⟩
                              simp only [List.set_cons_succ, List.set_cons_zero]
                              rw [HE.out, ← dI_new Hmm.out hkn, ← mB_new hst, Hkt.out, Hdd.out]
                          · rw [ixo_out hin] at p11
                            have Hin := (show Hid _ from hin)
                            clear hin
                            go_wp2_with fail
                            refine ⟨⟨j + 1, by omega, by go_num, HS.out.ext ?_⟩, by simp only [intOf]; omega⟩
                            rw [Hst.out, rowA_snoc, if_neg Hin.out, List.append_nil, Hal.out]
                        · obtain rfl : li u = j := by omega
                          have hjl' : ¬ (li u : Int) < (li u : Int) := by omega
                          go_wp2_with fail
                          refine ⟨⟨k + 1, by omega, by go_num, HS.out.ext ?_⟩, by simp only [intOf]; omega⟩
                          rw [List.take_of_length_le (by rw [Oo_len]; exact Nat.le_refl _), arcsA, show th.getD k 0 = u by rw [List.getD_eq_getElem?_getD, List.getElem?_eq_getElem hkl, Hu.out]; rfl]
                    · obtain rfl : t = k := by omega
                      have hkn' : ¬ (t : Int) < (t : Int) := by omega
                      go_wp2_with fail
                      go_meet
                      case rel => exact HS.out
                case rest => as_aux_lemma =>
                  have HS9 := (show Hid _ from hcut)
                  clear hcut HS8 w16
                  obtain ⟨al, hal⟩ : ∃ al, arcsA (Oo li z n) th t = al := ⟨_, rfl⟩
                  rw [hal] at HS9
                  have Hal := (show Hid _ from hal)
                  clear hal
                  obtain ⟨LE, hLE⟩ : ∃ LE, LE = .av u28 al :: .iv (.slice (some ⟨gso, 0, none⟩) n n) (il n fun v => ixo th v) :: .iv (.slice at' t ct) (ol th) :: LD := ⟨_, rfl⟩
                  have HLE := (show Hid _ from hLE)
                  rw [← hLE] at HS9
                  clear hLE
                  go_upto_block 18 with (at_make; refine wpList_make_v _ rfl _ _ 28 rfl 4 i4 (.bool false) Yba.underlying28 J4.out.1 J4.out.2.1 J4.out.2.2.1 rfl _ _ _ _ t t rfl rfl rfl rfl (Nat.le_refl _) (by rw [J4.out.2.2.2]; omega) (by omega) ?_)
                  have HS10 : Hid (Spl w (wc.alloc (Obj.cells (Array.replicate t (Value.bool false)) 4)) (.iv (.slice none 0 0) (ol []) :: .bv (.slice (some ⟨wc.heap.size, 0, none⟩) t t) (bl t fun c => decide (c ∈ ([] : List Nat))) :: .iv (.slice (some ⟨gi, 0, none⟩) t t) (il t fun s => ((dg t (mt al) [] s : Nat) : Int)) :: .bv (.slice (some ⟨gm, 0, none⟩) tt tt) (bl tt (mB al t)) :: LE)) := by
                    have h1 := HS9.out.new ((Below.refl _ _).alloc (Nat.le_refl _) (Obj.cells (Array.replicate t (Value.bool false)) 4)) (r := .bv (.slice (some ⟨wc.heap.size, 0, none⟩) t t) (bl t fun c => decide (c ∈ ([] : List Nat)))) (made_bl wc t (by omega) _ (fun c _ => by simp)) (fun g hg => by cases hg; exact Nat.le_refl _)
                    have h2 := h1.add (r := .iv (.slice none 0 0) (ol [])) (OwnV.nil _ _) (fun g hg => by cases hg) (fun k x hx g hg => by cases hg)
                    refine h2.ext ?_
                    rw [show il t (dI al t) = il t fun s => ((dg t (mt al) [] s : Nat) : Int) from il_ext fun s _ => dI_dg al t s]
                  clear HS9
                  generalize wc.alloc (Obj.cells (Array.replicate t (Value.bool false)) 4) = w18 at *
                  generalize wc.heap.size = gta at *
                  clear wc
                  go_cut [36, 37, 38, 39, 40] from 335 to 385 (fun x36 x37 x38 x39 x40 w8 => ∃ os : List Nat, Kh t (mt al) os ∧ (os.length = t ∨ ∀ c, ¬ ready t (mt al) os c) ∧ Spl w w8 (.iv x36 (ol os) :: LE))
                  case first => as_aux_lemma =>
                    go_wp2_with fail
                    go_loopw [36, 37, 38, 39, 40] (fun x36 x37 x38 x39 x40 wr => ∃ os : List Nat, x37 = .int .i64 os.length ∧ Kh t (mt al) os ∧ Spl w wr (.iv x36 (ol os) :: .bv (.slice (some ⟨gta, 0, none⟩) t t) (bl t fun c => decide (c ∈ os)) :: .iv (.slice (some ⟨gi, 0, none⟩) t t) (il t fun s => ((dg t (mt al) os s : Nat) : Int)) :: .bv (.slice (some ⟨gm, 0, none⟩) tt tt) (bl tt (mB al t)) :: LE)) (fun _ x _ _ _ _ => t - (intOf x).toNat)
                    case atStart => exact ⟨[], rfl, .nil, HS10.out⟩
                    case round => as_aux_lemma =>
                      clear HS10 w18
                      obtain ⟨os, rfl, hKh, hS⟩ := hrel
                      have HS := (show Hid _ from hS)
                      have HKh := (show Hid _ from hKh)
                      have hlen := hKh.len
                      clear hS hKh
                      obtain ⟨st, hst⟩ : ∃ st, os.length = st := ⟨_, rfl⟩
                      rw [hst] at hlen ⊢
                      have Hst := (show Hid _ from hst)
                      clear hst
                      generalize hwq : wr = w19 at *
                      clear hwq wr
                      by_cases hkn : st < t
                      · have hkn' : (st : Int) < (t : Int) := by omega
                        go_upto_block 20 with fail
                        go_cut [38, 39] from 340 to 357 (fun x38 x39 w8 => w8 = w19 ∧ ((x38 = .int .i64 (-1) ∧ ∀ c, ¬ ready t (mt al) os c) ∨ ∃ c : Nat, x38 = .int .i64 c ∧ ready t (mt al) os c ∧ ∀ c', ready t (mt al) os c' → c ≤ c'))
                        case first => as_aux_lemma =>
                          go_wp2_with fail
                          go_loopw [38, 39] (fun x38 x39 wx => wx = w19 ∧ ∃ c : Nat, c ≤ t ∧ x39 = .int .i64 c ∧ x38 = .int .i64 (-1) ∧ ∀ c', c' < c → ¬ ready t (mt al) os c') (fun _ x _ => t - (intOf x).toNat)
                          case atStart => exact ⟨rfl, 0, Nat.zero_le _, rfl, rfl, fun c' h => by omega⟩
                          case round => as_aux_lemma =>
                            obtain ⟨hw, c, hc, rfl, rfl, hno⟩ := hrel
                            obtain rfl : w19 = wr := hw.symm
                            have HNo := (show Hid _ from hno)
                            clear hno hw
                            by_cases hct : c < t
                            · have hct' : (c : Int) < (t : Int) := by omega
                              obtain ⟨p11, p12⟩ := Res.cellB (HS.out.all 1 _ rfl) hct
                              obtain ⟨d11, d12⟩ := Res.cellI (HS.out.all 2 _ rfl) hct
                              by_cases hin : c ∈ os
                              · rw [decide_eq_true hin] at p11
                                have Hin := (show Hid _ from hin)
                                clear hin
                                go_wp2_with fail
                                exact ⟨⟨trivial, c + 1, by omega, by go_num, rfl, fun c' h1 h2 => by
                                  by_cases e : c' = c
                                  · subst e; exact h2.2.1 Hin.out
                                  · exact HNo.out c' (by omega) h2⟩, by simp only [intOf]; omega⟩
                              · rw [decide_eq_false hin] at p11
                                have Hin := (show Hid _ from hin)
                                clear hin
                                by_cases hd : dg t (mt al) os c = 0
                                · rw [hd] at d11
                                  have Hd := (show Hid _ from hd)
                                  clear hd
                                  go_wp2_with fail
                                  go_meet
                                  case rel => exact ⟨rfl, .inr ⟨c, rfl, ⟨hct, Hin.out, Hd.out⟩, fun c' h => by
                                    rcases Nat.lt_or_ge c' c with h1 | h1
                                    · exact absurd h (HNo.out c' h1)
                                    · exact h1⟩⟩
                                · have hd' : (((dg t (mt al) os c : Nat) : Int) == 0) = false := beq_false_of_ne (by omega)
                                  have Hd := (show Hid _ from hd)
                                  clear hd
                                  go_wp2_with fail
                                  exact ⟨⟨trivial, c + 1, by omega, by go_num, rfl, fun c' h1 h2 => by
                                    by_cases e : c' = c
                                    · subst e; exact Hd.out h2.2.2
                                    · exact HNo.out c' (by omega) h2⟩, by simp only [intOf]; omega⟩
                            · obtain rfl : t = c := by omega
                              have hct' : ¬ (t : Int) < (t : Int) := by omega
                              go_wp2_with fail
                              go_meet
                              case rel => exact ⟨rfl, .inl ⟨rfl, fun c h => HNo.out c h.1 h⟩⟩
                        case rest => as_aux_lemma =>
                          obtain ⟨hw, hcase⟩ := hcut
                          obtain rfl : w19 = wc := hw.symm
                          clear hw
                          rcases hcase with ⟨rfl, hno⟩ | ⟨c, rfl, hrd, hmin⟩
                          · have HNo := (show Hid _ from hno)
                            clear hno
                            go_wp2_with fail
                            go_meet
                            case rel => exact ⟨os, HKh.out, .inr HNo.out, HS.out.keep1⟩
                          · have HRd := (show Hid _ from And.intro hrd hmin)
                            have hct := hrd.1
                            have hct' : (c : Int) < (t : Int) := by omega
                            have hc0 : ¬ (c : Int) < 0 := by omega
                            clear hrd hmin
                            obtain ⟨p11, p12⟩ := Res.cellB (HS.out.all 1 _ rfl) hct
                            have HS1 := (show Hid _ from HS.out.setB 1 rfl c true)
                            obtain ⟨g1, cap1, w1, hrun, hown, hgrow, hpl⟩ := run_append_1 _ _ _ ((HS1.out.alloc (.cells #[.int .i64 c] 3)).all 0 _ rfl) ⟨(w19.setCell ⟨gta, c, none⟩ (.bool true)).heap.size, 0, none⟩ 1 (.int .i64 c) rfl (one_new _ _ _ _ rfl) (by rw [ol_len, Hst.out]; omega)
                            rw [ol_len, Hst.out] at hrun hown
                            have hsz : (w19.setCell ⟨gta, c, none⟩ (.bool true)).heap.size = w19.heap.size := by simp [World.setCell]
                            rw [hsz] at hrun
                            have HX : Hid (Spl w w1 (.iv (.slice (some ⟨g1, 0, none⟩) (st + 1) cap1) (ol (os ++ [c])) :: .bv (.slice (some ⟨gta, 0, none⟩) t t) (bl t fun k => decide (k ∈ os ++ [c])) :: .iv (.slice (some ⟨gi, 0, none⟩) t t) (il t fun s => if s < 0 then ((dg t (mt al) (os ++ [c]) s : Nat) : Int) else ((dg t (mt al) os s : Nat) : Int)) :: .bv (.slice (some ⟨gm, 0, none⟩) tt tt) (bl tt (mB al t)) :: LE)) := by
                              refine ((HS1.out.alloc (.cells #[.int .i64 c] 3)).growI 0 rfl hgrow hown fun g hg => by
                                obtain rfl : g1 = g := by simpa [Value.ownBlock] using hg
                                exact hpl).ext ?_
                              simp only [List.set_cons_succ, List.set_cons_zero]
                              rw [ol_snoc, taken_next]
                              rfl
                            clear hown hgrow hpl hsz
                            obtain ⟨ctt, hctt⟩ : ∃ ctt, c * t = ctt := ⟨_, rfl⟩
                            have hcttb : ctt ≤ 1000000 := by rw [← hctt]; exact Nat.mul_le_mul (show c ≤ 1000 by omega) (show t ≤ 1000 by omega)
                            have HWK : Hid (wrap64 ((c : Int) * (t : Int)) = (ctt : Int)) := by
                              show _ = _
                              rw [wrap64_ok _ (by rw [← Int.natCast_mul, hctt]; omega), ← Int.natCast_mul, hctt]
                            have Hctt := (show Hid _ from hctt)
                            clear hctt
                            go_wp2_with fail
                            clear hrun p11 p12 HS1 HS
                            go_loopw [40] (fun x40 wr => ∃ s : Nat, s ≤ t ∧ x40 = .int .i64 s ∧ Spl w wr (.iv (.slice (some ⟨g1, 0, none⟩) (st + 1) cap1) (ol (os ++ [c])) :: .bv (.slice (some ⟨gta, 0, none⟩) t t) (bl t fun k => decide (k ∈ os ++ [c])) :: .iv (.slice (some ⟨gi, 0, none⟩) t t) (il t fun r => if r < s then ((dg t (mt al) (os ++ [c]) r : Nat) : Int) else ((dg t (mt al) os r : Nat) : Int)) :: .bv (.slice (some ⟨gm, 0, none⟩) tt tt) (bl tt (mB al t)) :: LE)) (fun x _ => t - (intOf x).toNat)
                            case atStart => exact ⟨0, Nat.zero_le _, rfl, HX.out⟩
                            case round => as_aux_lemma =>
                              clear HX
                              obtain ⟨s, hs, rfl, hS⟩ := hrel
                              have HS := (show Hid _ from hS)
                              clear hS
                              by_cases hsn : s < t
                              · have hsn' : (s : Int) < (t : Int) := by omega
                                have hidx : ctt + s < tt := by rw [← Hctt.out, ← Htt.out]; exact mat_lt hct hsn
                                have hidx' : (ctt : Int) + (s : Int) < (tt : Int) := by omega
                                have hidx2 : ((ctt : Int) + (s : Int)).toNat = ctt + s := by omega
                                have hwk : Value.int .i64 (wrap64 ((c : Int) * (t : Int))) = Value.int .i64 (ctt : Int) := by rw [HWK.out]
                                obtain ⟨m11, m12⟩ := Res.cellB (HS.out.all 3 _ rfl) hidx
                                obtain ⟨d11, d12⟩ := Res.cellI (HS.out.all 2 _ rfl) hsn
                                rw [if_neg (by omega)] at d11
                                have hmt : mB al t (ctt + s) = mt al c s := by rw [← Hctt.out]; exact mB_at hsn
                                rw [hmt] at m11
                                have hdl := dg_le t (mt al) os s
                                clear hmt
                                by_cases hmm : mt al c s = true
                                · rw [hmm] at m11
                                  have Hmm := (show Hid _ from hmm)
                                  clear hmm
                                  generalize hdd : dg t (mt al) os s = dd at d11 hdl
                                  have Hdd := (show Hid _ from hdd)
                                  clear hdd
                                  go_wp2_with fail
                                  refine ⟨⟨s + 1, by omega, by go_num, (HS.out.setI 2 rfl s ((dd : Int) - 1)).ext ?_⟩, by simp only [intOf]; omega⟩
                                  simp only [List.set_cons_succ, List.set_cons_zero]
                                  rw [show (il t fun k => if k = s then (dd : Int) - 1 else if k < s then ((dg t (mt al) (os ++ [c]) k : Nat) : Int) else ((dg t (mt al) os k : Nat) : Int)) = il t fun r => if r < s + 1 then ((dg t (mt al) (os ++ [c]) r : Nat) : Int) else ((dg t (mt al) os r : Nat) : Int) from il_ext fun r _ => by
                                    have h := dg_next (k := s) (s := r) HRd.out.1
                                    rw [Hmm.out, if_pos rfl, Hdd.out] at h
                                    exact h]
                                · have hmm' : mt al c s = false := by simpa using hmm
                                  rw [hmm'] at m11
                                  have Hmm := (show Hid _ from hmm')
                                  clear hmm hmm'
                                  go_wp2_with fail
                                  refine ⟨⟨s + 1, by omega, by go_num, HS.out.ext ?_⟩, by simp only [intOf]; omega⟩
                                  rw [show (il t fun k => if k < s then ((dg t (mt al) (os ++ [c]) k : Nat) : Int) else ((dg t (mt al) os k : Nat) : Int)) = il t fun r => if r < s + 1 then ((dg t (mt al) (os ++ [c]) r : Nat) : Int) else ((dg t (mt al) os r : Nat) : Int) from il_ext fun r _ => by
                                    have h := dg_next (k := s) (s := r) HRd.out.1
                                    simp only [Hmm.out, Bool.false_eq_true, if_false, Int.sub_zero] at h
                                    rw [← h]
                                    by_cases e : r = s
                                    · subst e; rw [if_pos rfl, if_neg (by omega)]
                                    · rw [if_neg e]]
                              · obtain rfl : t = s := by omega
                                have hsn' : ¬ (t : Int) < (t : Int) := by omega
                                go_wp2_with fail
                                refine ⟨⟨os ++ [c], ?_, .step HKh.out HRd.out.1 HRd.out.2, HS.out.ext ?_⟩, by simp only [intOf]; omega⟩
                                · rw [List.length_append, Hst.out]; go_num
                                · rw [show (il t fun r => if r < t then ((dg t (mt al) (os ++ [c]) r : Nat) : Int) else ((dg t (mt al) os r : Nat) : Int)) = il t fun r => ((dg t (mt al) (os ++ [c]) r : Nat) : Int) from il_ext fun r hr => if_pos hr]
                      · obtain rfl : t = st := by omega
                        have hkn' : ¬ (t : Int) < (t : Int) := by omega
                        go_wp2_with fail
                        go_meet
                        case rel => exact ⟨os, HKh.out, .inl Hst.out, HS.out.keep1⟩
                  case rest => as_aux_lemma =>
                    obtain ⟨os, hKh, hKe, hS⟩ := hcut
                    clear HS10
                    rw [HLE.out, HLD.out] at hS
                    obtain ⟨ao2, co2, hf1⟩ := OwnV.form' (hS.all 0 _ rfl)
                    obtain ⟨aa, ca, hf2⟩ := OwnA.form' (hS.all 1 _ rfl)
                    obtain ⟨so, hso⟩ : ∃ so, os.length = so := ⟨_, rfl⟩
                    obtain ⟨R, hR⟩ : ∃ R, al.length = R := ⟨_, rfl⟩
                    rw [ol_len, hso] at hf1
                    rw [hR] at hf2
                    subst hf1
                    subst hf2
                    have hRb : R ≤ 65536 := by
                      have h1 := arcsA_le (O := Oo li z n) HND.out.1 HND.out.2 (k := t) (by rw [Hth.out]; exact Nat.le_refl _)
                      rw [Hal.out, hR, tot_ext n (fun i _ => Oo_len li z n i)] at h1
                      exact Nat.le_trans h1 HTT.out
                    have hsot : so ≤ t := by rw [← hso]; exact hKh.len
                    have HKd := (show Hid _ from hKh.kd)
                    have hfk := fk_new HF7.out HF8.out qv
                    have hC := call_rebuild hS hfk.1 hfk.2 ⟨HND.out.1, HND.out.2, fun v hv x hx => Oo_lt v hv x hx, hn, by rw [tot_ext n (fun i _ => Oo_len li z n i)]; exact HTT.out, hlq, by rw [il_len]; exact hlu⟩ Hth.out Hal.out hKh hKe
                    have HC := (show Hid _ from hC)
                    have Hso := (show Hid _ from hso)
                    have HR := (show Hid _ from hR)
                    obtain ⟨bA, hbA⟩ : ∃ bA, ((so : Int) == (t : Int)) = bA := ⟨_, rfl⟩
                    have HbA : Hid (decide (so = t) = bA) := by
                      show _ = _
                      rw [← hbA]
                      by_cases e : so = t
                      · subst e; simp
                      · have e' : ¬ (so : Int) = (t : Int) := by omega
                        rw [decide_eq_false e, beq_false_of_ne e']
                    clear hS hfk hC hKh hKe HLE HLD HF7 HF8 hso hR Hal
                    go_wp2_with fail
                    refine Calls.mono HC.out ?_
                    rintro e wz ⟨he, f', av, quv', tv', B', ql', T', hAf⟩
                    rw [Hso.out, HbA.out] at he
                    subst he
                    have HAf := (show Hid _ from hAf)
                    obtain ⟨aA, cA, hfa⟩ := OwnA.form' hAf.ar
                    obtain ⟨aT, cT, hft⟩ := OwnV.form' hAf.tl
                    obtain ⟨aQ, cQ, hfq⟩ := OwnV.form' hAf.qu
                    rw [HR.out] at hfa
                    rw [il_len] at hft
                    subst hfa
                    subst hft
                    subst hfq
                    have hbud := hAf.bud
                    rw [HR.out] at hbud
                    have c110 := Pg.at hAf.pg 110 hAf.fk.k110 (by decide)
                    clear hAf HC
                    go_wp2_with fail
                    refine Calls.mono (work_walk wz w.heap.size bb _ c110 hbud) ?_
                    rintro e wy ⟨rfl, hwy⟩
                    obtain rfl : wz = wy := hwy.symm
                    clear hwy hbud c110
                    dsimp only
                    have HLt : Hid ((Res.iv (.slice at' t ct) (il t fun j => ((th.getD j 0 : Nat) : Int))).ok wz) := by
                      have h := HAf.out.lth
                      rw [ol_il, Hth.out] at h
                      exact h
                    have HLo : Hid ((Res.iv (.slice ao2 so co2) (il so fun j => ((os.getD j 0 : Nat) : Int))).ok wz) := by
                      have h := HAf.out.lor
                      rw [ol_il, Hso.out] at h
                      exact h
                    go_upto_block 24 with fail
                    go_cut [8, 44] from 406 to 418 (fun x8 x44 w8 => x8 = .bool false ∧ Below wz.heap.size wz w8)
                    case first => as_aux_lemma =>
                      go_wp2_with fail
                      go_loopw [8, 44] (fun x8 x44 wr => ∃ k : Nat, k ≤ n ∧ x8 = .bool false ∧ x44 = .int .i64 k ∧ Below wz.heap.size wz wr) (fun _ x _ => n - (intOf x).toNat)
                      case atStart => exact ⟨0, Nat.zero_le _, rfl, rfl, Below.refl _ _⟩
                      case round => as_aux_lemma =>
                        obtain ⟨k, hk, rfl, rfl, hB⟩ := hrel
                        have HB := (show Hid _ from hB)
                        clear hB
                        by_cases hkn : k < n
                        · have hkn' : (k : Int) < (n : Int) := by omega
                          obtain ⟨gs, cs, hgs⟩ := Res.blockI HAf.out.sl (by omega)
                          cases hgs
                          obtain ⟨p11, p12⟩ := Res.cellI (HAf.out.sl.below HB.out) hkn
                          have c57 := Pg.at (HAf.out.pg.below HB.out) 57 HAf.out.fk.k57 (by decide)
                          go_wp2_with fail
                          exact ⟨⟨k + 1, by omega, rfl, by go_num, HB.out⟩, by simp only [intOf]; omega⟩
                        · obtain rfl : n = k := by omega
                          have hkn' : ¬ (n : Int) < (n : Int) := by omega
                          go_wp2_with fail
                          go_meet
                          case rel => exact ⟨rfl, HB.out⟩
                    case rest => as_aux_lemma =>
                      obtain ⟨rfl, hB⟩ := hcut
                      have HB := (show Hid _ from hB)
                      clear hB
                      generalize hwq : wc = w20 at *
                      clear hwq wc
                      have c104 := Pg.at (HAf.out.pg.below HB.out) 104 HAf.out.k104 (by decide)
                      go_upto_block 26 with fail
                      clear c104
                      go_cut [8, 45] from 429 to 444 (fun x8 x45 w8 => x8 = .bool false ∧ Below wz.heap.size wz w8)
                      case first => as_aux_lemma =>
                        go_wp2_with fail
                        go_loopw [8, 45, 429] (fun x8 x45 x429 wr => ∃ k : Nat, k ≤ R ∧ x8 = .bool false ∧ x429 = .int .i64 k ∧ Below wz.heap.size wz wr) (fun _ _ x _ => R - (intOf x).toNat)
                        case atStart => exact ⟨0, Nat.zero_le _, rfl, rfl, HB.out⟩
                        case round => as_aux_lemma =>
                          clear HB
                          obtain ⟨k, hk, rfl, rfl, hB⟩ := hrel
                          have HB := (show Hid _ from hB)
                          clear hB
                          by_cases hkn : k < R
                          · have hkn' : (k : Int) < (R : Int) := by omega
                            obtain ⟨ga, hga, _, hca⟩ := (OwnA.arcs (HAf.out.ar.below HB.out) HR.out).at' (by omega)
                            obtain ⟨gl, hgl, _, hcl⟩ := (OwnA.arcs (HAf.out.lar.below HB.out) HR.out).at' (by omega)
                            obtain ⟨a1, a2⟩ := hca k hkn
                            obtain ⟨l1, l2⟩ := hcl k hkn
                            have c104 := Pg.at (HAf.out.pg.below HB.out) 104 HAf.out.k104 (by decide)
                            rw [hga] at c104
                            rw [hgl]
                            clear hca hcl
                            generalize (al.getD k (0, 0)).1 = x1 at a1 l1
                            generalize (al.getD k (0, 0)).2 = x2 at a2 l2
                            go_wp2_with fail
                            go_big_region
                            go_wp2_with fail
                            exact ⟨⟨k + 1, by omega, rfl, by go_num, HB.out.drew⟩, by simp only [intOf]; omega⟩
                          · obtain rfl : R = k := by omega
                            have hkn' : ¬ (R : Int) < (R : Int) := by omega
                            go_wp2_with fail
                            go_meet
                            case rel => exact ⟨rfl, HB.out⟩
                      case rest => as_aux_lemma =>
                        clear HB w20
                        obtain ⟨rfl, hB⟩ := hcut
                        have HB := (show Hid _ from hB)
                        clear hB
                        generalize hwq : wc = w20 at *
                        clear hwq wc
                        have c56 := Pg.at (HAf.out.pg.below HB.out) 56 HAf.out.k56 (by decide)
                        have c47 := Pg.at (HAf.out.pg.below HB.out) 47 HAf.out.fk.k47 (by decide)
                        cases bA
                        · have hne : os.length ≠ t := fun e => by
                            have h := HbA.out
                            rw [← Hso.out, decide_eq_true e] at h
                            cases h
                          obtain ⟨n1, n2, n3⟩ := HAf.out.no hne
                          have HN1 := (show Hid _ from n1)
                          have HN2 := (show Hid _ from n2)
                          have HQ : Hid ((Res.iv (.slice aQ lu cQ) (il lu zu)).ok wz) := by
                            have h := HAf.out.qu
                            rw [n3, il_len] at h
                            exact h
                          have K46 : Hid (f' 46 = .slice aQ lu cQ) := by
                            have h := HAf.out.k46
                            rw [n3, il_len] at h
                            exact h
                          clear hne n1 n2 n3
                          go_upto_block 28 with fail
                          clear c56 c47
                          go_cut [8, 46] from 464 to 480 (fun x8 x46 w8 => x8 = .bool false ∧ Below wz.heap.size wz w8)
                          case first => as_aux_lemma =>
                            go_wp2_with fail
                            go_loopw [8, 46] (fun x8 x46 wr => ∃ k : Nat, k ≤ t ∧ x8 = .bool false ∧ x46 = .int .i64 k ∧ Below wz.heap.size wz wr) (fun _ x _ => t - (intOf x).toNat)
                            case atStart => exact ⟨0, Nat.zero_le _, rfl, rfl, HB.out⟩
                            case round => as_aux_lemma =>
                              clear HB
                              obtain ⟨k, hk, rfl, rfl, hB⟩ := hrel
                              have HB := (show Hid _ from hB)
                              clear hB
                              by_cases hkn : k < t
                              · have hkn' : (k : Int) < (t : Int) := by omega
                                obtain ⟨gT, cT', hgT⟩ := Res.blockI HAf.out.tl (by omega)
                                cases hgT
                                obtain ⟨gL, cL', hgL⟩ := Res.blockI HLt.out (by omega)
                                cases hgL
                                obtain ⟨p11, p12⟩ := Res.cellI (HAf.out.tl.below HB.out) hkn
                                obtain ⟨q11, q12⟩ := Res.cellI (HLt.out.below HB.out) hkn
                                have c56 := Pg.at (HAf.out.pg.below HB.out) 56 HAf.out.k56 (by decide)
                                rw [HN1.out k hkn] at p11
                                generalize ((th.getD k 0 : Nat) : Int) = x at p11 q11
                                go_wp2_with fail
                                go_big_region
                                go_wp2_with fail
                                exact ⟨⟨k + 1, by omega, rfl, by go_num, HB.out.drew⟩, by simp only [intOf]; omega⟩
                              · obtain rfl : t = k := by omega
                                have hkn' : ¬ (t : Int) < (t : Int) := by omega
                                go_wp2_with fail
                                go_meet
                                case rel => exact ⟨rfl, HB.out⟩
                          case rest => as_aux_lemma =>
                            clear HB w20
                            obtain ⟨rfl, hB⟩ := hcut
                            have HB := (show Hid _ from hB)
                            clear hB
                            generalize hwq : wc = w20 at *
                            clear hwq wc
                            go_upto_block 30 with fail
                            go_cut [8, 47, 48] from 483 to 497 (fun x8 x47 x48 w8 => x8 = .bool false ∧ Below wz.heap.size wz w8)
                            case first => as_aux_lemma =>
                              go_wp2_with fail
                              go_loopw [8, 47, 48, 483] (fun x8 x47 x48 x483 wr => ∃ k : Nat, k ≤ lq ∧ x8 = .bool false ∧ x483 = .int .i64 k ∧ Below wz.heap.size wz wr) (fun _ _ _ x _ => lq - (intOf x).toNat)
                              case atStart => exact ⟨0, Nat.zero_le _, rfl, rfl, HB.out⟩
                              case round => as_aux_lemma =>
                                clear HB
                                obtain ⟨k, hk, rfl, rfl, hB⟩ := hrel
                                have HB := (show Hid _ from hB)
                                clear hB
                                by_cases hkn : k < lq
                                · have hkn' : (k : Int) < (lq : Int) := by omega
                                  obtain ⟨bq, oq, haq, hc⟩ := ((HQd.out.below HAf.out.bel).below HB.out).at' (by omega)
                                  have hck := hc k hkn
                                  obtain ⟨gq, cq', hgq⟩ := Res.blockB HAf.out.qd (by omega)
                                  cases hgq
                                  obtain ⟨p11, p12⟩ := Res.cellB (HAf.out.qd.below HB.out) hkn
                                  rw [HN2.out] at p11
                                  have c47 := Pg.at (HAf.out.pg.below HB.out) 47 HAf.out.fk.k47 (by decide)
                                  rw [haq]
                                  clear hc
                                  replace p11 : wr.cell? ⟨gq, k, none⟩ = some (.bool (B k)) := p11
                                  generalize B k = x at p11 hck
                                  cases x
                                  · go_wp2_with fail
                                    exact ⟨⟨k + 1, by omega, rfl, by go_num, HB.out⟩, by simp only [intOf]; omega⟩
                                  · go_wp2_with fail
                                    exact ⟨⟨k + 1, by omega, rfl, by go_num, HB.out⟩, by simp only [intOf]; omega⟩
                                · obtain rfl : lq = k := by omega
                                  have hkn' : ¬ (lq : Int) < (lq : Int) := by omega
                                  go_wp2_with fail
                                  go_meet
                                  case rel => exact ⟨rfl, HB.out⟩
                            case rest => as_aux_lemma =>
                              clear HB w20
                              obtain ⟨rfl, hB⟩ := hcut
                              have HB := (show Hid _ from hB)
                              clear hB
                              generalize hwq : wc = w20 at *
                              clear hwq wc
                              have c46 := Pg.at (HAf.out.pg.below HB.out) 46 K46.out (by decide)
                              go_upto_block 32 with fail
                              clear c46
                              go_cut [8, 49, 50] from 508 to 522 (fun x8 x49 x50 w8 => x8 = .bool false ∧ Below wz.heap.size wz w8)
                              case first => as_aux_lemma =>
                                go_wp2_with fail
                                go_loopw [8, 49, 50, 508] (fun x8 x49 x50 x508 wr => ∃ k : Nat, k ≤ lu ∧ x8 = .bool false ∧ x508 = .int .i64 k ∧ Below wz.heap.size wz wr) (fun _ _ _ x _ => lu - (intOf x).toNat)
                                case atStart => exact ⟨0, Nat.zero_le _, rfl, rfl, HB.out⟩
                                case round => as_aux_lemma =>
                                  clear HB
                                  obtain ⟨k, hk, rfl, rfl, hB⟩ := hrel
                                  have HB := (show Hid _ from hB)
                                  clear hB
                                  by_cases hkn : k < lu
                                  · have hkn' : (k : Int) < (lu : Int) := by omega
                                    obtain ⟨bu, ou, hau, hc⟩ := ((HQu.out.below HAf.out.bel).below HB.out).at' (by omega)
                                    have hck := hc k hkn
                                    obtain ⟨gq, cq', hgq⟩ := Res.blockI HQ.out (by omega)
                                    cases hgq
                                    obtain ⟨p11, p12⟩ := Res.cellI (HQ.out.below HB.out) hkn
                                    have c46 := Pg.at (HAf.out.pg.below HB.out) 46 K46.out (by decide)
                                    rw [hau]
                                    clear hc
                                    generalize zu k = x at p11 hck
                                    go_wp2_with fail
                                    exact ⟨⟨k + 1, by omega, rfl, by go_num, HB.out⟩, by simp only [intOf]; omega⟩
                                  · obtain rfl : lu = k := by omega
                                    have hkn' : ¬ (lu : Int) < (lu : Int) := by omega
                                    go_wp2_with fail
                                    go_meet
                                    case rel => exact ⟨rfl, HB.out⟩
                              case rest => as_aux_lemma =>
                                clear HB w20
                                obtain ⟨rfl, hB⟩ := hcut
                                have HB := (show Hid _ from hB)
                                clear hB
                                go_wp2_with fail
                                go_ret
                                exact ⟨rfl, HAf.out.bel.trans (HB.out.mono HAf.out.bel.size)⟩
                        · have heq : t = so := by
                            have h := HbA.out
                            exact (of_decide_eq_true h).symm
                          subst heq
                          clear hbA HbA
                          obtain ⟨y1, y2, y3⟩ := HAf.out.yes Hso.out
                          have HY1 := (show Hid _ from y1)
                          have HY2 := (show Hid _ from y2)
                          obtain ⟨m, hm⟩ : ∃ m, lu + (unq B lq).length = m := ⟨_, rfl⟩
                          obtain ⟨D, hD⟩ : ∃ D : Nat → Int, il lu zu ++ ol (unq B lq) = il m D := ⟨_, by rw [il_app, hm]⟩
                          have hmb : m ≤ 131072 := by have := unq_len B lq; omega
                          have HD := (show Hid _ from hD)
                          have HQ : Hid ((Res.iv (.slice aQ m cQ) (il m D)).ok wz) := by
                            have h := HAf.out.qu
                            rw [y3, hD, il_len] at h
                            exact h
                          have K46 : Hid (f' 46 = .slice aQ m cQ) := by
                            have h := HAf.out.k46
                            rw [y3, hD, il_len] at h
                            exact h
                          clear y1 y2 y3 hm hD
                          go_upto_block 34 with fail
                          clear c56 c47
                          go_cut [8, 51] from 523 to 542 (fun x8 x51 w8 => x8 = .bool false ∧ Below wz.heap.size wz w8)
                          case first => as_aux_lemma =>
                            go_wp2_with fail
                            go_loopw [8, 51] (fun x8 x51 wr => ∃ k : Nat, k ≤ t ∧ x8 = .bool false ∧ x51 = .int .i64 k ∧ Below wz.heap.size wz wr) (fun _ x _ => t - (intOf x).toNat)
                            case atStart => exact ⟨0, Nat.zero_le _, rfl, rfl, HB.out⟩
                            case round => as_aux_lemma =>
                              clear HB
                              obtain ⟨k, hk, rfl, rfl, hB⟩ := hrel
                              have HB := (show Hid _ from hB)
                              clear hB
                              by_cases hkn : k < t
                              · have hkn' : (k : Int) < (t : Int) := by omega
                                obtain ⟨gT, cT', hgT⟩ := Res.blockI HAf.out.tl (by omega)
                                cases hgT
                                obtain ⟨gL, cL', hgL⟩ := Res.blockI HLt.out (by omega)
                                cases hgL
                                obtain ⟨gO, cO', hgO⟩ := Res.blockI HLo.out (by omega)
                                cases hgO
                                obtain ⟨p11, p12⟩ := Res.cellI (HAf.out.tl.below HB.out) hkn
                                obtain ⟨o11, o12⟩ := Res.cellI (HLo.out.below HB.out) (j := k) (by omega)
                                rw [HY1.out k hkn] at p11
                                have hct : os.getD k 0 < t := HKd.out.lt _ (getD_mem (by rw [Hso.out]; omega))
                                generalize os.getD k 0 = c at p11 o11 hct
                                have hct' : (c : Int) < (t : Int) := by omega
                                obtain ⟨q11, q12⟩ := Res.cellI (HLt.out.below HB.out) hct
                                have c56 := Pg.at (HAf.out.pg.below HB.out) 56 HAf.out.k56 (by decide)
                                generalize ((th.getD c 0 : Nat) : Int) = x at p11 q11
                                go_wp2_with fail
                                go_big_region
                                go_wp2_with fail
                                exact ⟨⟨k + 1, by omega, rfl, by go_num, HB.out.drew⟩, by simp only [intOf]; omega⟩
                              · obtain rfl : t = k := by omega
                                have hkn' : ¬ (t : Int) < (t : Int) := by omega
                                go_wp2_with fail
                                go_meet
                                case rel => exact ⟨rfl, HB.out⟩
                          case rest => as_aux_lemma =>
                            clear HB w20
                            obtain ⟨rfl, hB⟩ := hcut
                            have HB := (show Hid _ from hB)
                            clear hB
                            generalize hwq : wc = w20 at *
                            clear hwq wc
                            obtain ⟨v52, w21, hrun, hSp⟩ := run_append_many w20 au lu cu zu ((HQu.out.below HAf.out.bel).below HB.out) hlu
                            have HSp := (show Hid _ from hSp)
                            clear hSp
                            go_upto_block 36 with fail
                            clear hrun
                            go_cut [8, 52, 53, 54] from 547 to 566 (fun x8 x52 x53 x54 w8 => x8 = .bool false ∧ Spl w20 w8 [.iv x52 (il lu zu ++ ol (unq B lq))])
                            case first => as_aux_lemma =>
                              go_wp2_with fail
                              go_loopw [8, 52, 53, 54, 547] (fun x8 x52 x53 x54 x547 wr => ∃ k : Nat, k ≤ lq ∧ x8 = .bool false ∧ x547 = .int .i64 k ∧ Spl w20 wr [.iv x52 (il lu zu ++ ol (unq B k))]) (fun _ _ _ _ x _ => lq - (intOf x).toNat)
                              case atStart => exact ⟨0, Nat.zero_le _, rfl, rfl, HSp.out.ext (by simp [unq, ol])⟩
                              case round => as_aux_lemma =>
                                clear HSp
                                obtain ⟨k, hk, rfl, rfl, hS⟩ := hrel
                                have HS := (show Hid _ from hS)
                                have HBr : Hid (Below wz.heap.size wz wr) := HB.out.trans (hS.bel.mono HB.out.size)
                                clear hS
                                by_cases hkn : k < lq
                                · have hkn' : (k : Int) < (lq : Int) := by omega
                                  obtain ⟨bq, oq, haq, hc⟩ := ((HQd.out.below HAf.out.bel).below HBr.out).at' (by omega)
                                  have hck := hc k hkn
                                  obtain ⟨gq, cq', hgq⟩ := Res.blockB HAf.out.qd (by omega)
                                  cases hgq
                                  obtain ⟨p11, p12⟩ := Res.cellB (HAf.out.qd.below HBr.out) hkn
                                  rw [HY2.out k hkn] at p11
                                  have c47 := Pg.at (HAf.out.pg.below HBr.out) 47 HAf.out.fk.k47 (by decide)
                                  rw [haq]
                                  clear hc
                                  by_cases hb : B k = true
                                  · rw [hb] at hck
                                    have HBK := (show Hid _ from hb)
                                    clear hb
                                    go_wp2_with fail
                                    refine ⟨⟨k + 1, by omega, rfl, by go_num, HS.out.ext ?_⟩, by simp only [intOf]; omega⟩
                                    rw [unq, HBK.out, if_pos rfl, List.append_nil]
                                  · have hb' : B k = false := by simpa using hb
                                    rw [hb'] at hck
                                    have HBK := (show Hid _ from hb')
                                    clear hb hb'
                                    obtain ⟨mm, hmm⟩ : ∃ mm, (il lu zu ++ ol (unq B k)).length = mm := ⟨_, rfl⟩
                                    have hmm2 : mm ≤ 131072 := by
                                      rw [← hmm, List.length_append, il_len, ol_len]; have := unq_len B k; omega
                                    obtain ⟨g1, cap1, w1, hrun, hown, hgrow, hpl⟩ := run_append_1 _ _ _ ((HS.out.alloc (.cells #[.int .i64 k] 3)).all 0 _ rfl) ⟨wr.heap.size, 0, none⟩ 1 (.int .i64 k) rfl (one_new _ _ _ _ rfl) (by rw [hmm]; omega)
                                    rw [hmm] at hrun hown
                                    have HX : Hid (Spl w20 w1 [.iv (.slice (some ⟨g1, 0, none⟩) (mm + 1) cap1) (il lu zu ++ ol (unq B (k + 1)))]) := by
                                      refine (HS.out.alloc (.cells #[.int .i64 k] 3)).growI 0 rfl hgrow ?_ fun g hg => by
                                        obtain rfl : g1 = g := by simpa [Value.ownBlock] using hg
                                        exact hpl
                                      rw [show ol (unq B (k + 1)) = ol (unq B k) ++ [.int .i64 (k : Int)] by rw [unq, HBK.out, ← ol_snoc]; rfl, ← List.append_assoc]
                                      exact hown
                                    clear hown hgrow hpl hmm hmm2
                                    go_wp2_with fail
                                    exact ⟨⟨k + 1, by omega, rfl, by go_num, HX.out⟩, by simp only [intOf]; omega⟩
                                · obtain rfl : lq = k := by omega
                                  have hkn' : ¬ (lq : Int) < (lq : Int) := by omega
                                  go_wp2_with fail
                                  go_meet
                                  case rel => exact ⟨rfl, HS.out⟩
                            case rest => as_aux_lemma =>
                              obtain ⟨rfl, hS⟩ := hcut
                              clear HSp w21
                              have HBr : Hid (Below wz.heap.size wz wc) := HB.out.trans (hS.bel.mono HB.out.size)
                              clear HB
                              generalize hwq : wc = w22 at *
                              clear hwq wc
                              have h52 := hS.all 0 _ rfl
                              rw [HD.out] at h52
                              obtain ⟨a52, c52, hf52⟩ := OwnV.form' h52
                              rw [il_len] at hf52
                              subst hf52
                              have H52 : Hid ((Res.iv (.slice a52 m c52) (il m D)).ok w22) := h52
                              have c46 := Pg.at (HAf.out.pg.below HBr.out) 46 K46.out (by decide)
                              clear hS h52
                              go_upto_block 38 with fail
                              clear c46
                              go_cut [8, 55, 56] from 577 to 591 (fun x8 x55 x56 w8 => x8 = .bool false ∧ Below wz.heap.size wz w8)
                              case first => as_aux_lemma =>
                                go_wp2_with fail
                                go_loopw [8, 55, 56, 577] (fun x8 x55 x56 x577 wr => ∃ k : Nat, k ≤ m ∧ x8 = .bool false ∧ x577 = .int .i64 k ∧ wr = w22) (fun _ _ _ x _ => m - (intOf x).toNat)
                                case atStart => exact ⟨0, Nat.zero_le _, rfl, rfl, rfl⟩
                                case round => as_aux_lemma =>
                                  obtain ⟨k, hk, rfl, rfl, hw⟩ := hrel
                                  obtain rfl : w22 = wr := hw.symm
                                  clear hw
                                  by_cases hkn : k < m
                                  · have hkn' : (k : Int) < (m : Int) := by omega
                                    obtain ⟨gq, cq', hgq⟩ := Res.blockI HQ.out (by omega)
                                    cases hgq
                                    obtain ⟨gr, cr', hgr⟩ := Res.blockI H52.out (by omega)
                                    cases hgr
                                    obtain ⟨p11, p12⟩ := Res.cellI (HQ.out.below HBr.out) hkn
                                    obtain ⟨q11, q12⟩ := Res.cellI H52.out hkn
                                    have c46 := Pg.at (HAf.out.pg.below HBr.out) 46 K46.out (by decide)
                                    generalize D k = x at p11 q11
                                    go_wp2_with fail
                                    exact ⟨⟨k + 1, by omega, rfl, by go_num, trivial⟩, by simp only [intOf]; omega⟩
                                  · obtain rfl : m = k := by omega
                                    have hkn' : ¬ (m : Int) < (m : Int) := by omega
                                    go_wp2_with fail
                                    go_meet
                                    case rel => exact ⟨rfl, HBr.out⟩
                              case rest => as_aux_lemma =>
                                obtain ⟨rfl, hB⟩ := hcut
                                have HB := (show Hid _ from hB)
                                clear hB
                                have c105 := Pg.at (HAf.out.pg.below HB.out) 105 HAf.out.fk.k105 (by decide)
                                have c102 := Pg.at (HAf.out.pg.below HB.out) 102 HAf.out.fk.k102 (by decide)
                                have c103 := Pg.at (HAf.out.pg.below HB.out) 103 HAf.out.fk.k103 (by decide)
                                go_wp2_with fail
                                go_ret
                                exact ⟨rfl, HAf.out.bel.trans (HB.out.mono HAf.out.bel.size)⟩
    · have htot' : ((tot li n : Nat) : Int) > 65536 := by omega
      generalize tot li n = T at *
      go_wp2_with fail
      go_ret
      exact ⟨rfl, Below.refl _ _⟩
end Go.Proofs.Ybulkecis

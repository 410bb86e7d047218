/-
  The law behind rebuild: what its checks read.
-/
import Derived.Test.YbulkecisBReady
import Derived.Test.YbulkecisRbWalk
namespace Go.Proofs.Ybulkecis
open Go.RowKit _root_.Go.Proofs.Ybulkecis.Own
set_option linter.unusedVariables false
attribute [-go_sem] Builtin.append_

theorem Res.ok.below {w w' : World} {r : Res} (h : r.ok w) (hb : Below w.heap.size w w') : r.ok w' := h.frame hb.size fun g hg => hb.block g (h.lt hg)
theorem il_app (a : Nat) (D : Nat → Int) (l : List Nat) : il a D ++ ol l = il (a + l.length) fun j => if j < a then D j else ((l.getD (j - a) 0 : Nat) : Int) := by
  rw [ol_il]
  apply List.ext_getElem?
  intro k
  by_cases h1 : k < a
  · rw [List.getElem?_append_left (by rw [il_len]; exact h1), il_get h1, il_get (by omega), if_pos h1]
  · rw [List.getElem?_append_right (by rw [il_len]; omega), il_len]
    by_cases h2 : k - a < l.length
    · rw [il_get h2, il_get (by omega), if_neg h1]
    · rw [List.getElem?_eq_none (by rw [il_len]; omega), List.getElem?_eq_none (by rw [il_len]; omega)]
theorem append_nil0 (w : World) (c : Nat) : (Builtin.append_ #[22, 22] 22 #[.slice none 0 0, .slice none 0 c]).run Yba.prog w = .ok (.slice none 0 0) w := by kernel_rfl
/-- append of a slice that came in to nil. -/
theorem run_append_many (w : World) (au : Option Addr) (lu cu : Nat) (zu : Nat → Int) (h : Rv w au lu fun j => .int .i64 (zu j)) (hl : lu ≤ 65536) :
    ∃ v' w', (Builtin.append_ #[22, 22] 22 #[.slice none 0 0, .slice au lu cu]).run Yba.prog w = .ok v' w' ∧ Spl w w' [.iv v' (il lu zu)] := by
  obtain ⟨i3, a3, b3, c3, d3⟩ := info_parts info3
  cases au with
  | none =>
    have h0 : lu = 0 := by
      rcases Nat.eq_zero_or_pos lu with e | e
      · exact e
      · obtain ⟨b, o, h1, _⟩ := h.at' e
        cases h1
    subst h0
    exact ⟨_, w, append_nil0 w cu, (Spl.nil w).add (r := .iv (.slice none 0 0) (il 0 zu)) (OwnV.nil _ _) (fun g hg => by cases hg) (fun k x hx g hg => by cases hg)⟩
  | some a =>
    obtain ⟨v', w', hr, h2, h3, h4, h5⟩ := run_append_v (P := Yba.prog) w 22 22 3 i3 (.int .i64 0) 8 Yba.underlying22 a3 b3 c3 d3 rfl (.slice none 0 0) [] (OwnV.nil _ _) a lu cu (il lu zu) (il_len _ _) (fun j u hu => by
      by_cases hj : j < lu
      · obtain ⟨b, o, h1, hc⟩ := h.at' (by omega)
        cases h1
        rw [il_get hj] at hu
        cases hu
        rw [WideShapes.add_plain]; exact hc j hj
      · rw [List.getElem?_eq_none (by rw [il_len]; omega)] at hu
        cases hu) (fun u hu => by
      unfold il at hu
      rw [List.mem_map] at hu
      obtain ⟨x, _, rfl⟩ := hu
      rfl) (by simp only [List.length_nil]; unfold maxLen; omega) (by simp only [List.length_nil]; omega)
    rw [List.nil_append] at h2
    have hb : Below w.heap.size w w' := ⟨h3.os, h3.tape, h3.output, h3.size, fun k hk => h3.block k hk (by simp [Value.ownBlock])⟩
    refine ⟨v', w', hr, (Spl.nil w).new hb (r := .iv v' (il lu zu)) h2 fun g hg => ?_⟩
    rcases h4 with h4 | ⟨g', hg', hs⟩
    · have e : v'.ownBlock = some g := hg
      rw [h4] at e
      cases e
    · have e : v'.ownBlock = some g := hg
      rw [hg'] at e
      cases e
      exact hs

/-- What the checks read. -/
structure Af (w wz : World) (b bb n q t : Nat) (slv qdv pv sv lv tv a0 a1 : Value) (ap : Option Addr) (cp : Nat) (al : List (Nat × Nat)) (th os : List Nat) (B : Nat → Bool) (ql : List Value) (f' : Nat → Value) (av quv' tv' : Value) (B' : Nat → Bool) (ql' : List Value) (T : Nat → Int) : Prop where
  bel : Below w.heap.size w wz
  pg : (Res.pg b f').ok wz
  fk : Fk f' bb q pv sv lv slv qdv ap cp
  k104 : f' 104 = av
  k46 : f' 46 = quv'
  k56 : f' 56 = tv'
  bud : wz.cell? ⟨bb, 0, none⟩ = some (.int .i64 (16 * ((t : Int) + (al.length : Int))))
  sl : (Res.iv slv (il n fun _ => -1)).ok wz
  ar : (Res.av av al).ok wz
  lar : (Res.av a1 al).ok wz
  lth : (Res.iv tv (ol th)).ok wz
  lor : (Res.iv a0 (ol os)).ok wz
  qd : (Res.bv qdv (bl q B')).ok wz
  qu : (Res.iv quv' ql').ok wz
  tl : (Res.iv tv' (il t T)).ok wz
  no : os.length ≠ t → (∀ j, j < t → T j = ((th.getD j 0 : Nat) : Int)) ∧ B' = B ∧ ql' = ql
  yes : os.length = t → (∀ j, j < t → T j = ((th.getD (os.getD j 0) 0 : Nat) : Int)) ∧ (∀ i, i < q → B' i = true) ∧ ql' = ql ++ ol (unq B q)

theorem call_rebuild {w w1 : World} {b bb n q t cp : Nat} {slv qdv quv pv sv lv tv a0 a1 a2 : Value} {ap : Option Addr} {f : Nat → Value} {O : Nat → List Nat} {th os : List Nat} {al : List (Nat × Nat)} {B : Nat → Bool} {ql x2 : List Value}
    (h : Spl w w1 [.iv a0 (ol os), .av a1 al, .iv a2 x2, .iv tv (ol th), .pg b f, .iv quv ql, .bv qdv (bl q B), .iv lv (ol (flat O n)), .iv sv (il (n + 1) fun v => ((tot (fun v => (O v).length) v : Nat) : Int)), .iv slv (il n fun _ => -1), .iv pv (il n fun v => (v : Int)), .cl bb (.int .i64 0)])
    (HF : Fk f bb q pv sv lv slv qdv ap cp) (HK : f 56 = tv ∧ f 46 = quv ∧ f 100 = .slice none 0 0 ∧ f 101 = .slice none 0 0 ∧ f 104 = .slice none 0 0)
    (HN : th.Nodup ∧ (∀ v, v ∈ th → v < n) ∧ (∀ v, v < n → ∀ x, x ∈ O v → x < n) ∧ n ≤ 1000 ∧ tot (fun v => (O v).length) n ≤ 65536 ∧ q ≤ 65536 ∧ ql.length ≤ 65536)
    (Hth : th.length = t) (Hal : arcsA O th t = al) (hKh : Kh t (mt al) os) (hKe : os.length = t ∨ ∀ c, ¬ ready t (mt al) os c) :
    Calls Yba.prog 11 #[.pointer (some ⟨b, 0, none⟩)] w1 fun e wz => e = .returned (.bool (decide (os.length = t))) ∧ ∃ f' av quv' tv' B' ql' T, Af w wz b bb n q t slv qdv pv sv lv tv a0 a1 ap cp al th os B ql f' av quv' tv' B' ql' T := by
  refine Calls.mono (rebuild_walk w1 b bb n q slv qdv quv pv sv lv tv ap cp f O th B ql (ready_sp h) (ready_st h) (ready_rs h) HF HK HN) ?_
  rintro e wz ⟨os', rfl, hK', hR', f', av, B', quv', ql', hRb⟩
  rw [Hth, Hal] at hK' hR'
  obtain rfl : os' = os := hK'.same hKh hR' hKe
  have hno := hRb.no
  have hyes := hRb.yes
  have hrs := hRb.rs
  have har := hRb.arcs
  rw [Hth] at hno hyes hrs har ⊢
  rw [Hal] at hrs har
  obtain ⟨k0, k1, k2, k3⟩ := ready_keep h hrs.onl
  refine ⟨rfl, f', av, quv', ?_⟩
  by_cases ho : os'.length = t
  · obtain ⟨⟨ov, y1, y2⟩, y3, y4⟩ := hyes ho
    rw [map_il, ho] at y2
    exact ⟨ov, B', ql', fun j => ((th.getD (os'.getD j 0) 0 : Nat) : Int), k3, hrs.pg, hRb.fk, hRb.k104, hRb.k46, y1, hrs.bc, hrs.sl, har, k1, k2, k0, hrs.qd, hrs.qu, y2, fun h => absurd ho h, fun _ => ⟨fun _ _ => rfl, y3, y4⟩⟩
  · obtain ⟨n1, n2, n3, n4⟩ := hno ho
    have k2' := k2
    rw [ol_il, Hth] at k2'
    exact ⟨tv, B', ql', fun j => ((th.getD j 0 : Nat) : Int), k3, hrs.pg, hRb.fk, hRb.k104, hRb.k46, n1, hrs.bc, hrs.sl, har, k1, k2, k0, hrs.qd, hrs.qu, k2', fun _ => ⟨fun _ _ => rfl, n2, n4⟩, fun h => absurd h ho⟩
end Go.Proofs.Ybulkecis

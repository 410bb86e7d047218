/-
  Byte buffers: what an append leaves; base-128 bytes, the law's and the program's.
-/
import Derived.Test.YbulkecgoDoorOwn
import Derived.Test.YbulkecgoDoorNum
import Derived.Test.YbulkecgoDoorPack
namespace Go.Proofs.YbulkecgoDoor
open Go.RowKit Go.Shelf _root_.Go.Proofs.YbulkecgoDoor.Own
set_option linter.unusedVariables false
set_option maxRecDepth 100000

/-- Bytes as cells. -/
def byts (bs : List Nat) : List Value := bs.map fun b => Value.int .u8 ((b : Nat) : Int)
theorem byts_len (bs : List Nat) : (byts bs).length = bs.length := by simp [byts]
theorem byts_app (a b : List Nat) : byts (a ++ b) = byts a ++ byts b := by simp [byts]

/-- The buffer v has become v', which holds bs; of the old blocks only v's own has turned. -/
structure Bf (w w' : World) (v v' : Value) (bs : List Nat) : Prop where
  own : OwnV w' 5 v' (byts bs)
  onl : Only (fun k => v.ownBlock = some k) w w'
  blk : ∀ g, v'.ownBlock = some g → v.ownBlock = some g ∨ w.heap.size ≤ g
theorem Bf.refl {w : World} {v : Value} {bs : List Nat} (h : OwnV w 5 v (byts bs)) : Bf w w v v bs := ⟨h, Only.refl _ _, fun g hg => .inl hg⟩
theorem Bf.trans {w w1 w2 : World} {v v1 v2 : Value} {bs1 bs2 : List Nat} (h : Bf w w1 v v1 bs1) (k : Bf w1 w2 v1 v2 bs2) : Bf w w2 v v2 bs2 := by
  refine ⟨k.own, ⟨k.onl.os.trans h.onl.os, k.onl.tape.trans h.onl.tape, k.onl.output.trans h.onl.output, Nat.le_trans h.onl.size k.onl.size, fun i hi hn => ?_⟩, fun g hg => ?_⟩
  · refine (k.onl.block i (Nat.lt_of_lt_of_le hi h.onl.size) fun e => ?_).trans (h.onl.block i hi hn)
    rcases h.blk i e with e' | e'
    · exact hn e'
    · omega
  · rcases k.blk g hg with e | e
    · exact h.blk g e
    · exact .inr (Nat.le_trans h.onl.size e)
theorem Bf.drew {w w' : World} {v v' : Value} {bs : List Nat} (h : Bf w w' v v' bs) : Bf w w'.drew v v' bs := ⟨h.own.frame fun _ _ => rfl, h.onl.drew, h.blk⟩
theorem Bf.drewN {w w' : World} {v v' : Value} {bs : List Nat} (h : Bf w w' v v' bs) (m : Nat) : Bf w (w'.drewN m) v v' bs := ⟨h.own.frame fun _ _ => rfl, h.onl.drewN m, h.blk⟩
/-- Behind a change that leaves all old blocks. -/
theorem Bf.later {w w' w2 : World} {v v' : Value} {bs : List Nat} (h : Bf w w' v v' bs) (hb : Below w'.heap.size w' w2) : Bf w w2 v v' bs :=
  ⟨h.own.frame fun g hg => hb.block g (h.own.lt hg), ⟨hb.os.trans h.onl.os, hb.tape.trans h.onl.tape, hb.output.trans h.onl.output, Nat.le_trans h.onl.size hb.size, fun i hi hn => (hb.block i (Nat.lt_of_lt_of_le hi h.onl.size)).trans (h.onl.block i hi hn)⟩, h.blk⟩
theorem Bf.form {w w' : World} {v v' : Value} {bs : List Nat} (h : Bf w w' v v' bs) : ∃ ao cap, v' = .slice ao bs.length cap := by
  obtain ⟨ao, cap, e⟩ := h.own.form'
  rw [byts_len] at e
  exact ⟨ao, cap, e⟩

theorem info5 : (Ybad.prog.info? 5).map (fun i => (i.zero, i.size, i.bytes)) = some (some (.int .u8 0), 1, 1) := by kernel_rfl

/-- append of one byte. -/
theorem wpList_push {w0 w : World} {ops : Array Oper} {rest : List Oper} {o : Oper} {a : Act} {Q : Exit → Act → World → Prop} (hgd : o.guard = none) (s x : Operand)
    (ho : o.op = .call { callee := .builtin .append, args := #[s, x], argTypes := #[22, 22] })
    (v0 v : Value) (bs : List Nat) (b : Nat) (z : Int) (hz : z = (b : Int)) (hs : a.eval s = v) (hB : Bf w0 w v0 v bs) (hx : a.eval x = .slice (some ⟨w.heap.size, 0, none⟩) 1 1) (hl : bs.length ≤ 1000000000)
    (hK : ∀ g cap w', Hid (Bf w0 w' v0 (.slice (some ⟨g, 0, none⟩) (bs.length + 1) cap) (bs ++ [b])) → wpList Ybad.prog ops Q rest (a.put o.dst (.slice (some ⟨g, 0, none⟩) (bs.length + 1) cap)) w') :
    wpList Ybad.prog ops Q (o :: rest) a (w.alloc (.cells #[.int .u8 z] 5)) := by
  subst hz
  obtain ⟨i, h1, h2, h3, h4⟩ := info_parts info5
  have hown : OwnV (w.alloc (.cells #[.int .u8 (b : Int)] 5)) 5 v (byts bs) := hB.own.frame fun g hg => Below.heap_alloc _ _ _ (hB.own.lt hg)
  refine wpList_append_n _ hgd s x 22 ho 5 i (.int .u8 0) 1 Ybad.underlying22 h1 h2 h3 h4 rfl v (byts bs) hs hown ⟨w.heap.size, 0, none⟩ 1 1 [.int .u8 (b : Int)] hx rfl (by decide) (one_new _ _ _ _ rfl) (by intro q hq; simp at hq; subst hq; rfl) (by rw [byts_len]; unfold maxLen; omega) (by rw [byts_len]; omega) ?_
  intro g cap w' ho' hg hp hc
  rw [byts_len] at ho' ⊢
  refine hK g cap w' (hB.trans ⟨by rw [byts_app]; exact ho', ?_, ?_⟩)
  · refine ⟨hg.os, hg.tape, hg.output, Nat.le_trans (by simp) hg.size, fun k hk hn => (hg.block k (by simp; omega) (fun e => hn e.symm)).trans (Below.heap_alloc _ _ _ hk)⟩
  · intro g' hg'
    obtain rfl : g = g' := by simpa [Value.ownBlock] using hg'
    rcases hp with hp | hp
    · exact .inl hp
    · exact .inr (Nat.le_trans (by simp) hp)

/-- Base-128 bytes. -/
def uvB (n : Nat) : List Nat := if h : n < 128 then [n] else (n % 128 + 128) :: uvB (n / 128)
termination_by n
theorem uvB_small {n : Nat} (h : n < 128) : uvB n = [n] := by rw [uvB]; simp [h]
theorem uvB_big {n : Nat} (h : ¬ n < 128) : uvB n = (n % 128 + 128) :: uvB (n / 128) := by rw [uvB]; simp [h]
theorem uvB_len : ∀ (m n : Nat), n ≤ m → (uvB n).length = uvl n
  | m, n, hm => by
    by_cases h : n < 128
    · rw [uvB_small h, uvl_small h]; rfl
    · rw [uvB_big h, uvl_big h, List.length_cons, uvB_len (m - 1) (n / 128) (by omega)]
      omega
  termination_by m => m

theorem or128 {y : Nat} (h : y < 128) : bits .or .u8 ((y : Nat) : Int) 128 = ((y + 128 : Nat) : Int) := by
  have h1 := u8_or_nat y 128 (by omega) (by omega)
  rw [Nat.or_comm, nat_join 7 128 y (by decide) h, Nat.add_comm] at h1
  exact h1
theorem or128' : ∀ y, y < 256 → y ||| 128 = y % 128 + 128 := by decide +kernel
theorem uvB_pre {n : Nat} : uvB n ≠ [] := by rw [uvB]; split <;> simp

set_option maxHeartbeats 1000000 in
theorem auv_walk (w0 w : World) (v0 v : Value) (bs : List Nat) (n : Nat) (hn : n < 18446744073709551616) (HB : Hid (Bf w0 w v0 v bs)) (hl : bs.length ≤ 900000000) :
    Calls Ybad.prog 8 #[v, .int .u64 n] w fun e w' => ∃ v', e = .returned v' ∧ Bf w0 w' v0 v' (bs ++ uvB n) := by
  have HL : Hid ((uvB n).length ≤ 10) := by show _ ≤ _; rw [uvB_len n n (Nat.le_refl _)]; exact uvl_10 hn
  obtain ⟨ds, hds⟩ : ∃ ds, bs ++ uvB n = ds := ⟨_, rfl⟩
  have HD : Hid (ds.length ≤ 900000010) := by have := HL.out; show _ ≤ _; rw [← hds]; simp; omega
  rw [hds]
  have HDS : Hid (bs ++ uvB n = ds) := hds
  clear hds
  go_enter Ybad.func8, Ybad.ntmps8
  go_wp2_with fail
  go_loopw [0, 1] (fun x0 x1 wr => ∃ (cs : List Nat) (x : Nat), x1 = .int .u64 x ∧ x ≤ n ∧ Bf w0 wr v0 x0 cs ∧ cs ++ uvB x = ds) (fun _ x _ => (intOf x).toNat)
  case atStart => exact ⟨bs, n, rfl, Nat.le_refl _, HB.out, HDS.out⟩
  case round =>
    obtain ⟨cs, x, rfl, hx, hB, hp⟩ := hrel
    obtain ⟨ao, cap, rfl⟩ := hB.form
    have HBx := (show Hid _ from hB)
    have HP := (show Hid _ from hp)
    have hpl : cs.length ≤ 900000010 := by have := HD.out; rw [← hp] at this; simp at this; omega
    clear hB hp
    by_cases h : x < 128
    · have h' : ¬ (128 : Int) ≤ x := by omega
      go_wp2_with (at_builtin; refine wpList_push rfl (.tmp 16) (.tmp 19) rfl v0 (.slice ao cs.length cap) cs x _ (by rfl) rfl HBx.out rfl (by omega) ?_; intro g1 cap1 w1 HB1)
      go_ret
      have h1 : cs ++ [x] = ds := by have := HP.out; rwa [uvB_small h] at this
      have h2 := HB1.out
      rw [h1] at h2
      exact ⟨_, rfl, h2⟩
    · have h' : (128 : Int) ≤ x := by omega
      have hy : x % 128 < 256 := by omega
      have N1 : bits .and .u64 (x : Int) 127 = ((x % 128 : Nat) : Int) := by
        have := u64_and_nat x 127 (by omega) (by omega)
        rw [nat_mask7] at this
        exact this
      have N2 : ((x % 128 : Nat) : Int) % 256 = ((x % 128 : Nat) : Int) := by omega
      have N3 : bits .or .u8 ((x % 128 : Nat) : Int) 128 = ((x % 128 + 128 : Nat) : Int) := or128 (by omega)
      go_wp2_with (at_builtin; refine wpList_push rfl (.tmp 7) (.tmp 12) rfl v0 (.slice ao cs.length cap) cs (x % 128 + 128) _ (by first | rfl | exact N3 | (rw [N1, N2, N3])) rfl HBx.out rfl (by omega) ?_; intro g1 cap1 w1 HB1)
      refine ⟨⟨cs ++ [x % 128 + 128], x / 128, by go_num, by omega, ?_, ?_⟩, ?_⟩
      · exact HB1.out
      · have := HP.out
        rw [uvB_big h] at this
        rw [List.append_assoc]; exact this
      · simp [intOf]; omega

set_option maxHeartbeats 1000000 in
theorem AppendUvarint_walk (w0 w : World) (v0 v : Value) (bs : List Nat) (n : Nat) (hn : n < 18446744073709551616) (HB : Hid (Bf w0 w v0 v bs)) (hl : bs.length ≤ 900000000) :
    Calls Ybad.prog 52 #[v, .int .u64 n] w fun e w' => ∃ v', e = .returned v' ∧ Bf w0 w' v0 v' (bs ++ uvB n) := by
  have HL : Hid ((uvB n).length ≤ 10) := by show _ ≤ _; rw [uvB_len n n (Nat.le_refl _)]; exact uvl_10 hn
  obtain ⟨ds, hds⟩ : ∃ ds, bs ++ uvB n = ds := ⟨_, rfl⟩
  have HD : Hid (ds.length ≤ 900000010) := by have := HL.out; show _ ≤ _; rw [← hds]; simp; omega
  rw [hds]
  have HDS : Hid (bs ++ uvB n = ds) := hds
  clear hds
  go_enter Ybad.func52, Ybad.ntmps52
  go_wp2_with fail
  go_loopw [0, 1] (fun x0 x1 wr => ∃ (cs : List Nat) (x : Nat), x1 = .int .u64 x ∧ x ≤ n ∧ Bf w0 wr v0 x0 cs ∧ cs ++ uvB x = ds) (fun _ x _ => (intOf x).toNat)
  case atStart => exact ⟨bs, n, rfl, Nat.le_refl _, HB.out, HDS.out⟩
  case round =>
    obtain ⟨cs, x, rfl, hx, hB, hp⟩ := hrel
    obtain ⟨ao, cap, rfl⟩ := hB.form
    have HBx := (show Hid _ from hB)
    have HP := (show Hid _ from hp)
    have hpl : cs.length ≤ 900000010 := by have := HD.out; rw [← hp] at this; simp at this; omega
    clear hB hp
    by_cases h : x < 128
    · have h' : ¬ (128 : Int) ≤ x := by omega
      go_wp2_with (at_builtin; refine wpList_push rfl (.tmp 15) (.tmp 18) rfl v0 (.slice ao cs.length cap) cs x _ (by rfl) rfl HBx.out rfl (by omega) ?_; intro g1 cap1 w1 HB1)
      go_ret
      have h1 : cs ++ [x] = ds := by have := HP.out; rwa [uvB_small h] at this
      have h2 := HB1.out
      rw [h1] at h2
      exact ⟨_, rfl, h2⟩
    · have h' : (128 : Int) ≤ x := by omega
      have hy : x % 128 < 256 := by omega
      have N3 : bits .or .u8 ((x : Int) % 256) 128 = ((x % 128 + 128 : Nat) : Int) := by
        have h1 := u8_or_nat (x % 256) 128 (by omega) (by omega)
        rw [or128' _ (by omega)] at h1
        have h2 : x % 256 % 128 = x % 128 := by omega
        rw [h2] at h1
        exact h1
      go_wp2_with (at_builtin; refine wpList_push rfl (.tmp 7) (.tmp 11) rfl v0 (.slice ao cs.length cap) cs (x % 128 + 128) _ (by first | rfl | exact N3 | (rw [N3])) rfl HBx.out rfl (by omega) ?_; intro g1 cap1 w1 HB1)
      refine ⟨⟨cs ++ [x % 128 + 128], x / 128, by go_num, by omega, ?_, ?_⟩, ?_⟩
      · exact HB1.out
      · have := HP.out
        rw [uvB_big h] at this
        rw [List.append_assoc]; exact this
      · simp [intOf]; omega

/-- append of bytes that were built beside it. -/
theorem push_step {w X : World} {v : Value} {bs news : List Nat} (hB : OwnV w 5 v (byts bs)) (hX : Below w.heap.size w X) {g cap : Nat} {w' : World}
    (ho' : OwnV w' 5 (.slice (some ⟨g, 0, none⟩) ((byts bs).length + news.length) cap) (byts bs ++ byts news)) (hg : X.grownBy w' v.ownBlock) (hp : v.ownBlock = some g ∨ X.heap.size ≤ g) :
    Bf w w' v (.slice (some ⟨g, 0, none⟩) (bs.length + news.length) cap) (bs ++ news) := by
  rw [byts_len] at ho'
  refine ⟨by rw [byts_app]; exact ho', ?_, ?_⟩
  · exact ⟨hg.os.trans hX.os, hg.tape.trans hX.tape, hg.output.trans hX.output, Nat.le_trans hX.size hg.size, fun k hk hn => (hg.block k (Nat.lt_of_lt_of_le hk hX.size) (fun e => hn e.symm)).trans (hX.block k hk)⟩
  · intro g' hg'
    obtain rfl : g = g' := by simpa [Value.ownBlock] using hg'
    rcases hp with hp | hp
    · exact .inl hp
    · exact .inr (Nat.le_trans hX.size hp)
theorem wpList_pushL {w X : World} {ops : Array Oper} {rest : List Oper} {o : Oper} {a : Act} {Q : Exit → Act → World → Prop} (hgd : o.guard = none) (s x : Operand)
    (ho : o.op = .call { callee := .builtin .append, args := #[s, x], argTypes := #[22, 22] })
    (v : Value) (bs news : List Nat) (m : Nat) (hm : news.length = m) (hm0 : 0 < m) (hs : a.eval s = v) (hB : OwnV w 5 v (byts bs)) (hX : Below w.heap.size w X) (gq : Nat) (hx : a.eval x = .slice (some ⟨gq, 0, none⟩) m m)
    (hc : ∀ j, j < m → X.cell? ⟨gq, j, none⟩ = some (.int .u8 ((news.getD j 0 : Nat) : Int))) (hl : bs.length + m ≤ 2000000000)
    (hK : ∀ g cap w', Hid (Bf w w' v (.slice (some ⟨g, 0, none⟩) (bs.length + m) cap) (bs ++ news)) → wpList Ybad.prog ops Q rest (a.put o.dst (.slice (some ⟨g, 0, none⟩) (bs.length + m) cap)) w') :
    wpList Ybad.prog ops Q (o :: rest) a X := by
  subst hm
  obtain ⟨i, h1, h2, h3, h4⟩ := info_parts info5
  have hown : OwnV X 5 v (byts bs) := hB.frame fun g hg => hX.block g (hB.lt hg)
  refine wpList_append_n _ hgd s x 22 ho 5 i (.int .u8 0) 1 Ybad.underlying22 h1 h2 h3 h4 rfl v (byts bs) hs hown ⟨gq, 0, none⟩ news.length news.length (byts news) hx (byts_len _) hm0 ?_ ?_ (by rw [byts_len]; unfold maxLen; omega) (by rw [byts_len]; omega) ?_
  · intro j u hu
    have hj : j < news.length := by have := (List.getElem?_eq_some_iff.1 hu).1; rwa [byts_len] at this
    have e : u = .int .u8 ((news.getD j 0 : Nat) : Int) := by
      have : (byts news)[j]? = some (.int .u8 ((news.getD j 0 : Nat) : Int)) := by simp [byts, hj]
      exact Option.some.inj (hu.symm.trans this)
    rw [e, Go.WideShapes.add_plain, Nat.zero_add]
    exact hc j hj
  · intro q hq
    simp only [byts, List.mem_map] at hq
    obtain ⟨b, _, rfl⟩ := hq
    rfl
  · intro g cap w' ho' hg hp _
    rw [byts_len] at ho' ⊢
    exact hK g cap w' (push_step hB hX (by rw [byts_len]; exact ho') hg hp)
theorem step_pushL {w X : World} {ops : Array Oper} {o : Oper} {a : Act} {K : Act → World → Prop} {Q : Exit → Act → World → Prop} {E : Prop} (hgd : o.guard = none) (s x : Operand)
    (ho : o.op = .call { callee := .builtin .append, args := #[s, x], argTypes := #[22, 22] })
    (v : Value) (bs news : List Nat) (m : Nat) (hm : news.length = m) (hm0 : 0 < m) (hs : a.eval s = v) (hB : OwnV w 5 v (byts bs)) (hX : Below w.heap.size w X) (gq : Nat) (hx : a.eval x = .slice (some ⟨gq, 0, none⟩) m m)
    (hc : ∀ j, j < m → X.cell? ⟨gq, j, none⟩ = some (.int .u8 ((news.getD j 0 : Nat) : Int))) (hl : bs.length + m ≤ 2000000000)
    (hK : ∀ g cap w', Hid (Bf w w' v (.slice (some ⟨g, 0, none⟩) (bs.length + m) cap) (bs ++ news)) → K (a.put o.dst (.slice (some ⟨g, 0, none⟩) (bs.length + m) cap)) w') :
    if Region.wanted o (yielded ops a.tmps) = true then Oper.wp Ybad.prog o a X K Q else E := by
  subst hm
  obtain ⟨i, h1, h2, h3, h4⟩ := info_parts info5
  have hown : OwnV X 5 v (byts bs) := hB.frame fun g hg => hX.block g (hB.lt hg)
  refine step_append_n _ hgd s x 22 ho 5 i (.int .u8 0) 1 Ybad.underlying22 h1 h2 h3 h4 rfl v (byts bs) hs hown ⟨gq, 0, none⟩ news.length news.length (byts news) hx (byts_len _) hm0 ?_ ?_ (by rw [byts_len]; unfold maxLen; omega) (by rw [byts_len]; omega) ?_
  · intro j u hu
    have hj : j < news.length := by have := (List.getElem?_eq_some_iff.1 hu).1; rwa [byts_len] at this
    have e : u = .int .u8 ((news.getD j 0 : Nat) : Int) := by
      have : (byts news)[j]? = some (.int .u8 ((news.getD j 0 : Nat) : Int)) := by simp [byts, hj]
      exact Option.some.inj (hu.symm.trans this)
    rw [e, Go.WideShapes.add_plain, Nat.zero_add]
    exact hc j hj
  · intro q hq
    simp only [byts, List.mem_map] at hq
    obtain ⟨b, _, rfl⟩ := hq
    rfl
  · intro g cap w' ho' hg hp _
    rw [byts_len] at ho' ⊢
    exact hK g cap w' (push_step hB hX (by rw [byts_len]; exact ho') hg hp)

/-- The eight bytes of a word, the lowest first. -/
def le8 (W : Nat) : List Nat := [W % 256, W / 2 ^ 8 % 256, W / 2 ^ 16 % 256, W / 2 ^ 24 % 256, W / 2 ^ 32 % 256, W / 2 ^ 40 % 256, W / 2 ^ 48 % 256, W / 2 ^ 56 % 256]

theorem be8_len (W : Nat) : (be8 W).length = 8 := rfl
theorem le8_len (W : Nat) : (le8 W).length = 8 := rfl

set_option maxHeartbeats 1000000 in
theorem beAppend_walk (w : World) (v : Value) (bs : List Nat) (x : Nat) (hx : x < 18446744073709551616) (HB : Hid (OwnV w 5 v (byts bs))) (hl : bs.length ≤ 1000000000) :
    Calls Ybad.prog 56 #[.agg #[], v, .int .u64 x] w fun e w' => ∃ v', e = .returned v' ∧ Bf w w' v v' (bs ++ be8 x) := by
  go_enter Ybad.func56, Ybad.ntmps56
  go_wp2_with (at_builtin; go_loud (refine wpList_pushL rfl (.tmp 7) (.tmp 31) rfl v bs (be8 x) 8 rfl (by decide) rfl HB.out (((Below.refl _ w).alloc (Nat.le_refl _) _).alloc (by simp) _) (w.heap.size + 1) rfl (by intro j hj; have h9 : j = 0 ∨ j = 1 ∨ j = 2 ∨ j = 3 ∨ j = 4 ∨ j = 5 ∨ j = 6 ∨ j = 7 := (by omega); (rcases h9 with rfl | rfl | rfl | rfl | rfl | rfl | rfl | rfl <;> simp [be8]); omega) (by omega) ?_); intro g1 cap1 w1 HB1)
  go_ret
  exact ⟨_, rfl, HB1.out⟩

set_option maxHeartbeats 1000000 in
theorem leAppend_walk (w : World) (v : Value) (bs : List Nat) (x : Nat) (hx : x < 18446744073709551616) (HB : Hid (OwnV w 5 v (byts bs))) (hl : bs.length ≤ 1000000000) :
    Calls Ybad.prog 53 #[.agg #[], v, .int .u64 x] w fun e w' => ∃ v', e = .returned v' ∧ Bf w w' v v' (bs ++ le8 x) := by
  go_enter Ybad.func53, Ybad.ntmps53
  go_wp2_with (at_builtin; go_loud (refine wpList_pushL rfl (.tmp 7) (.tmp 31) rfl v bs (le8 x) 8 rfl (by decide) rfl HB.out (((Below.refl _ w).alloc (Nat.le_refl _) _).alloc (by simp) _) (w.heap.size + 1) rfl (by intro j hj; have h9 : j = 0 ∨ j = 1 ∨ j = 2 ∨ j = 3 ∨ j = 4 ∨ j = 5 ∨ j = 6 ∨ j = 7 := (by omega); (rcases h9 with rfl | rfl | rfl | rfl | rfl | rfl | rfl | rfl <;> simp [le8]); omega) (by omega) ?_); intro g1 cap1 w1 HB1)
  go_ret
  exact ⟨_, rfl, HB1.out⟩

theorem not_i64 (v : Int) (h : -9223372036854775808 ≤ v ∧ v ≤ 9223372036854775807) : bits .xor .i64 (-1) v = -v - 1 := by
  show IntKind.i64.wrap ((BitVec.ofInt 64 (-1) ^^^ BitVec.ofInt 64 v).toNat : Int) = _
  have h1 : BitVec.ofInt 64 (-1) = BitVec.allOnes 64 := by decide
  rw [h1, BitVec.allOnes_xor, BitVec.toNat_not, BitVec.toNat_ofInt]
  have h2 : ∀ x, IntKind.i64.wrap x = wrap64 x := fun x => by simp [IntKind.wrap, IntKind.bits, IntKind.signed, wrap64]; split <;> omega
  rw [h2]
  unfold wrap64
  omega

set_option maxHeartbeats 1000000 in
theorem azig_walk (v : Int) (w : World) (hv : -9223372036854775808 ≤ v ∧ v ≤ 9223372036854775807) :
    Calls Ybad.prog 17 #[.int .i64 v] w fun e w' => e = .returned (.int .u64 (zg v)) ∧ w' = w := by
  have HZ : Hid (((zg v : Nat) : Int) = if 0 ≤ v then v * 2 else -(v + 1) * 2 + 1) := by show _ = _; unfold zg; split <;> omega
  obtain ⟨h1, h2⟩ := hv
  by_cases h : 0 ≤ v
  · go_enter Ybad.func17, Ybad.ntmps17
    go_wp2_with fail
    go_ret
    exact ⟨by have h9 := HZ.out; rw [if_pos h] at h9; rw [h9]; rfl, rfl⟩
  · have N3 : Hid (bits .or .u64 (IntKind.u64.wrap (IntKind.u64.wrap (bits .xor .i64 (-1) v) * 2)) 1 = ((zg v : Nat) : Int)) := by
      show _ = _
      rw [not_i64 v ⟨h1, h2⟩]
      obtain ⟨q, hq⟩ : ∃ q : Nat, -v - 1 = (q : Int) := ⟨(-v - 1).toNat, by omega⟩
      rw [hq, IntKind.wrap_u64, IntKind.wrap_u64]
      have e : (q : Int) % 18446744073709551616 * 2 % 18446744073709551616 = ((q * 2 : Nat) : Int) := by omega
      rw [e]
      have h9 := u64_or_nat (q * 2) 1 (by omega) (by omega)
      rw [nat_join 1 (q * 2) 1 (by omega) (by omega)] at h9
      have h8 := HZ.out
      rw [if_neg h] at h8
      rw [h8]
      exact h9.trans (by omega)
    go_enter Ybad.func17, Ybad.ntmps17
    go_wp2_with fail
    go_ret
    exact ⟨by rw [← N3.out]; rfl, rfl⟩

set_option maxHeartbeats 1000000 in
theorem AppendVarint_walk (w0 w : World) (v0 v : Value) (bs : List Nat) (z : Int) (hz : -9223372036854775808 ≤ z ∧ z ≤ 9223372036854775807) (HB : Hid (Bf w0 w v0 v bs)) (hl : bs.length ≤ 900000000) :
    Calls Ybad.prog 50 #[v, .int .i64 z] w fun e w' => ∃ v', e = .returned v' ∧ Bf w0 w' v0 v' (bs ++ uvB (zg z)) := by
  have KZ := (show Hid _ from zigzag_walk z w hz)
  have KU := (show Hid _ from AppendUvarint_walk w0 w v0 v bs (zg z) (zg_lt hz) HB hl)
  generalize zg z = Z at *
  go_enter Ybad.func50, Ybad.ntmps50
  go_wp2_with fail
  refine Calls.mono KZ.out ?_
  rintro e w1 ⟨rfl, hw1⟩
  obtain rfl : w = w1 := hw1.symm
  clear hw1
  go_wp2_with fail
  refine Calls.mono KU.out ?_
  rintro e w2 ⟨v2, rfl, hB⟩
  have HBB := (show Hid _ from hB)
  clear hB
  go_wp2_with fail
  go_ret
  exact ⟨_, rfl, HBB.out⟩
end Go.Proofs.YbulkecgoDoor

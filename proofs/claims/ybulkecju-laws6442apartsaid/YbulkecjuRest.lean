/-
  zzs6442arest: the outbox holds what it should.
-/
import Derived.Test.YbulkecjuEncode
import Derived.Test.YbulkecjuLex
namespace Go.Proofs.Ybulkecju
open Go.RowKit Own
set_option linter.unusedVariables false

set_option maxHeartbeats 800000 in
theorem isZero_zero (w : World) : Calls Yba.prog 20 #[.agg #[.int .u64 0, .int .i64 0, .pointer none]] w fun e w' => e = .returned (.bool true) ∧ Below w.heap.size w w' := by
  go_enter Yba.func20, Yba.ntmps20
  go_wp2
  go_ret
  exact ⟨rfl, (Below.refl _ w).alloc (Nat.le_refl _) _⟩

/-- The outbox's cells, but for the lock and the condition. -/
structure Box (w : World) (ob : Nat) (ov pv : Value) (wt : Int) (rel cl : Bool) (rd td : Int) (tl tm : Bool) (st tk : Int) (ak wa : Bool) : Prop where
  c9 : w.cell? ⟨ob, 9, none⟩ = some ov
  c10 : w.cell? ⟨ob, 10, none⟩ = some pv
  c11 : w.cell? ⟨ob, 11, none⟩ = some (.int .i64 wt)
  c12 : w.cell? ⟨ob, 12, none⟩ = some (.bool rel)
  c13 : w.cell? ⟨ob, 13, none⟩ = some (.bool cl)
  c14 : w.cell? ⟨ob, 14, none⟩ = some (.int .u64 rd)
  c15 : w.cell? ⟨ob, 15, none⟩ = some (.int .u64 td)
  c16 : w.cell? ⟨ob, 16, none⟩ = some (.bool tl)
  c17 : w.cell? ⟨ob, 17, none⟩ = some (.bool tm)
  c18 : w.cell? ⟨ob, 18, none⟩ = some (.int .u64 st)
  c19 : w.cell? ⟨ob, 19, none⟩ = some (.int .u64 tk)
  c20 : w.cell? ⟨ob, 20, none⟩ = some (.int .u64 0)
  c21 : w.cell? ⟨ob, 21, none⟩ = some (.int .i64 0)
  c22 : w.cell? ⟨ob, 22, none⟩ = some (.pointer none)
  c23 : w.cell? ⟨ob, 23, none⟩ = some (.bool ak)
  c24 : w.cell? ⟨ob, 24, none⟩ = some (.bool wa)

theorem Box.below {w w' : World} {ob : Nat} {ov pv : Value} {wt : Int} {rel cl : Bool} {rd td : Int} {tl tm : Bool} {st tk : Int} {ak wa : Bool} (h : Box w ob ov pv wt rel cl rd td tl tm st tk ak wa) (hb : Below w.heap.size w w') : Box w' ob ov pv wt rel cl rd td tl tm st tk ak wa := by
  have hl : ob < w.heap.size := World.block_lt_of_cell? w _ h.c9
  have e : ∀ k, w'.cell? ⟨ob, k, none⟩ = w.cell? ⟨ob, k, none⟩ := fun k => hb.cell (p := ⟨ob, k, none⟩) hl
  exact ⟨(e 9).trans h.c9, (e 10).trans h.c10, (e 11).trans h.c11, (e 12).trans h.c12, (e 13).trans h.c13, (e 14).trans h.c14, (e 15).trans h.c15, (e 16).trans h.c16, (e 17).trans h.c17, (e 18).trans h.c18, (e 19).trans h.c19, (e 20).trans h.c20, (e 21).trans h.c21, (e 22).trans h.c22, (e 23).trans h.c23, (e 24).trans h.c24⟩

def LsOk (w : World) (u v : Value) : Prop := ∀ w', Below w.heap.size w w' → Calls Yba.prog 19 #[u, v] w' fun e w'' => e = .returned (.bool true) ∧ ∃ n, w'' = w'.drewN n

/-- A world that is later than w: nothing of w's has turned. -/
structure Later (w : World) where
  W : World
  bel : Below w.heap.size w W

/-- A region that draws its order, whose operations only read and whose callees may make memory: one walk. -/
theorem wp_region_later {P : Program} {id : Nat} {Q : Exit → Act → World → Prop} {a : Act} {w : World} {l : List Oper} (hm : P.follows .mixedOrders = true) (hB : Region.lexB .any l.toArray = true)
    (h : wpQuiet P l.toArray (fun w' => ∃ x : Later w, w' = x.W) (fun a' => ∀ w', (∃ x : Later w, w' = x.W) → Q .normal a' w') l a) : (Code.region id l.toArray true).wp P Q a w :=
  wp_region_quiet (C := fun w' => ∃ x : Later w, w' = x.W) hm hB ⟨⟨w.drew, (Below.refl _ w).drew⟩, rfl⟩ h

theorem Calls.later {P : Program} {f : FuncId} {args : Array Value} {w : World} {x : Later w} {v : Value}
    (h : Calls P f args x.W fun e w' => e = .returned v ∧ Below x.W.heap.size x.W w') : Calls P f args x.W fun e w' => e = .returned v ∧ ∃ y : Later w, w' = y.W :=
  h.mono fun _ w' ⟨he, hw⟩ => ⟨he, ⟨w', x.bel.trans (hw.mono x.bel.size)⟩, rfl⟩

set_option maxHeartbeats 4000000 in
set_option maxRecDepth 100000 in
theorem rest_true (w : World) (ob : Nat) (ov pv ow pr sO sP : Value) (wt swt : Int) (rel cl : Bool) (rd td std : Int) (tl stl tm : Bool) (st tk : Int) (ak wa : Bool)
    (HB : Hid (Box w ob ov pv wt rel cl rd td tl tm st tk ak wa)) (H1 : Hid (LsOk w ov ow)) (H2 : Hid (LsOk w pv pr)) :
    Calls Yba.prog 9 #[.pointer (some ⟨ob, 0, none⟩), .agg #[sO, sP, .int .i64 swt, .bool rel, .bool cl, .int .u64 rd, .int .u64 std, .bool stl, .bool tm, .int .u64 st, .int .u64 tk, .bool ak, .bool wa], ow, pr, .int .i64 wt, .bool tl, .int .u64 td] w
      fun e w' => e = .returned (.bool true) ∧ Below w.heap.size w w' := by
  have hol : ob < w.heap.size := World.block_lt_of_cell? w _ HB.out.c9
  go_enter Yba.func9, Yba.ntmps9
  go_wp2_with fail
  have hb1 : Below w.heap.size w (w.alloc (Obj.cells #[sO, sP, Value.int IntKind.i64 swt, Value.bool rel, Value.bool cl, Value.int IntKind.u64 rd, Value.int IntKind.u64 std, Value.bool stl, Value.bool tm, Value.int IntKind.u64 st, Value.int IntKind.u64 tk, Value.bool ak, Value.bool wa] 25)) := (Below.refl _ w).alloc (Nat.le_refl _) _
  have hrow := heap_alloc_new w (Obj.cells #[sO, sP, Value.int IntKind.i64 swt, Value.bool rel, Value.bool cl, Value.int IntKind.u64 rd, Value.int IntKind.u64 std, Value.bool stl, Value.bool tm, Value.int IntKind.u64 st, Value.int IntKind.u64 tk, Value.bool ak, Value.bool wa] 25)
  generalize (w.alloc (Obj.cells #[sO, sP, Value.int IntKind.i64 swt, Value.bool rel, Value.bool cl, Value.int IntKind.u64 rd, Value.int IntKind.u64 std, Value.bool stl, Value.bool tm, Value.int IntKind.u64 st, Value.int IntKind.u64 tk, Value.bool ak, Value.bool wa] 25)) = w1 at *
  have hsb1 : w.heap.size < w1.heap.size := lt_of_block hrow
  have hB1 : Box w1 ob ov pv wt rel cl rd td tl tm st tk ak wa := HB.out.below hb1
  have HBL : Hid (∀ x : Later w1, Below w.heap.size w x.W) := fun x => hb1.trans (x.bel.mono hb1.size)
  have eb : ∀ x : Later w1, Box x.W ob ov pv wt rel cl rd td tl tm st tk ak wa := fun x => hB1.below x.bel
  have er : ∀ (x : Later w1) (k : Nat), x.W.cell? ⟨w.heap.size, k, none⟩ = (#[sO, sP, Value.int IntKind.i64 swt, Value.bool rel, Value.bool cl, Value.int IntKind.u64 rd, Value.int IntKind.u64 std, Value.bool stl, Value.bool tm, Value.int IntKind.u64 st, Value.int IntKind.u64 tk, Value.bool ak, Value.bool wa])[k]? := fun x k => (x.bel.cell (p := ⟨w.heap.size, k, none⟩) hsb1).trans (cell_of_row w1 w.heap.size k _ _ _ hrow)
  have r3 : ∀ x : Later w1, x.W.cell? ⟨w.heap.size, 3, none⟩ = some (.bool rel) := fun x => er x 3
  have r4 : ∀ x : Later w1, x.W.cell? ⟨w.heap.size, 4, none⟩ = some (.bool cl) := fun x => er x 4
  have r5 : ∀ x : Later w1, x.W.cell? ⟨w.heap.size, 5, none⟩ = some (.int .u64 rd) := fun x => er x 5
  have r8 : ∀ x : Later w1, x.W.cell? ⟨w.heap.size, 8, none⟩ = some (.bool tm) := fun x => er x 8
  have r9 : ∀ x : Later w1, x.W.cell? ⟨w.heap.size, 9, none⟩ = some (.int .u64 st) := fun x => er x 9
  have r10 : ∀ x : Later w1, x.W.cell? ⟨w.heap.size, 10, none⟩ = some (.int .u64 tk) := fun x => er x 10
  have r11 : ∀ x : Later w1, x.W.cell? ⟨w.heap.size, 11, none⟩ = some (.bool ak) := fun x => er x 11
  have r12 : ∀ x : Later w1, x.W.cell? ⟨w.heap.size, 12, none⟩ = some (.bool wa) := fun x => er x 12
  have o9 := fun x => (eb x).c9
  have o10 := fun x => (eb x).c10
  have o11 := fun x => (eb x).c11
  have o12 := fun x => (eb x).c12
  have o13 := fun x => (eb x).c13
  have o14 := fun x => (eb x).c14
  have o15 := fun x => (eb x).c15
  have o16 := fun x => (eb x).c16
  have o17 := fun x => (eb x).c17
  have o18 := fun x => (eb x).c18
  have o19 := fun x => (eb x).c19
  have o20 := fun x => (eb x).c20
  have o21 := fun x => (eb x).c21
  have o22 := fun x => (eb x).c22
  have o23 := fun x => (eb x).c23
  have o24 := fun x => (eb x).c24
  have K1 : Hid (∀ x : Later w1, Calls Yba.prog 19 #[ov, ow] x.W fun e w' => e = .returned (.bool true) ∧ ∃ y : Later w1, w' = y.W) := fun x => Calls.later ((H1.out x.W (HBL.out x)).mono fun e w' ⟨he, n, hn⟩ => ⟨he, hn ▸ below_drewN (Below.refl _ _) n⟩)
  have K2 : Hid (∀ x : Later w1, Calls Yba.prog 19 #[pv, pr] x.W fun e w' => e = .returned (.bool true) ∧ ∃ y : Later w1, w' = y.W) := fun x => Calls.later ((H2.out x.W (HBL.out x)).mono fun e w' ⟨he, n, hn⟩ => ⟨he, hn ▸ below_drewN (Below.refl _ _) n⟩)
  have K3 : Hid (∀ x : Later w1, Calls Yba.prog 20 #[.agg #[.int .u64 0, .int .i64 0, .pointer none]] x.W fun e w' => e = .returned (.bool true) ∧ ∃ y : Later w1, w' = y.W) := fun x => Calls.later (isZero_zero x.W)
  clear eb er hB1 hrow hb1 HB H1 H2
  have hne : Nonempty (Later w1) := ⟨⟨w1, Below.refl _ _⟩⟩
  refine wp_region_later (by kernel_rfl) (lexB_of (by kernel_rfl) (by kernel_rfl)) ?_
  simp only [List.append_eq, List.cons_append, List.nil_append]
  repeat (go_big_quiet_step (first | (go_at_call_of 19 ov; exact K1.out _) | (go_at_call_of 19 pv; exact K2.out _) | (go_at_call 20; exact K3.out _)))
  refine wpQuiet_nil ?_
  rintro _ ⟨x, rfl⟩
  go_wp2_with fail
  go_ret
  exact ⟨rfl, HBL.out x⟩
end Go.Proofs.Ybulkecju

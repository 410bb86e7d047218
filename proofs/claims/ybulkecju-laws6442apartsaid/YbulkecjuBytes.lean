/-
  Byte slices as the law reads them; bytes.Equal and zzs6442asame on two that read alike.
-/
import Derived.Test.YbulkecjuSync
import Derived.Laws.BytesArg
import Derived.BigQuiet
import Derived.Deep.QuietTactic
import Derived.WalkSmall
import Derived.Lib.SliceRun
namespace Go.Proofs.Ybulkecju
open Go.RowKit
set_option linter.unusedVariables false

/-- v reads as the bytes s. -/
def Byt (w : World) (v : Value) (s : List Int) : Prop :=
  ∃ ao l c, v = .slice ao l c ∧ l = s.length ∧ l ≤ c ∧ (ao = none → l = 0) ∧ ∀ a, ao = some a → ∀ i, i < l → w.cell? (a.add i) = some (.int .u8 (s.getD i 0))

theorem Byt.conv {w : World} {v : Value} {s : List Int} (h : Byt w v s) : (convert 26 9 v).run Yba.prog w = .ok (.string (strOfNums s)) w := by
  obtain ⟨ao, l, c, rfl, hl, hlc, hn, hc⟩ := h
  match ao, hn, hc with
  | none, hn, _ =>
    have h0 := hn rfl
    subst h0
    have : s = [] := List.eq_nil_of_length_eq_zero hl.symm
    subst this
    exact run_convert_bytes_nil w 26 5 Yba.underlying26 Yba.underlying5 0 c 9 Yba.underlying9
  | some a, _, hc =>
    have hc := hc a rfl
    by_cases h0 : l = 0
    · subst h0
      have : s = [] := List.eq_nil_of_length_eq_zero hl.symm
      subst this
      have hl : (loadCells a 0).run Yba.prog w = .ok (([] : List Int).map (Value.int .u8)).toArray w := by
        have := run_loadCells_list (P := Yba.prog) w a [] (fun j v hj => by simp at hj)
        simpa using this
      rw [run_convert_bytes_string w 26 9 5 _ 0 c Yba.underlying26 Yba.underlying5 Yba.underlying9, run_bytesToString w _ 0 c [] hl, foldl_push_bytes]
      simp [strOfNums, ByteArray.empty, ByteArray.emptyWithCapacity]
      rfl
    · obtain ⟨b, off, spot⟩ := a
      have hspot : spot = none := by simpa [Addr.add] using World.cell?_spot (hc 0 (by omega))
      subst hspot
      exact run_convert_bytes_arg w 26 5 Yba.underlying26 Yba.underlying5 b off l c s hl.symm (fun i hi => by rw [← Go.WideShapes.add_plain]; exact hc i hi) 9 Yba.underlying9

theorem Byt.form {w : World} {v : Value} {s : List Int} (h : Byt w v s) : ∃ ao c, v = .slice ao s.length c ∧ s.length ≤ c := by
  obtain ⟨ao, l, c, rfl, rfl, h, _⟩ := h
  exact ⟨ao, c, rfl, h⟩

/-- What is old has not turned. -/
theorem Byt.below {w w' : World} {v : Value} {s : List Int} (h : Byt w v s) (hb : Below w.heap.size w w') : Byt w' v s := by
  obtain ⟨ao, l, c, rfl, h1, h2, h3, h4⟩ := h
  refine ⟨ao, l, c, rfl, h1, h2, h3, fun a ha i hi => ?_⟩
  have := h4 a ha i hi
  rw [← this]
  exact hb.cell (World.block_lt_of_cell? w _ this)

def nilV : Value → Bool
  | .slice none _ _ => true
  | _ => false

theorem eq26 (a : Option Addr) (n c : Nat) (w : World) : (binOp .eql 26 (.slice a n c) (.slice none 0 0)).run Yba.prog w = .ok (.bool a.isNone) w := Lib.run_eql_slice_nil w 26 5 a n c 0 0 Yba.underlying26
theorem neq26 (a : Option Addr) (n c : Nat) (w : World) : (binOp .neq 26 (.slice a n c) (.slice none 0 0)).run Yba.prog w = .ok (.bool !a.isNone) w := by
  have h := eq26 a n c w
  simp only [binOp] at h ⊢
  cases hh : Sem.run Yba.prog (Op.equal 26 (.slice a n c) (.slice none 0 0)) w <;> simp_all
theorem eq22 (a : Option Addr) (n c : Nat) (w : World) : (binOp .eql 22 (.slice a n c) (.slice none 0 0)).run Yba.prog w = .ok (.bool a.isNone) w := Lib.run_eql_slice_nil w 22 26 a n c 0 0 Yba.underlying22

set_option maxHeartbeats 400000 in
theorem bytesEqual_same (v1 v2 : Value) (s : List Int) (w : World) (h1 : Byt w v1 s) (h2 : Byt w v2 s) :
    Calls Yba.prog 11 #[v1, v2] w fun e w' => e = .returned (.bool true) ∧ w' = w := by
  have c1 := h1.conv
  have c2 := h2.conv
  go_enter Yba.func11, Yba.ntmps11
  go_wp2
  go_ret
  exact ⟨rfl, rfl⟩

attribute [local go_sem] eq26 neq26 eq22
set_option maxHeartbeats 400000 in
theorem same_true (v1 v2 : Value) (s : List Int) (w : World) (hn : nilV v1 = nilV v2) (h1 : Byt w v1 s) (h2 : Byt w v2 s) :
    Calls Yba.prog 10 #[v1, v2] w fun e w' => e = .returned (.bool true) ∧ w' = w := by
  have H := (show Hid _ from bytesEqual_same v1 v2 s w h1 h2)
  obtain ⟨a1, cc1, rfl, _⟩ := h1.form
  obtain ⟨a2, cc2, rfl, _⟩ := h2.form
  have hn' : a1.isNone = a2.isNone := by cases a1 <;> cases a2 <;> simp_all [nilV]
  clear h1 h2 hn
  go_enter Yba.func10, Yba.ntmps10
  go_wp2_with fail
  refine Calls.mono H.out ?_
  rintro e w' ⟨rfl, rfl⟩
  go_wp2
  go_ret
  exact ⟨rfl, rfl⟩
end Go.Proofs.Ybulkecju

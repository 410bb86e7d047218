/-
  encodeTaken: nine bytes.
-/
import Derived.Test.YbulkecjuCopy
namespace Go.Proofs.Ybulkecju
open Go.RowKit Own
set_option linter.unusedVariables false

def takenB (r : Int) : List Int := [5, r / 72057594037927936, r / 281474976710656 % 256, r / 1099511627776 % 256, r / 4294967296 % 256, r / 16777216 % 256, r / 65536 % 256, r / 256 % 256, r % 256]

theorem news_new (X : World) (vs : List Value) (t : TypeId) (g : Nat) (hg : g = X.heap.size) : ∀ (j : Nat) (u : Value), vs[j]? = some u → (X.alloc (.cells vs.toArray t)).cell? ((⟨g, 0, none⟩ : Addr).add j) = some u := by
  intro j u hu
  subst hg
  rw [Go.WideShapes.add_plain, Nat.zero_add, cell_of_row _ X.heap.size j _ _ _ (heap_alloc_new X _)]
  simpa using hu

set_option maxHeartbeats 1600000 in
set_option maxRecDepth 100000 in
theorem appendU64 (r : Int) (g B : Nat) (w : World) (hr : 0 ≤ r ∧ r < 18446744073709551616) (HO : Hid (OwnV w 5 (.slice (some ⟨g, 0, none⟩) 1 1) [.int .u8 5])) (hg : B ≤ g) (hB : B ≤ w.heap.size) :
    Calls Yba.prog 24 #[.agg #[], .slice (some ⟨g, 0, none⟩) 1 1, .int .u64 r] w fun e w' => ∃ g1 c1, e = .returned (.slice (some ⟨g1, 0, none⟩) 9 c1) ∧ Byt w' (.slice (some ⟨g1, 0, none⟩) 9 c1) (takenB r) ∧ Below B w w' := by
  obtain ⟨j0, hj, hy0, hy1, hy2⟩ := info_parts info5
  have HO2 : Hid (OwnV ((w.alloc (Obj.cells #[] 67)).alloc (Obj.cells #[Value.int IntKind.u8 (r / 72057594037927936), Value.int IntKind.u8 (r / 281474976710656 % 256), Value.int IntKind.u8 (r / 1099511627776 % 256), Value.int IntKind.u8 (r / 4294967296 % 256), Value.int IntKind.u8 (r / 16777216 % 256), Value.int IntKind.u8 (r / 65536 % 256), Value.int IntKind.u8 (r / 256 % 256), Value.int IntKind.u8 (r % 256)] 5)) 5 (.slice (some ⟨g, 0, none⟩) 1 1) [.int .u8 5]) :=
    (HO.out.frame fun q hq => (((Below.refl w.heap.size w).alloc (Nat.le_refl _) _).alloc (by simp) _).block q (HO.out.lt hq))
  go_enter Yba.func24, Yba.ntmps24
  go_wp2_with (at_builtin; refine wpList_append_n _ rfl (.tmp 7) (.tmp 31) 26 rfl 5 j0 (.int .u8 0) 1 Yba.underlying26 hj hy0 hy1 hy2 rfl (.slice (some ⟨g, 0, none⟩) 1 1) [.int .u8 5] rfl HO2.out ⟨w.heap.size + 1, 0, none⟩ 8 8 [Value.int IntKind.u8 (r / 72057594037927936), Value.int IntKind.u8 (r / 281474976710656 % 256), Value.int IntKind.u8 (r / 1099511627776 % 256), Value.int IntKind.u8 (r / 4294967296 % 256), Value.int IntKind.u8 (r / 16777216 % 256), Value.int IntKind.u8 (r / 65536 % 256), Value.int IntKind.u8 (r / 256 % 256), Value.int IntKind.u8 (r % 256)] rfl rfl (by decide) (news_new _ _ _ _ (by simp)) (by intro q hq; simp at hq; rcases hq with rfl | rfl | rfl | rfl | rfl | rfl | rfl | rfl <;> rfl) (by simp [maxLen]) (by simp) ?_; intro g1 c1 w1 hown hgrow hpl hcap; have HX := (show Hid _ from And.intro hown hgrow); clear hown hgrow hpl hcap)
  go_ret
  obtain ⟨hown, hgrow⟩ := HX.out
  refine ⟨g1, c1, rfl, own_byt hown, ?_⟩
  exact (((Below.refl B w).alloc hB _).alloc (by simp; omega) _).grown hgrow (by simp; omega) (fun k hk => by simp [Value.ownBlock] at hk; omega)

set_option maxHeartbeats 1600000 in
set_option maxRecDepth 100000 in
theorem encode_any (r : Int) (w : World) (hr : 0 ≤ r ∧ r < 18446744073709551616) :
    Calls Yba.prog 15 #[.int .u64 r] w fun e w' => ∃ g1 c1, e = .returned (.slice (some ⟨g1, 0, none⟩) 9 c1) ∧ Byt w' (.slice (some ⟨g1, 0, none⟩) 9 c1) (takenB r) ∧ Below w.heap.size w w' := by
  go_enter Yba.func15, Yba.ntmps15
  go_wp2_with fail
  refine Calls.mono (appendU64 r w.heap.size w.heap.size (w.alloc (Obj.cells #[Value.int IntKind.u8 5] 5)) hr (OwnV.made w 5 [.int .u8 5] (by simp [maxLen])) (Nat.le_refl _) (by simp)) ?_
  rintro e w1 ⟨g1, c1, rfl, h1, h2⟩
  go_wp2_with fail
  go_ret
  exact ⟨g1, c1, rfl, h1, ((Below.refl _ w).alloc (Nat.le_refl _) _).trans h2⟩
end Go.Proofs.Ybulkecju

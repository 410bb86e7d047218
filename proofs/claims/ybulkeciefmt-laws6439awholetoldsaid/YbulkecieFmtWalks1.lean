/-
  Walks of the callees: Uint32 at the three byte orders, fmt.Errorf at the one format.
-/
import Derived.Test.YbulkecieFmtRows
import Derived.WalkKit
import Derived.ProofKit
import Derived.Below
import Derived.BigQuiet
import Derived.Deep.QuietTactic
import Derived.Deep.RegionWith
import Derived.WalkSmall
import Derived.Laws.BitsAllLaws
import Derived.Laws.Bits64
import Derived.Stop.CallBack
import Derived.Stop.IfaceNil
import GoSem.ClaimData
namespace Go.Proofs.YbulkecieFmt
open Go.ChangeShapes Go.WideShapes Go.ChangeAt Go.RowKit
open Go.Extern.Stop Go.Stop Go.Extern
theorem or_add_nat (k a b : Nat) (hak : a < 2 ^ k) (hs : a + b * 2 ^ k < 4294967296) : bits .or .u32 (a : Int) ((b * 2 ^ k : Nat) : Int) = ((a + b * 2 ^ k : Nat) : Int) := by
  show IntKind.u32.wrap ((BitVec.ofInt 32 (a : Int) ||| BitVec.ofInt 32 ((b * 2 ^ k : Nat) : Int)).toNat : Int) = _
  rw [BitVec.toNat_or, ofInt_u32 a (by omega), ofInt_u32 _ (by omega)]
  have e : a ||| b * 2 ^ k = a + b * 2 ^ k := by
    rw [Nat.or_comm, Nat.mul_comm b, ← Nat.two_pow_add_eq_or_of_lt hak b, Nat.add_comm]
  rw [e]
  generalize a + b * 2 ^ k = N at *
  simp only [IntKind.wrap, IntKind.bits, IntKind.signed]
  simp
  omega
theorem or_add_u32 (k : Nat) (a b m : Int) (hm : m = ((2 ^ k : Nat) : Int)) (ha : 0 ≤ a) (hak : a < m) (hb : 0 ≤ b) (hs : a + b * m < 4294967296) : bits .or .u32 a (b * m) = a + b * m := by
  obtain ⟨a, rfl⟩ := Int.eq_ofNat_of_zero_le ha
  obtain ⟨b, rfl⟩ := Int.eq_ofNat_of_zero_le hb
  have h := or_add_nat k a b (by omega) (by
    have e : (b : Int) * m = ((b * 2 ^ k : Nat) : Int) := by rw [hm, Int.natCast_mul]
    rw [e] at hs
    generalize b * 2 ^ k = N at *
    omega)
  have e : (b : Int) * m = ((b * 2 ^ k : Nat) : Int) := by rw [hm, Int.natCast_mul]
  rw [e, h, Int.natCast_add]
theorem ret_u32 {a b : Int} (h : a = b) : Ending.returned (.int .u32 a) = .returned (.int .u32 b) := by rw [h]
theorem le32_val (b0 b1 b2 b3 : Int) (r0 : 0 ≤ b0 ∧ b0 ≤ 255) (r1 : 0 ≤ b1 ∧ b1 ≤ 255) (r2 : 0 ≤ b2 ∧ b2 ≤ 255) (r3 : 0 ≤ b3 ∧ b3 ≤ 255) :
  bits BinOp.or IntKind.u32 (bits BinOp.or IntKind.u32 (bits BinOp.or IntKind.u32 b0 (b1 * 256)) (b2 * 65536)) (b3 * 16777216) = b0 + 256 * b1 + 65536 * b2 + 16777216 * b3 := by
  rw [or_add_u32 8 b0 b1 256 (by decide) (by omega) (by omega) (by omega) (by omega), or_add_u32 16 _ b2 65536 (by decide) (by omega) (by omega) (by omega) (by omega), or_add_u32 24 _ b3 16777216 (by decide) (by omega) (by omega) (by omega) (by omega)]
  omega
set_option maxHeartbeats 400000 in
theorem le32 (g o c : Nat) (b0 b1 b2 b3 : Int) (w : World) (hg : g < w.heap.size)
  (h0 : w.cell? ⟨g, o, none⟩ = some (.int .u8 b0)) (h1 : w.cell? ⟨g, o + 1, none⟩ = some (.int .u8 b1))
  (h2 : w.cell? ⟨g, o + 2, none⟩ = some (.int .u8 b2)) (h3 : w.cell? ⟨g, o + 3, none⟩ = some (.int .u8 b3))
  (r0 : 0 ≤ b0 ∧ b0 ≤ 255) (r1 : 0 ≤ b1 ∧ b1 ≤ 255) (r2 : 0 ≤ b2 ∧ b2 ≤ 255) (r3 : 0 ≤ b3 ∧ b3 ≤ 255) :
    Calls Ybaf.prog 36 #[.agg #[], .slice (some ⟨g, o, none⟩) 4 c] w fun e w' => e = .returned (.int .u32 (b0 + 256 * b1 + 65536 * b2 + 16777216 * b3)) ∧ ∃ n, w' = (w.alloc (.cells #[] 28)).drewN n := by
  go_enter Ybaf.func36, Ybaf.ntmps36
  go_wp2
  go_quiet (fail)
  go_wp2
  go_ret
  exact ⟨ret_u32 (le32_val b0 b1 b2 b3 r0 r1 r2 r3), _, rfl⟩
set_option maxHeartbeats 400000 in
theorem be32 (g o c : Nat) (b0 b1 b2 b3 : Int) (w : World) (hg : g < w.heap.size)
  (h0 : w.cell? ⟨g, o, none⟩ = some (.int .u8 b0)) (h1 : w.cell? ⟨g, o + 1, none⟩ = some (.int .u8 b1))
  (h2 : w.cell? ⟨g, o + 2, none⟩ = some (.int .u8 b2)) (h3 : w.cell? ⟨g, o + 3, none⟩ = some (.int .u8 b3))
  (r0 : 0 ≤ b0 ∧ b0 ≤ 255) (r1 : 0 ≤ b1 ∧ b1 ≤ 255) (r2 : 0 ≤ b2 ∧ b2 ≤ 255) (r3 : 0 ≤ b3 ∧ b3 ≤ 255) :
    Calls Ybaf.prog 44 #[.agg #[], .slice (some ⟨g, o, none⟩) 4 c] w fun e w' => e = .returned (.int .u32 (b3 + 256 * b2 + 65536 * b1 + 16777216 * b0)) ∧ ∃ n, w' = (w.alloc (.cells #[] 29)).drewN n := by
  go_enter Ybaf.func44, Ybaf.ntmps44
  go_wp2
  go_quiet (fail)
  go_wp2
  go_ret
  exact ⟨ret_u32 (le32_val b3 b2 b1 b0 r3 r2 r1 r0), _, rfl⟩
set_option maxHeartbeats 400000 in
theorem own32 (q : Nat) (k n : Int) (g o c : Nat) (b0 b1 b2 b3 : Int) (w : World) (hg : q ≠ g)
  (hk : w.cell? ⟨q, 0, none⟩ = some (.int .u32 k)) (hn : w.cell? ⟨q, 0 + 1, none⟩ = some (.int .i64 n)) (hf : w.frozen? ⟨q, 0 + 1, none⟩ = false) (hn0 : 0 ≤ n) (hn1 : n < 10)
  (h0 : w.cell? ⟨g, o, none⟩ = some (.int .u8 b0)) (h1 : w.cell? ⟨g, o + 1, none⟩ = some (.int .u8 b1))
  (h2 : w.cell? ⟨g, o + 2, none⟩ = some (.int .u8 b2)) (h3 : w.cell? ⟨g, o + 3, none⟩ = some (.int .u8 b3))
  (r0 : 0 ≤ b0 ∧ b0 ≤ 255) (r1 : 0 ≤ b1 ∧ b1 ≤ 255) (r2 : 0 ≤ b2 ∧ b2 ≤ 255) (r3 : 0 ≤ b3 ∧ b3 ≤ 255) :
    Calls Ybaf.prog 28 #[.pointer (some ⟨q, 0, none⟩), .slice (some ⟨g, o, none⟩) 4 c] w fun e w' => e = .returned (.int .u32 (bits .xor .u32 (b0 + 256 * b1 + 65536 * b2 + 16777216 * b3) k)) ∧ ∃ m, w' = (w.setCell ⟨q, 1, none⟩ (.int .i64 (n + 1))).drewN m := by
  go_enter Ybaf.func28, Ybaf.ntmps28
  go_wp2
  go_quiet (fail)
  go_wp2
  go_ret
  exact ⟨ret_u32 (by rw [le32_val b0 b1 b2 b3 r0 r1 r2 r3]), _, rfl⟩
theorem call6 (args : Array Value) (w : World) : (callFunc 6 args).run Ybaf.prog w = ((FmtStop.errorf #[9, 46] #[40] args).run Ybaf.prog w).andThen fun v w' => .ok (.value v) w' :=
  run_callFunc_extern Ybaf.func6 (by kernel_rfl) (by kernel_rfl) (by kernel_rfl) (by kernel_rfl) args w
theorem guardOk (name : String) (w : World) : (FmtStop.guard name).run Ybaf.prog w = .ok () w := by kernel_rfl
theorem fmt0 : FmtStop.printed? ⟨#[112, 99, 97, 112, 110, 103, 32, 98, 108, 111, 99, 107, 32, 111, 102, 32, 116, 121, 112, 101, 32, 37, 35, 120, 32, 104, 97, 115, 32, 97, 32, 98, 97, 100, 32, 108, 101, 110, 103, 116, 104, 32, 37, 100]⟩ 2 = some [(0, 120, true), (1, 100, false)] := by kernel_rfl
theorem fmt0r (w : World) : (FmtDoors.printed ⟨#[112, 99, 97, 112, 110, 103, 32, 98, 108, 111, 99, 107, 32, 111, 102, 32, 116, 121, 112, 101, 32, 37, 35, 120, 32, 104, 97, 115, 32, 97, 32, 98, 97, 100, 32, 108, 101, 110, 103, 116, 104, 32, 37, 100]⟩ 2).run Ybaf.prog w = .ok [(0, 120, true), (1, 100, false)] w := by kernel_rfl
def shape23 : List UInt8 := [8, 6, 0, 0, 0, 0, 0, 0, 0, 117, 105, 110, 116, 51, 50]
theorem op23_120w (name : String) (x : Int) (w : World) : (FmtStop.operand name true 120 true (.iface 23 (.int .u32 x))).run Ybaf.prog w = .ok (shape23, Go.Extern.Stop.digits 8 (x % 2 ^ 64).toNat) w := by kernel_rfl
theorem op23_100w (name : String) (x : Int) (w : World) : (FmtStop.operand name true 100 false (.iface 23 (.int .u32 x))).run Ybaf.prog w = .ok (shape23, Go.Extern.Stop.digits 8 (x % 2 ^ 64).toNat) w := by kernel_rfl
theorem ptr49 (w : World) : (FmtStop.ptrTo "errors.errorString").run Ybaf.prog w = .ok 49 w := by kernel_rfl
theorem elem49 (w : World) : (elemOf 49).run Ybaf.prog w = .ok 51 w := by kernel_rfl
attribute [local go_sem] call6 guardOk fmt0 fmt0r op23_120w op23_100w ptr49 elem49
def fmtSx : ByteArray := ⟨#[112, 99, 97, 112, 110, 103, 32, 98, 108, 111, 99, 107, 32, 111, 102, 32, 116, 121, 112, 101, 32, 37, 35, 120, 32, 104, 97, 115, 32, 97, 32, 98, 97, 100, 32, 108, 101, 110, 103, 116, 104, 32, 37, 100]⟩
set_option maxHeartbeats 400000 in
theorem errorf_any (F : Interp) (g : Nat) (x y : Int) (w : World) (hF : F.answers w.tape)
    (c0 : w.cell? ⟨g, 0, none⟩ = some (.iface 23 (.int .u32 x))) (c1 : w.cell? ⟨g, 1, none⟩ = some (.iface 23 (.int .u32 y))) :
    Calls Ybaf.prog 5 #[.string ⟨#[112, 99, 97, 112, 110, 103, 32, 98, 108, 111, 99, 107, 32, 111, 102, 32, 116, 121, 112, 101, 32, 37, 35, 120, 32, 104, 97, 115, 32, 97, 32, 98, 97, 100, 32, 108, 101, 110, 103, 116, 104, 32, 37, 100]⟩, .slice (some ⟨g, 0, none⟩) 2 2] w fun e w' => 
      e = .returned (.iface 49 (.pointer (some ⟨w.heap.size, 0, none⟩))) ∧ ∃ s, w' = (w.alloc (.cells #[.string s] 51)).drew := by
  have hF' : ∀ i name reading k range, w.tape i (.extern (word name reading k) range) = F name reading k := hF
  go_enter Ybaf.func5, Ybaf.ntmps5
  go_wp2
  go_ret
  exact ⟨rfl, _, rfl⟩
end Go.Proofs.YbulkecieFmt

/-
  What take and the law need of package sync: TryLock of a free lock, Broadcast on a fresh Cond that nobody waits on.
-/
import Derived.Test.YbulkecjuLocks
import Derived.Conc.MuLone
import Derived.WalkKit
import Derived.ProofKit
import Derived.Laws.LoneSync
import Derived.Laws.Pointers
namespace Go.Proofs.Ybulkecju
open Go.RowKit Go.MuLone
set_option linter.unusedVariables false

theorem n22 : (Yba.f22.name == "runtime.NumGoroutine") = false := by kernel_rfl
theorem x22 : Extern.findNext Yba.f22 = none := by kernel_rfl
theorem e22 : Extern.find Yba.f22 = some Extern.SyncCond.check := by kernel_rfl
theorem n23 : (Yba.f23.name == "runtime.NumGoroutine") = false := by kernel_rfl
theorem x23 : Extern.findNext Yba.f23 = none := by kernel_rfl
theorem e23 : Extern.find Yba.f23 = some Extern.SyncCond.notifyAll := by kernel_rfl

theorem run_check (a : Addr) (w : World) (hc : w.cell? a = some (.int .u64 0)) (hz : w.frozen? a = false) :
    (callFunc 22 #[.pointer (some a)]).run Yba.prog w = .ok (.value (.tuple #[])) (w.setCell a (.pointer (some a))) := by
  rw [run_callFunc_extern Yba.func22 n22 (by kernel_rfl) x22 e22]
  change (Sem.run Yba.prog (do
    let c ← asAddr (.pointer (some a))
    if ← Extern.SyncCond.isSelf c (← load c) then return Extern.SyncCond.none_
    mark .disable
    let old ← load c .atomic
    if let .int .u64 0 := old then store c (.pointer (some c)) .atomic
    mark .enable
    if let .int .u64 0 := old then return Extern.SyncCond.none_
    if let .pointer (some a) := old then
      if a.block != c.block then unsupported (.noEntry "extern/(*sync.copyChecker).check: a used Cond's value in another variable: whether the library's copy check passes hangs on where the two are laid")
    panicString "sync.Cond is copied") w).andThen _ = _
  simp [Extern.SyncCond.isSelf, asAddr, hc, hz, run_store Yba.prog w a (.pointer (some a)) .atomic rfl, Result.andThen, Extern.SyncCond.none_]
theorem run_notify (b o : Nat) (w : World) (hc : w.cell? ⟨b, o, none⟩ = some (.int .u32 0)) (hc1 : w.cell? ⟨b, o + 1, none⟩ = some (.int .u32 0)) :
    (callFunc 23 #[.pointer (some ⟨b, o, none⟩)]).run Yba.prog w = .ok (.value (.tuple #[])) w := by
  rw [run_callFunc_extern Yba.func23 n23 (by kernel_rfl) x23 e23]
  have hw : IntKind.u32.wrap 0 = 0 := by decide
  simp [Extern.SyncCond.notifyAll, Extern.SyncCond.list, Extern.SyncCond.counter, Addr.add, hc, hc1, Result.andThen, Extern.SyncCond.none_, hw]

set_option maxHeartbeats 800000 in
/-- Broadcast on a Cond at ⟨b, o⟩ (its checker 6 behind it, its list 1 and 2 behind it), nobody waiting, never used. -/
theorem broadcast_first (b o : Nat) (w : World) (hk : w.cell? ⟨b, o + 6, none⟩ = some (.int .u64 0)) (hz : w.frozen? ⟨b, o + 6, none⟩ = false)
    (h1 : w.cell? ⟨b, o + 1, none⟩ = some (.int .u32 0)) (h2 : w.cell? ⟨b, o + 1 + 1, none⟩ = some (.int .u32 0)) :
    Calls Yba.prog 14 #[.pointer (some ⟨b, o, none⟩)] w fun e w' => e = .returned (.tuple #[]) ∧ w' = w.setCell ⟨b, o + 6, none⟩ (.pointer (some ⟨b, o + 6, none⟩)) := by
  have hc := run_check ⟨b, o + 6, none⟩ w hk hz
  have h1' : (w.setCell ⟨b, o + 6, none⟩ (.pointer (some ⟨b, o + 6, none⟩))).cell? ⟨b, o + 1, none⟩ = some (.int .u32 0) := (World.cell?_setCell_other _ _ _ _ (by simp)).trans h1
  have h2' : (w.setCell ⟨b, o + 6, none⟩ (.pointer (some ⟨b, o + 6, none⟩))).cell? ⟨b, o + 1 + 1, none⟩ = some (.int .u32 0) := (World.cell?_setCell_other _ _ _ _ (by simp)).trans h2
  have hn := run_notify b (o + 1) _ h1' h2'
  go_enter Yba.func14, Yba.ntmps14
  go_wp2
  first | go_end0 | (simp only [Exit.inBlock, Exit.then]; refine bodyPost_ret (results_none rfl _ _ _) rfl ?_) | refine bodyPost_ret (results_none rfl _ _ _) rfl ?_
  exact ⟨rfl, rfl⟩

set_option maxHeartbeats 800000 in
theorem itrylock_free (a : Addr) (w : World) (hc : w.cell? a = some (.int .i32 0)) (hz : w.frozen? a = false) :
    Calls Yba.prog 17 #[.pointer (some a)] w fun e w' => e = .returned (.bool true) ∧ w' = w.setCell a (.int .i32 1) := by
  have hd := disable Yba.muLib
  have he := enable Yba.muLib
  have ha := acquire Yba.muLib
  have hcas := run_call_cas_hit (P := Yba.prog) Yba.muLib.f_cas32 (by kernel_rfl) (by kernel_rfl) (by kernel_rfl) .i32 (by kernel_rfl) (y := 1) hc hz
  have hc' : (w.setCell a (.int .i32 1)).cell? a = some (.int .i32 1) := by simp [go_sem, hc]
  have hcv := run_convert_to_unsafe (P := Yba.prog) (src := 73) (dst := 38) Yba.muLib.underlying_tPIMutex Yba.muLib.underlying_tUP Yba.muLib.room_tIMutex hc'
  go_enter Yba.func17, Yba.ntmps17
  go_wp2
  go_ret
  exact ⟨rfl, rfl⟩
set_option maxHeartbeats 800000 in
theorem trylock_free (a : Addr) (w : World) (hc : w.cell? a = some (.int .i32 0)) (hz : w.frozen? a = false) :
    Calls Yba.prog 7 #[.pointer (some a)] w fun e w' => e = .returned (.bool true) ∧ w' = w.setCell a (.int .i32 1) := by
  go_enter Yba.func7, Yba.ntmps7
  go_wp2_with fail
  refine (itrylock_free a w hc hz).mono ?_
  rintro e w' ⟨rfl, rfl⟩
  go_wp2
  go_ret
  exact ⟨rfl, rfl⟩
end Go.Proofs.Ybulkecju

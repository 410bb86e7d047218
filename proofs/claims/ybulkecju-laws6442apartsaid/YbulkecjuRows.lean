/-
  No cell of these rows narrows 'for every input' (looked for: loops, veiled, ifaces, maps, wideKeys, modest, calm, conditions, laid).
  DERIVED. THE GIVEN ROWS OF THIS SEAT. 2 by the template 'for every input the law returns true; each argument reads behind the call as it read before'; 0 by the template 'total and deterministic' (their statements: YbulkecjuTotals.lean).
  GIVEN WITH THE SEED: the statements are not yours to turn. If you find one false, say at which input.
  Laid BY PROGRAM, IN A SANDBOX (cutbox-rows.mjs): the forced cells as the released guide's own fill.sh prints them over the translation efc047300a1926a3… (all of the seat's roots in one cut). By AI agents, Wed Nov 11 2026. No macro, syntax, notation, axiom, sorry.
-/
import Derived.Test.YbulkecjuChecked
import GoSem.Claim
import GoSem.ClaimJoined
import GoSem.ClaimMapViews
import Derived.JoinedTies
import Derived.KernelRfl
namespace Go.Proofs.Ybulkecju
/- THE CELL 'sum', in the pinned program and in every row, IS THE sha256 OF THE DUMP (.gsa) THAT YbulkecjuProg.lean LOADS. Nothing in Lean hashes anything: it is a label: what it is worth is what the hold of that sum in a sandbox is worth. -/
noncomputable def Yba.pinned : Pinned := { name := "ybulkecju", sum := "efc047300a1926a36a092d35f6e42c0b8a967f520bdd8b4bdf46eb5f9c281ee0", checked := Yba.checked }
namespace Rows
def none {H : Type} : Left H := { results := [], args := [] }

/-- 'peerwell.LawS6442APart': WHATEVER THE INPUT: true; the input reads as it did. -/
def lawS6442APartSpec : ChangeSpec := { name := "lawS6442APart", fn := fun _ => fun
  | [d] => { results := [.lit (.bool true)], args := [d] }
  | _ => none }
def lawS6442APartRow : OpenClaim := { program := "ybulkecju", sum := "efc047300a1926a36a092d35f6e42c0b8a967f520bdd8b4bdf46eb5f9c281ee0", func := "example.com/peerwell/peerwell.LawS6442APart", spec := "lawS6442APart", inPlace := ["(*internal/sync.Mutex).Lock", "internal/race.Disable", "sync/atomic.CompareAndSwapInt32", "internal/race.Enable", "internal/race.Acquire", "(*internal/sync.Mutex).lockSlow", "internal/sync.runtime_canSpin", "internal/sync.runtime_doSpin", "internal/sync.throw", "internal/sync.runtime_nanotime", "internal/sync.runtime_SemacquireMutex", "sync/atomic.AddInt32", "(*internal/sync.Mutex).Unlock", "internal/race.ReleaseMerge", "(*internal/sync.Mutex).unlockSlow", "internal/sync.fatal", "internal/sync.runtime_Semrelease", "(*sync.Cond).Broadcast", "(*sync.copyChecker).check", "sync.runtime_notifyListNotifyAll", "(*sync.Cond).Wait", "sync.runtime_notifyListAdd", "internal/race.Read", "sync.runtime_notifyListWait", "(*internal/sync.Mutex).TryLock"], unfollowed := true, recurses := true, named := ["encoding/binary.BigEndian"], apart := false }
def LawS6442APartSaid : Prop := lawS6442APartRow.holds Yba.pinned (OpenSpec.ofChange lawS6442APartSpec)

/-- ITS FALSE NEIGHBOUR: 'it returns false'. Refute it at one input. -/
def lawS6442APartWrong : ChangeSpec := { name := "lawS6442APart", fn := fun _ => fun
  | [d] => { results := [.lit (.bool false)], args := [d] }
  | _ => none }
def LawS6442APartWrongFalsely : Prop := lawS6442APartRow.holds Yba.pinned (OpenSpec.ofChange lawS6442APartWrong)

/-- 'peerwell.LawS6442CWhole': WHATEVER THE INPUT: true; the input reads as it did. -/
def lawS6442CWholeSpec : ChangeSpec := { name := "lawS6442CWhole", fn := fun _ => fun
  | [d1, d2] => { results := [.lit (.bool true)], args := [d1, d2] }
  | _ => none }
def lawS6442CWholeRow : OpenClaim := { program := "ybulkecju", sum := "efc047300a1926a36a092d35f6e42c0b8a967f520bdd8b4bdf46eb5f9c281ee0", func := "example.com/peerwell/peerwell.LawS6442CWhole", spec := "lawS6442CWhole", apart := false }
def LawS6442CWholeSaid : Prop := lawS6442CWholeRow.holds Yba.pinned (OpenSpec.ofChange lawS6442CWholeSpec)

/-- ITS FALSE NEIGHBOUR: 'it returns false'. Refute it at one input. -/
def lawS6442CWholeWrong : ChangeSpec := { name := "lawS6442CWhole", fn := fun _ => fun
  | [d1, d2] => { results := [.lit (.bool false)], args := [d1, d2] }
  | _ => none }
def LawS6442CWholeWrongFalsely : Prop := lawS6442CWholeRow.holds Yba.pinned (OpenSpec.ofChange lawS6442CWholeWrong)

end Rows
end Go.Proofs.Ybulkecju

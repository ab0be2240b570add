/-
  No cell of these rows narrows 'for every input' (looked for: loops, veiled, ifaces, maps, wideKeys, modest, calm, conditions, laid).
  DERIVED. THE GIVEN ROWS OF THIS SEAT. 3 by the template 'for every input the law returns true; each argument reads behind the call as it read before'; 0 by the template 'total and deterministic' (their statements: Qxb6616684aFmtTotals.lean).
  GIVEN WITH THE SEED: the statements are not yours to turn. If you find one false, say at which input.
  Laid BY PROGRAM, IN A SANDBOX (cutbox-rows.mjs): the forced cells as the released guide's own fill.sh prints them over the translation 7f11eadb338febca… (all of the seat's roots in one cut). By AI agents, Wed Nov 11 2026. No macro, syntax, notation, axiom, sorry.
-/
import Derived.Test.Qxb6616684aFmtChecked
import GoSem.Claim
import GoSem.ClaimJoined
import GoSem.ClaimMapViews
import Derived.JoinedTies
import Derived.KernelRfl
namespace Go.Proofs.Qxb6616684aFmt
/- THE CELL 'sum', in the pinned program and in every row, IS THE sha256 OF THE DUMP (.gsa) THAT Qxb6616684aFmtProg.lean LOADS. Nothing in Lean hashes anything: it is a label: what it is worth is what the hold of that sum in a sandbox is worth. -/
noncomputable def Tryf.pinned : Pinned := { name := "qxb6616684afmt", sum := "7f11eadb338febcac80283a6d96082652ef872f0617e9494a3806daa20592542", checked := Tryf.checked }
namespace Rows
def none {H : Type} : Left H := { results := [], args := [] }

/-- 'zzlaws_ignore_b1.FnCoversAgreesWithScope': WHATEVER THE INPUT: true; the input reads as it did. -/
def fnCoversAgreesWithScopeSpec : ChangeSpec := { name := "fnCoversAgreesWithScope", fn := fun _ => fun
  | [d1, d2, d3, d4, d5, d6] => { results := [.lit (.bool true)], args := [d1, d2, d3, d4, d5, d6] }
  | _ => none }
def fnCoversAgreesWithScopeRow : OpenClaim := { program := "qxb6616684afmt", sum := "7f11eadb338febcac80283a6d96082652ef872f0617e9494a3806daa20592542", func := "example.com/lencap/lencap/zzlaws_ignore_b1.FnCoversAgreesWithScope", spec := "fnCoversAgreesWithScope", stops := ["fmt.Sprintf, its operands' methods called"], inPlace := ["(*sync.RWMutex).Lock", "internal/race.Read", "internal/race.Disable", "(*internal/sync.Mutex).Lock", "sync/atomic.CompareAndSwapInt32", "internal/race.Enable", "internal/race.Acquire", "(*internal/sync.Mutex).lockSlow", "internal/sync.runtime_canSpin", "internal/sync.runtime_doSpin", "internal/sync.throw", "internal/sync.runtime_nanotime", "internal/sync.runtime_SemacquireMutex", "sync/atomic.AddInt32", "sync.runtime_SemacquireRWMutex", "(*sync.RWMutex).Unlock", "internal/race.Release", "internal/race.ReleaseMerge", "sync.fatal", "sync.runtime_Semrelease", "(*internal/sync.Mutex).Unlock", "(*internal/sync.Mutex).unlockSlow", "internal/sync.fatal", "internal/sync.runtime_Semrelease", "fmt.Sprintf", "sync/atomic.StorePointer", "sync/atomic.LoadPointer", "(*sync.RWMutex).RLock", "sync.runtime_SemacquireRWMutexR", "(*sync.RWMutex).RUnlock", "(*sync.RWMutex).rUnlockSlow"], unfollowed := true, recurses := true, apart := false }
/-- NO THEOREM (fmt's text is open here; it may be false): for the released tool's asking of the row's closed facts alone. THE STATEMENT IS 'FnCoversAgreesWithScopeToldSaid' (Qxb6616684aFmtCards.lean). -/
def FnCoversAgreesWithScopeFormAsk : Prop := fnCoversAgreesWithScopeRow.holds Tryf.pinned (OpenSpec.ofChange fnCoversAgreesWithScopeSpec)

/-- ITS FALSE NEIGHBOUR: 'it returns false'. Refute it at one input. -/
def fnCoversAgreesWithScopeWrong : ChangeSpec := { name := "fnCoversAgreesWithScope", fn := fun _ => fun
  | [d1, d2, d3, d4, d5, d6] => { results := [.lit (.bool false)], args := [d1, d2, d3, d4, d5, d6] }
  | _ => none }
def FnCoversAgreesWithScopeWrongFormAsk : Prop := fnCoversAgreesWithScopeRow.holds Tryf.pinned (OpenSpec.ofChange fnCoversAgreesWithScopeWrong)

/-- 'zzlaws_ignore_b1.FnCoversWidensFromLineToFile': WHATEVER THE INPUT: true; the input reads as it did. -/
def fnCoversWidensFromLineToFileSpec : ChangeSpec := { name := "fnCoversWidensFromLineToFile", fn := fun _ => fun
  | [d1, d2, d3, d4, d5, d6] => { results := [.lit (.bool true)], args := [d1, d2, d3, d4, d5, d6] }
  | _ => none }
def fnCoversWidensFromLineToFileRow : OpenClaim := { program := "qxb6616684afmt", sum := "7f11eadb338febcac80283a6d96082652ef872f0617e9494a3806daa20592542", func := "example.com/lencap/lencap/zzlaws_ignore_b1.FnCoversWidensFromLineToFile", spec := "fnCoversWidensFromLineToFile", stops := ["fmt.Sprintf, its operands' methods called"], inPlace := ["(*sync.RWMutex).Lock", "internal/race.Read", "internal/race.Disable", "(*internal/sync.Mutex).Lock", "sync/atomic.CompareAndSwapInt32", "internal/race.Enable", "internal/race.Acquire", "(*internal/sync.Mutex).lockSlow", "internal/sync.runtime_canSpin", "internal/sync.runtime_doSpin", "internal/sync.throw", "internal/sync.runtime_nanotime", "internal/sync.runtime_SemacquireMutex", "sync/atomic.AddInt32", "sync.runtime_SemacquireRWMutex", "(*sync.RWMutex).Unlock", "internal/race.Release", "internal/race.ReleaseMerge", "sync.fatal", "sync.runtime_Semrelease", "(*internal/sync.Mutex).Unlock", "(*internal/sync.Mutex).unlockSlow", "internal/sync.fatal", "internal/sync.runtime_Semrelease", "fmt.Sprintf", "sync/atomic.StorePointer", "sync/atomic.LoadPointer", "(*sync.RWMutex).RLock", "sync.runtime_SemacquireRWMutexR", "(*sync.RWMutex).RUnlock", "(*sync.RWMutex).rUnlockSlow"], unfollowed := true, recurses := true, apart := false }
/-- NO THEOREM (fmt's text is open here; it may be false): for the released tool's asking of the row's closed facts alone. THE STATEMENT IS 'FnCoversWidensFromLineToFileToldSaid' (Qxb6616684aFmtCards.lean). -/
def FnCoversWidensFromLineToFileFormAsk : Prop := fnCoversWidensFromLineToFileRow.holds Tryf.pinned (OpenSpec.ofChange fnCoversWidensFromLineToFileSpec)

/-- ITS FALSE NEIGHBOUR: 'it returns false'. Refute it at one input. -/
def fnCoversWidensFromLineToFileWrong : ChangeSpec := { name := "fnCoversWidensFromLineToFile", fn := fun _ => fun
  | [d1, d2, d3, d4, d5, d6] => { results := [.lit (.bool false)], args := [d1, d2, d3, d4, d5, d6] }
  | _ => none }
def FnCoversWidensFromLineToFileWrongFormAsk : Prop := fnCoversWidensFromLineToFileRow.holds Tryf.pinned (OpenSpec.ofChange fnCoversWidensFromLineToFileWrong)

/-- 'zzlaws_ignore_b1.FnDiagnosticMovesWithItsComment': WHATEVER THE INPUT: true; the input reads as it did. -/
def fnDiagnosticMovesWithItsCommentSpec : ChangeSpec := { name := "fnDiagnosticMovesWithItsComment", fn := fun _ => fun
  | [d1, d2, d3, d4, d5, d6, d7] => { results := [.lit (.bool true)], args := [d1, d2, d3, d4, d5, d6, d7] }
  | _ => none }
def fnDiagnosticMovesWithItsCommentRow : OpenClaim := { program := "qxb6616684afmt", sum := "7f11eadb338febcac80283a6d96082652ef872f0617e9494a3806daa20592542", func := "example.com/lencap/lencap/zzlaws_ignore_b1.FnDiagnosticMovesWithItsComment", spec := "fnDiagnosticMovesWithItsComment", stops := ["fmt.Sprintf, its operands' methods called"], inPlace := ["(*sync.RWMutex).Lock", "internal/race.Read", "internal/race.Disable", "(*internal/sync.Mutex).Lock", "sync/atomic.CompareAndSwapInt32", "internal/race.Enable", "internal/race.Acquire", "(*internal/sync.Mutex).lockSlow", "internal/sync.runtime_canSpin", "internal/sync.runtime_doSpin", "internal/sync.throw", "internal/sync.runtime_nanotime", "internal/sync.runtime_SemacquireMutex", "sync/atomic.AddInt32", "sync.runtime_SemacquireRWMutex", "(*sync.RWMutex).Unlock", "internal/race.Release", "internal/race.ReleaseMerge", "sync.fatal", "sync.runtime_Semrelease", "(*internal/sync.Mutex).Unlock", "(*internal/sync.Mutex).unlockSlow", "internal/sync.fatal", "internal/sync.runtime_Semrelease", "fmt.Sprintf", "sync/atomic.StorePointer"], unfollowed := true, recurses := true, apart := false }
/-- NO THEOREM (fmt's text is open here; it may be false): for the released tool's asking of the row's closed facts alone. THE STATEMENT IS 'FnDiagnosticMovesWithItsCommentToldSaid' (Qxb6616684aFmtCards.lean). -/
def FnDiagnosticMovesWithItsCommentFormAsk : Prop := fnDiagnosticMovesWithItsCommentRow.holds Tryf.pinned (OpenSpec.ofChange fnDiagnosticMovesWithItsCommentSpec)

/-- ITS FALSE NEIGHBOUR: 'it returns false'. Refute it at one input. -/
def fnDiagnosticMovesWithItsCommentWrong : ChangeSpec := { name := "fnDiagnosticMovesWithItsComment", fn := fun _ => fun
  | [d1, d2, d3, d4, d5, d6, d7] => { results := [.lit (.bool false)], args := [d1, d2, d3, d4, d5, d6, d7] }
  | _ => none }
def FnDiagnosticMovesWithItsCommentWrongFormAsk : Prop := fnDiagnosticMovesWithItsCommentRow.holds Tryf.pinned (OpenSpec.ofChange fnDiagnosticMovesWithItsCommentWrong)

end Rows
end Go.Proofs.Qxb6616684aFmt

/-
  No cell of these rows narrows 'for every input' (looked for: loops, veiled, ifaces, maps, wideKeys, modest, calm, conditions, laid).
  DERIVED. THE GIVEN ROWS OF THIS SEAT. 3 by the template 'for every input the law returns true; each argument reads behind the call as it read before'; 0 by the template 'total and deterministic' (their statements: YbulkcygiTotals.lean).
  GIVEN WITH THE SEED: the statements are not yours to turn. If you find one false, say at which input.
  Laid BY PROGRAM, IN A SANDBOX (cutbox-rows.mjs): the forced cells as the released guide's own fill.sh prints them over the translation 53e0b246064b8e8c… (all of the seat's roots in one cut). By AI agents, Wed Nov 11 2026. No macro, syntax, notation, axiom, sorry.
-/
import Derived.Test.YbulkcygiChecked
import GoSem.Claim
import GoSem.ClaimJoined
import GoSem.ClaimMapViews
import Derived.JoinedTies
import Derived.KernelRfl
namespace Go.Proofs.Ybulkcygi
/- THE CELL 'sum', in the pinned program and in every row, IS THE sha256 OF THE DUMP (.gsa) THAT YbulkcygiProg.lean LOADS. Nothing in Lean hashes anything: it is a label: what it is worth is what the hold of that sum in a sandbox is worth. -/
noncomputable def Yba.pinned : Pinned := { name := "ybulkcygi", sum := "53e0b246064b8e8cf84cb6ffd6aedff2e832251f0f1b2f706637ebcf74805cae", checked := Yba.checked }
namespace Rows
def none {H : Type} : Left H := { results := [], args := [] }

/-- 'fieldfile.LawS4987AAppendLines': WHATEVER THE INPUT: true; the input reads as it did. -/
def lawS4987AAppendLinesSpec : ChangeSpec := { name := "lawS4987AAppendLines", fn := fun _ => fun
  | [d1, d2, d3, d4, d5, d6, d7, d8, d9] => { results := [.lit (.bool true)], args := [d1, d2, d3, d4, d5, d6, d7, d8, d9] }
  | _ => none }
def lawS4987AAppendLinesRow : OpenClaim := { program := "ybulkcygi", sum := "53e0b246064b8e8cf84cb6ffd6aedff2e832251f0f1b2f706637ebcf74805cae", func := "example.com/keyflock/keyflock/internal/fieldfile.LawS4987AAppendLines", spec := "lawS4987AAppendLines", unfollowed := true, recurses := true, apart := false }
def LawS4987AAppendLinesSaid : Prop := lawS4987AAppendLinesRow.holds Yba.pinned (OpenSpec.ofChange lawS4987AAppendLinesSpec)

/-- ITS FALSE NEIGHBOUR: 'it returns false'. Refute it at one input. -/
def lawS4987AAppendLinesWrong : ChangeSpec := { name := "lawS4987AAppendLines", fn := fun _ => fun
  | [d1, d2, d3, d4, d5, d6, d7, d8, d9] => { results := [.lit (.bool false)], args := [d1, d2, d3, d4, d5, d6, d7, d8, d9] }
  | _ => none }
def LawS4987AAppendLinesWrongFalsely : Prop := lawS4987AAppendLinesRow.holds Yba.pinned (OpenSpec.ofChange lawS4987AAppendLinesWrong)

/-- 'link.LawS4987CClose': WHATEVER THE INPUT: true; the input reads as it did. -/
def lawS4987CCloseSpec : ChangeSpec := { name := "lawS4987CClose", fn := fun _ => fun
  | [d] => { results := [.lit (.bool true)], args := [d] }
  | _ => none }
def lawS4987CCloseRow : OpenClaim := { program := "ybulkcygi", sum := "53e0b246064b8e8cf84cb6ffd6aedff2e832251f0f1b2f706637ebcf74805cae", func := "example.com/keyflock/keyflock/internal/link.LawS4987CClose", spec := "lawS4987CClose", inPlace := ["(*internal/sync.Mutex).Lock", "internal/race.Disable", "sync/atomic.CompareAndSwapInt32", "internal/race.Enable", "internal/race.Acquire", "(*internal/sync.Mutex).lockSlow", "internal/sync.runtime_canSpin", "internal/sync.runtime_doSpin", "internal/sync.throw", "internal/sync.runtime_nanotime", "internal/sync.runtime_SemacquireMutex", "sync/atomic.AddInt32", "(*internal/sync.Mutex).Unlock", "internal/race.ReleaseMerge", "(*internal/sync.Mutex).unlockSlow", "internal/sync.fatal", "internal/sync.runtime_Semrelease", "(*sync.Cond).Broadcast", "(*sync.copyChecker).check", "sync.runtime_notifyListNotifyAll"], apart := false }
def LawS4987CCloseSaid : Prop := lawS4987CCloseRow.holds Yba.pinned (OpenSpec.ofChange lawS4987CCloseSpec)

/-- ITS FALSE NEIGHBOUR: 'it returns false'. Refute it at one input. -/
def lawS4987CCloseWrong : ChangeSpec := { name := "lawS4987CClose", fn := fun _ => fun
  | [d] => { results := [.lit (.bool false)], args := [d] }
  | _ => none }
def LawS4987CCloseWrongFalsely : Prop := lawS4987CCloseRow.holds Yba.pinned (OpenSpec.ofChange lawS4987CCloseWrong)

/-- 'link.LawS4987CTwice': WHATEVER THE INPUT: true; the input reads as it did. -/
def lawS4987CTwiceSpec : ChangeSpec := { name := "lawS4987CTwice", fn := fun _ => fun
  | [d] => { results := [.lit (.bool true)], args := [d] }
  | _ => none }
def lawS4987CTwiceRow : OpenClaim := { program := "ybulkcygi", sum := "53e0b246064b8e8cf84cb6ffd6aedff2e832251f0f1b2f706637ebcf74805cae", func := "example.com/keyflock/keyflock/internal/link.LawS4987CTwice", spec := "lawS4987CTwice", inPlace := ["(*internal/sync.Mutex).Lock", "internal/race.Disable", "sync/atomic.CompareAndSwapInt32", "internal/race.Enable", "internal/race.Acquire", "(*internal/sync.Mutex).lockSlow", "internal/sync.runtime_canSpin", "internal/sync.runtime_doSpin", "internal/sync.throw", "internal/sync.runtime_nanotime", "internal/sync.runtime_SemacquireMutex", "sync/atomic.AddInt32", "(*internal/sync.Mutex).Unlock", "internal/race.ReleaseMerge", "(*internal/sync.Mutex).unlockSlow", "internal/sync.fatal", "internal/sync.runtime_Semrelease", "(*sync.Cond).Broadcast", "(*sync.copyChecker).check", "sync.runtime_notifyListNotifyAll"], apart := false }
def LawS4987CTwiceSaid : Prop := lawS4987CTwiceRow.holds Yba.pinned (OpenSpec.ofChange lawS4987CTwiceSpec)

/-- ITS FALSE NEIGHBOUR: 'it returns false'. Refute it at one input. -/
def lawS4987CTwiceWrong : ChangeSpec := { name := "lawS4987CTwice", fn := fun _ => fun
  | [d] => { results := [.lit (.bool false)], args := [d] }
  | _ => none }
def LawS4987CTwiceWrongFalsely : Prop := lawS4987CTwiceRow.holds Yba.pinned (OpenSpec.ofChange lawS4987CTwiceWrong)

end Rows
end Go.Proofs.Ybulkcygi

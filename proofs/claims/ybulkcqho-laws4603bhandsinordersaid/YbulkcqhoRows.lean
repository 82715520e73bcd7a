/-
  No cell of these rows narrows 'for every input' (looked for: loops, veiled, ifaces, maps, wideKeys, modest, calm, conditions, laid).
  DERIVED. THE GIVEN ROWS OF THIS SEAT. 1 by the template 'for every input the law returns true; each argument reads behind the call as it read before'; 0 by the template 'total and deterministic' (their statements: YbulkcqhoTotals.lean).
  GIVEN WITH THE SEED: the statements are not yours to turn. If you find one false, say at which input.
  Laid BY PROGRAM, IN A SANDBOX (cutbox-rows.mjs): the forced cells as the released guide's own fill.sh prints them over the translation 9d936d6332f88d12… (all of the seat's roots in one cut). By AI agents, Wed Nov 11 2026. No macro, syntax, notation, axiom, sorry.
-/
import Derived.Test.YbulkcqhoChecked
import GoSem.Claim
import GoSem.ClaimJoined
import GoSem.ClaimMapViews
import Derived.JoinedTies
import Derived.KernelRfl
namespace Go.Proofs.Ybulkcqho
/- THE CELL 'sum', in the pinned program and in every row, IS THE sha256 OF THE DUMP (.gsa) THAT YbulkcqhoProg.lean LOADS. Nothing in Lean hashes anything: it is a label: what it is worth is what the hold of that sum in a sandbox is worth. -/
noncomputable def Yba.pinned : Pinned := { name := "ybulkcqho", sum := "9d936d6332f88d12b1ddb9300b8bbe2d6bf636fab97f3e5596b6a90288704c8b", checked := Yba.checked }
namespace Rows
def none {H : Type} : Left H := { results := [], args := [] }

/-- 'handoff.LawS4603BHandsInOrder': WHATEVER THE INPUT: true; the input reads as it did. -/
def lawS4603BHandsInOrderSpec : ChangeSpec := { name := "lawS4603BHandsInOrder", fn := fun _ => fun
  | [d] => { results := [.lit (.bool true)], args := [d] }
  | _ => none }
def lawS4603BHandsInOrderRow : OpenClaim := { program := "ybulkcqho", sum := "9d936d6332f88d12b1ddb9300b8bbe2d6bf636fab97f3e5596b6a90288704c8b", func := "example.com/tallyheart/tallyheart/internal/handoff.LawS4603BHandsInOrder", spec := "lawS4603BHandsInOrder", inPlace := ["(*internal/sync.Mutex).Lock", "internal/race.Disable", "sync/atomic.CompareAndSwapInt32", "internal/race.Enable", "internal/race.Acquire", "(*internal/sync.Mutex).lockSlow", "internal/sync.runtime_canSpin", "internal/sync.runtime_doSpin", "internal/sync.throw", "internal/sync.runtime_nanotime", "internal/sync.runtime_SemacquireMutex", "sync/atomic.AddInt32", "(*internal/sync.Mutex).Unlock", "internal/race.ReleaseMerge", "(*internal/sync.Mutex).unlockSlow", "internal/sync.fatal", "internal/sync.runtime_Semrelease", "(*sync.Cond).Wait", "(*sync.copyChecker).check", "sync.runtime_notifyListAdd", "internal/race.Read", "sync.runtime_notifyListWait"], unfollowed := true, recurses := true, apart := false }
def LawS4603BHandsInOrderSaid : Prop := lawS4603BHandsInOrderRow.holds Yba.pinned (OpenSpec.ofChange lawS4603BHandsInOrderSpec)

/-- ITS FALSE NEIGHBOUR: 'it returns false'. Refute it at one input. -/
def lawS4603BHandsInOrderWrong : ChangeSpec := { name := "lawS4603BHandsInOrder", fn := fun _ => fun
  | [d] => { results := [.lit (.bool false)], args := [d] }
  | _ => none }
def LawS4603BHandsInOrderWrongFalsely : Prop := lawS4603BHandsInOrderRow.holds Yba.pinned (OpenSpec.ofChange lawS4603BHandsInOrderWrong)

end Rows
end Go.Proofs.Ybulkcqho

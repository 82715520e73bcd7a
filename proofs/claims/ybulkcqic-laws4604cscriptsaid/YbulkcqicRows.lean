/-
  No cell of these rows narrows 'for every input' (looked for: loops, veiled, ifaces, maps, wideKeys, modest, calm, conditions, laid).
  DERIVED. THE GIVEN ROWS OF THIS SEAT. 2 by the template 'for every input the law returns true; each argument reads behind the call as it read before'; 0 by the template 'total and deterministic' (their statements: YbulkcqicTotals.lean).
  GIVEN WITH THE SEED: the statements are not yours to turn. If you find one false, say at which input.
  Laid BY PROGRAM, IN A SANDBOX (cutbox-rows.mjs): the forced cells as the released guide's own fill.sh prints them over the translation bad4a71da988bbd6… (all of the seat's roots in one cut). By AI agents, Wed Nov 11 2026. No macro, syntax, notation, axiom, sorry.
-/
import Derived.Test.YbulkcqicChecked
import GoSem.Claim
import GoSem.ClaimJoined
import GoSem.ClaimMapViews
import Derived.JoinedTies
import Derived.KernelRfl
namespace Go.Proofs.Ybulkcqic
/- THE CELL 'sum', in the pinned program and in every row, IS THE sha256 OF THE DUMP (.gsa) THAT YbulkcqicProg.lean LOADS. Nothing in Lean hashes anything: it is a label: what it is worth is what the hold of that sum in a sandbox is worth. -/
noncomputable def Yba.pinned : Pinned := { name := "ybulkcqic", sum := "bad4a71da988bbd6b7fb82d6b62c36acf7d6dfad7f29566beecfaf8c48d895f3", checked := Yba.checked }
namespace Rows
def none {H : Type} : Left H := { results := [], args := [] }

/-- 'cache.LawS4604CReuse': WHATEVER THE INPUT: true; the input reads as it did. -/
def lawS4604CReuseSpec : ChangeSpec := { name := "lawS4604CReuse", fn := fun _ => fun
  | [d1, d2, d3] => { results := [.lit (.bool true)], args := [d1, d2, d3] }
  | _ => none }
def lawS4604CReuseRow : OpenClaim := { program := "ybulkcqic", sum := "bad4a71da988bbd6b7fb82d6b62c36acf7d6dfad7f29566beecfaf8c48d895f3", func := "example.com/ringward/ringward/internal/cache.LawS4604CReuse", spec := "lawS4604CReuse", inPlace := ["sync/atomic.StorePointer", "(*internal/sync.Mutex).Lock", "internal/race.Disable", "sync/atomic.CompareAndSwapInt32", "internal/race.Enable", "internal/race.Acquire", "(*internal/sync.Mutex).lockSlow", "internal/sync.runtime_canSpin", "internal/sync.runtime_doSpin", "internal/sync.throw", "internal/sync.runtime_nanotime", "internal/sync.runtime_SemacquireMutex", "sync/atomic.AddInt32", "(*internal/sync.Mutex).Unlock", "internal/race.ReleaseMerge", "(*internal/sync.Mutex).unlockSlow", "internal/sync.fatal", "internal/sync.runtime_Semrelease", "sync/atomic.LoadPointer"], named := ["encoding/binary.LittleEndian"], apart := false }
def LawS4604CReuseSaid : Prop := lawS4604CReuseRow.holds Yba.pinned (OpenSpec.ofChange lawS4604CReuseSpec)

/-- ITS FALSE NEIGHBOUR: 'it returns false'. Refute it at one input. -/
def lawS4604CReuseWrong : ChangeSpec := { name := "lawS4604CReuse", fn := fun _ => fun
  | [d1, d2, d3] => { results := [.lit (.bool false)], args := [d1, d2, d3] }
  | _ => none }
def LawS4604CReuseWrongFalsely : Prop := lawS4604CReuseRow.holds Yba.pinned (OpenSpec.ofChange lawS4604CReuseWrong)

/-- 'cache.LawS4604CScript': WHATEVER THE INPUT: true; the input reads as it did. -/
def lawS4604CScriptSpec : ChangeSpec := { name := "lawS4604CScript", fn := fun _ => fun
  | [d] => { results := [.lit (.bool true)], args := [d] }
  | _ => none }
def lawS4604CScriptRow : OpenClaim := { program := "ybulkcqic", sum := "bad4a71da988bbd6b7fb82d6b62c36acf7d6dfad7f29566beecfaf8c48d895f3", func := "example.com/ringward/ringward/internal/cache.LawS4604CScript", spec := "lawS4604CScript", inPlace := ["sync/atomic.StorePointer", "(*internal/sync.Mutex).Lock", "internal/race.Disable", "sync/atomic.CompareAndSwapInt32", "internal/race.Enable", "internal/race.Acquire", "(*internal/sync.Mutex).lockSlow", "internal/sync.runtime_canSpin", "internal/sync.runtime_doSpin", "internal/sync.throw", "internal/sync.runtime_nanotime", "internal/sync.runtime_SemacquireMutex", "sync/atomic.AddInt32", "(*internal/sync.Mutex).Unlock", "internal/race.ReleaseMerge", "(*internal/sync.Mutex).unlockSlow", "internal/sync.fatal", "internal/sync.runtime_Semrelease", "sync/atomic.LoadPointer"], named := ["encoding/binary.LittleEndian"], apart := false }
def LawS4604CScriptSaid : Prop := lawS4604CScriptRow.holds Yba.pinned (OpenSpec.ofChange lawS4604CScriptSpec)

/-- ITS FALSE NEIGHBOUR: 'it returns false'. Refute it at one input. -/
def lawS4604CScriptWrong : ChangeSpec := { name := "lawS4604CScript", fn := fun _ => fun
  | [d] => { results := [.lit (.bool false)], args := [d] }
  | _ => none }
def LawS4604CScriptWrongFalsely : Prop := lawS4604CScriptRow.holds Yba.pinned (OpenSpec.ofChange lawS4604CScriptWrong)

end Rows
end Go.Proofs.Ybulkcqic
